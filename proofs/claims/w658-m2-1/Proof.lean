import JvmDerived
import JvmDerived.Pilot.@@N@@Statement
import JvmDerived.Pilot.@@N@@Code
set_option linter.unusedVariables false
set_option linter.unusedSimpArgs false
namespace Jvm.Pilot.@@N@@
open Jvm Jvm.ClassFile Sem Op Lib Jvm.Free Jvm.Stand Jvm.LawKit Jvm.RoadKit Bundle Jvm.Pilot.@@N@@.Jvm.D
theorem own_w {Z : State} {a0 : Array Value} (hw : ∀ d ∈ tables_1, d.before a0 Z = true) (k : Nat) {d : Jvm.Cond} (h : tables_1[k]? = some d) : d.before a0 Z = true := hw _ (List.mem_of_getElem? h)
/-- the run from U ends, and Q says what it leaves -/
def own_Fin (p : Program) (e : Env) (below : List Frame) (s : State) (Q : Option Value → Heap → List Loc → Prop) (k n : Nat) (U : State) : Prop :=
  ∃ s₂ o, Steps p.tables e below U s₂ ∧ s₂.status = .running ∧ Ended s₂ below o ∧ ∃ v L, o = .returned v ∧ Q v s₂.heap L ∧ FrameEnd s o s₂ L k n
theorem own_Fin.step {p : Program} {e : Env} {below : List Frame} {s : State} {Q : Option Value → Heap → List Loc → Prop} {k n : Nat} {U U' : State} (st : ∀ t, Steps p.tables e below U' t → Steps p.tables e below U t) (h : own_Fin p e below s Q k n U') : own_Fin p e below s Q k n U := by
  obtain ⟨s₂, o, h1, h2⟩ := h
  exact ⟨s₂, o, st _ h1, h2⟩
/-- a contract: called with as' at the heap h, the body leaves what Q says -/
abbrev own_Met (l : Launch) (Z : State) (ws : List Jvm.Cond) (y : MethodName) (bytes : ByteArray) (maxL : Nat) (ret : Option FieldType) (rm : Room) (as' : Array Value) (h : Heap) (Q : Option Value → Heap → List Loc → Prop) : Prop :=
  MetFree l y (head1 (Jvm.Cond.code y bytes maxL ret :: ws) rm) (fun a U => a = as' ∧ Z.Warmed39 U.vm ∧ U.heap = h) (fun _ _ _ _ _ => True) (fun _ U o U' => ∃ v L, o = .returned v ∧ Q v U'.heap L ∧ FrameEnd U o U' L rm.cells rm.slots)
/-- what a body leaves that returns w and writes nothing -/
def own_QP (w : Option Value) (h0 : Heap) (n0 : Nat) (v : Option Value) (h : Heap) (L : List Loc) : Prop := v = w ∧ Fr n0 L ∧ h = h0
/-- the law's own end -/
def own_Q0 (n0 : Nat) (v : Option Value) (h : Heap) (L : List Loc) : Prop := v = some (.int 1) ∧ Fr n0 L
theorem own_enter {l : Launch} {Z : State} {ws : List Jvm.Cond} {y : MethodName} {bytes : ByteArray} {maxL : Nat} {ret : Option FieldType} {rm : Room} {as' : Array Value} {h : Heap} {Q : Option Value → Heap → List Loc → Prop} (hp : plainFor y = true)
    (body : ∀ (p : Program) (e : Env) (s : State) (m : MethodId) (below : List Frame) (meth : Method) (c : Code) (s₁ : State), Stand p l e rm s m as' below meth c s₁ [] 0 0 → p.tables.exec = Jvm.exec → c.code = bytes → c.maxLocals = maxL → s.vm.findClass y.cls = some m.cls → meth.sig.returnType = ret → meth.locks = false → meth.name = y.name → Z.Warmed39 s.vm → s₁.heap = h →
      own_Fin p e below s Q rm.cells rm.slots (s₁.setTop (entryFrame m as' maxL))) : own_Met l Z ws y bytes maxL ret rm as' h Q := by
  refine MetFree.of_bodySF hp hisR ?_
  intro p e s m args below meth c s₁ Bd hml0 hP hK
  obtain ⟨rfl, hZ, hh⟩ := hP
  exact body p e s m below meth c s₁ (Stand.of_body Bd) Bd.exec Bd.bytes hml0 (findClass_of_methodNamed Bd.named) Bd.returns (BodyLoose.notSynchronized Bd) (name_of_methodNamed Bd.named Bd.method).1 hZ (by rw [← hh, Bd.state]; rfl)
section Own
variable {p : Program} {l : Launch} {e : Env} {R : Room} {s : State} {m : MethodId} {args : Array Value} {below : List Frame} {meth : Method} {c : Code} {T : State} {locs : List Loc} {cells slots : Nat} {Z : State} {a0 : Array Value} {h : Heap} {Q : Option Value → Heap → List Loc → Prop} {k n : Nat}
theorem own_retI (X : Stand p l e R s m args below meth c T locs cells slots) (hx : p.tables.exec = Jvm.exec) (hlk : meth.locks = false) {pc : Nat} {Ls : Array Slot} {z : Int32} {rest : List Value} (hret : meth.sig.returnType = some .int) (hd : decode c.code pc = .ok (.ireturn, 1)) (hQ : Q (some (.int z)) T.heap locs) (hk : cells ≤ k) (hn : slots ≤ n) :
    own_Fin p e below s Q k n (T.setTop (mkF m pc Ls (.int z :: rest))) := by
  obtain ⟨fs, hr, hrun, hended, hW, hsame⟩ := X.leave (v := some (.int z)) (fun h => by rw [hret] at h; cases h) hlk
  refine ⟨_, _, ?_, hrun, hended, _, _, rfl, hQ, ⟨_, rfl⟩, hW, hsame.mono hk hn⟩
  have hm' : T.vm.method? m = some meth := X.method'
  have hnn : narrow .int (.int z) = .int z := rfl
  show Steps p.tables e below (T.setTop { method := m, pc := pc, locals := Ls, stack := _ :: rest, locked := none }) _
  jvm_step X.here [X.here.top, hx, hd, hm', hret, hnn]
  first | (intro acts; rw [hr _ acts rfl rfl rfl]) | rw [hr _ _ rfl rfl rfl]
  exact Steps.refl _
theorem own_retN (X : Stand p l e R s m args below meth c T locs cells slots) (hx : p.tables.exec = Jvm.exec) (hlk : meth.locks = false) {pc : Nat} {Ls : Array Slot} {z : Int32} {t : FieldType} {rest : List Value} (hret : meth.sig.returnType = some t) (ht : t = .boolean ∨ t = .byte ∨ t = .char ∨ t = .short) (hd : decode c.code pc = .ok (.ireturn, 1)) (hQ : Q (some (.int (nar t z))) T.heap locs) (hk : cells ≤ k) (hn : slots ≤ n) :
    own_Fin p e below s Q k n (T.setTop (mkF m pc Ls (.int z :: rest))) := by
  obtain ⟨fs, hr, hrun, hended, hW, hsame⟩ := X.leave (v := some (.int (nar t z))) (fun h => by rw [hret] at h; cases h) hlk
  exact ⟨_, _, retN X hx hret ht hd hr, hrun, hended, _, _, rfl, hQ, ⟨_, rfl⟩, hW, hsame.mono hk hn⟩
theorem own_retJ (X : Stand p l e R s m args below meth c T locs cells slots) (hx : p.tables.exec = Jvm.exec) (hlk : meth.locks = false) {pc : Nat} {Ls : Array Slot} {z : Int64} (hret : meth.sig.returnType = some .long) (hd : decode c.code pc = .ok (.lreturn, 1)) (hQ : Q (some (.long z)) T.heap locs) (hk : cells ≤ k) (hn : slots ≤ n) :
    own_Fin p e below s Q k n (T.setTop (mkF m pc Ls [.long z])) := by
  obtain ⟨fs, hr, hrun, hended, hW, hsame⟩ := X.leave (v := some (.long z)) (fun h => by rw [hret] at h; cases h) hlk
  exact ⟨_, _, X.lreturnOut hx hret hd hr, hrun, hended, _, _, rfl, hQ, ⟨_, rfl⟩, hW, hsame.mono hk hn⟩
theorem own_retR (X : Stand p l e R s m args below meth c T locs cells slots) (hx : p.tables.exec = Jvm.exec) (hlk : meth.locks = false) {pc : Nat} {Ls : Array Slot} {w : Value} {t : FieldType} (hw : w.isRef = true) (hret : meth.sig.returnType = some t) (ht : t.isReference = true) (hd : decode c.code pc = .ok (.areturn, 1)) (hQ : Q (some w) T.heap locs) (hk : cells ≤ k) (hn : slots ≤ n) :
    own_Fin p e below s Q k n (T.setTop (mkF m pc Ls [w])) := by
  obtain ⟨fs, hr, hrun, hended, hW, hsame⟩ := X.leave (v := some w) (fun h => by rw [hret] at h; cases h) hlk
  exact ⟨_, _, X.areturnOut hx hw hret ht hd hr, hrun, hended, _, _, rfl, hQ, ⟨_, rfl⟩, hW, hsame.mono hk hn⟩
theorem own_ret0 (X : Stand p l e R s m args below meth c T locs cells slots) (hx : p.tables.exec = Jvm.exec) (hlk : meth.locks = false) {pc : Nat} {Ls : Array Slot} (hret : meth.sig.returnType = none) (hd : decode c.code pc = .ok (.return_, 1)) (hQ : Q none T.heap locs) (hk : cells ≤ k) (hn : slots ≤ n) :
    own_Fin p e below s Q k n (T.setTop (mkF m pc Ls [])) := by
  obtain ⟨fs, hr, hrun, hended, hW, hsame⟩ := X.leave (v := none) (fun _ => rfl) hlk
  exact ⟨_, _, X.returnOut hx hret hd hr, hrun, hended, _, _, rfl, hQ, ⟨_, rfl⟩, hW, hsame.mono hk hn⟩
theorem own_lrem {tb : Tables} [Ours tb] {target : State} {g : JFrame} (h : At T m c below) (hx : tb.exec = Jvm.exec) (hg : g.method = m) {x y : Int64} {rest : List Value} (hd : decode c.code g.pc = .ok (.lrem, 1)) (hs : g.stack = .long y :: .long x :: rest) (hy : y ≠ 0)
    (hr : Steps tb e below (T.setTop { g with pc := g.pc + 1, stack := .long (x % y) :: rest }) target) : Steps tb e below (T.setTop g) target := by
  have q : x - x / y * y = x % y := lrem_mod x y
  exact XS.lrem h hx hg hd hs hy (by rw [q]; exact hr)
theorem own_callS (X : Stand p l e R s m args below meth c T locs cells slots) (hx : p.tables.exec = Jvm.exec) (hZ : Z.Warmed39 s.vm) {own : String} {index : Nat} {y : MethodName} {bytes : ByteArray} {maxL : Nat} {ret : Option FieldType} {rm : Room} {as' : Array Value}
    (hown : s.vm.findClass own = some m.cls) (w1 : (Jvm.Cond.methodLink own index y).before a0 Z = true) (w2 : (Jvm.Cond.static y).before a0 Z = true) (w3 : (Jvm.Cond.initialized y.cls).before a0 Z = true) (w4 : (Jvm.Cond.code y bytes maxL ret).before a0 Z = true)
    (hy : y.cls ≠ "java/lang/invoke/MethodHandle" ∧ y.cls ≠ "java/lang/invoke/VarHandle") (hM : own_Met l Z [] y bytes maxL ret rm as' h Q) {W : Nat} (hf : rm.frames + 1 ≤ R.frames) (hl : W + (maxL + 11) + rm.locals ≤ R.locals) (eT : T.heap = h)
    {g : JFrame} (hg : g.method = m) (hsize : g.locals.size = c.maxLocals) {argsL rest : List Value} (hlen : ∀ sig, parseMethodDescriptor y.desc = some sig → argsL.length = sig.parameters.length) (has : argsL.toArray = as') (hstack : g.stack = argsL.reverse ++ rest) (hW : 2 * g.monitorRoom + (rest.map fun v => v.category).sum ≤ W)
    (hdg : decode c.code g.pc = .ok (.invokestatic index, 3)) (hc : cells + rm.cells ≤ R.cells) (hs : slots + rm.slots ≤ R.slots) :
    ∃ v T' L, Stand p l e R s m args below meth c T' (locs ++ L) (cells + rm.cells) (slots + rm.slots) ∧ Q v T'.heap L ∧ ∀ t, Steps p.tables e below (T'.setTop { g with pc := g.pc + 3, stack := v.toList ++ rest }) t → Steps p.tables e below (T.setTop g) t := by
  obtain ⟨v, vm1, ⟨T', L', k', n'⟩, -, X', ⟨Lc, hQ, l1, y1, z1⟩, st⟩ := Jvm.LawKit.callS X hx (y := y) hown (mvT hZ w1) (mvT hZ w2) (mvT hZ w3) (mvT hZ w4) hy (backOf (W := W) hM hZ w4 w3 hf hl) (g := g) hg hsize (argsL := argsL) (rest := rest) hlen hstack hW hdg (fun _ _ => ⟨has, eT, hc, hs⟩)
  dsimp only [Pt.U, Pt.locs, Pt.cells, Pt.slots] at X' l1 y1 z1 st hQ
  subst l1 y1 z1
  exact ⟨v, T', Lc, X', hQ, st⟩
theorem own_callN (X : Stand p l e R s m args below meth c T locs cells slots) (hx : p.tables.exec = Jvm.exec) (hZ : Z.Warmed39 s.vm) {own : String} {index : Nat} {y : MethodName} {bytes : ByteArray} {maxL : Nat} {rm : Room} {as' : Array Value} (hy1 : y.name = "<init>")
    (hown : s.vm.findClass own = some m.cls) (w1 : (Jvm.Cond.methodLink own index y).before a0 Z = true) (w2 : (Jvm.Cond.instanceMethod y).before a0 Z = true) (w3 : (Jvm.Cond.initialized y.cls).before a0 Z = true) (w4 : (Jvm.Cond.code y bytes maxL none).before a0 Z = true)
    (hy : y.cls ≠ "java/lang/invoke/MethodHandle" ∧ y.cls ≠ "java/lang/invoke/VarHandle") (hM : own_Met l Z [] y bytes maxL none rm as' h Q) {W : Nat} (hf : rm.frames + 1 ≤ R.frames) (hl : W + (maxL + 11) + rm.locals ≤ R.locals) {a : Addr} (eT : T.heap = h)
    {g : JFrame} (hg : g.method = m) (hsize : g.locals.size = c.maxLocals) {argsL rest : List Value} (hlen : ∀ sig, parseMethodDescriptor y.desc = some sig → argsL.length = sig.parameters.length) (has : (.ref a :: argsL).toArray = as') (hstack : g.stack = argsL.reverse ++ .ref a :: rest) (hW : 2 * g.monitorRoom + (rest.map fun v => v.category).sum ≤ W)
    (hdg : decode c.code g.pc = .ok (.invokespecial index, 3)) (hc : cells + rm.cells ≤ R.cells) (hs : slots + rm.slots ≤ R.slots) :
    ∃ v T' L, Stand p l e R s m args below meth c T' (locs ++ L) (cells + rm.cells) (slots + rm.slots) ∧ Q v T'.heap L ∧ ∀ t, Steps p.tables e below (T'.setTop { g with pc := g.pc + 3, stack := v.toList ++ rest }) t → Steps p.tables e below (T.setTop g) t := by
  obtain ⟨v, vm1, ⟨T', L', k', n'⟩, -, X', ⟨Lc, hQ, l1, y1, z1⟩, st⟩ := X.specialBack hx (y := y) hy1 hown (mvT hZ w1) (mvT hZ w2) (mvT hZ w4) hy (backOf (W := W) hM hZ w4 w3 hf hl) (g := g) hg hsize (Steps.refl _) (a := a) (argsL := argsL) (rest := rest) hlen hstack hW hdg (fun _ _ => ⟨has, eT, hc, hs⟩)
  dsimp only [Pt.U, Pt.locs, Pt.cells, Pt.slots] at X' l1 y1 z1 st hQ
  subst l1 y1 z1
  exact ⟨v, T', Lc, X', hQ, fun t k => st.trans k⟩
theorem own_callV (X : Stand p l e R s m args below meth c T locs cells slots) (hx : p.tables.exec = Jvm.exec) (hZ : Z.Warmed39 s.vm) {own C : String} {index : Nat} {y : MethodName} {bytes : ByteArray} {maxL : Nat} {ret : Option FieldType} {rm : Room} {as' : Array Value}
    (hown : s.vm.findClass own = some m.cls) (w1 : (Jvm.Cond.methodLink own index y).before a0 Z = true) (w2 : (Jvm.Cond.declares y).before a0 Z = true) (w5 : (Jvm.Cond.selects C y y).before a0 Z = true) (w6 : (Jvm.Cond.instanceMethod y).before a0 Z = true) (w3 : (Jvm.Cond.initialized y.cls).before a0 Z = true) (w4 : (Jvm.Cond.code y bytes maxL ret).before a0 Z = true)
    (hy : y.cls ≠ "java/lang/invoke/MethodHandle" ∧ y.cls ≠ "java/lang/invoke/VarHandle") (hM : own_Met l Z [] y bytes maxL ret rm as' h Q) {W : Nat} (hf : rm.frames + 1 ≤ R.frames) (hl : W + (maxL + 11) + rm.locals ≤ R.locals) {a : Addr} (E : Exa Z h a C) (eT : T.heap = h)
    {g : JFrame} (hg : g.method = m) (hsize : g.locals.size = c.maxLocals) {argsL rest : List Value} (hlen : ∀ sig, parseMethodDescriptor y.desc = some sig → argsL.length = sig.parameters.length) (has : (.ref a :: argsL).toArray = as') (hstack : g.stack = argsL.reverse ++ .ref a :: rest) (hW : 2 * g.monitorRoom + (rest.map fun v => v.category).sum ≤ W)
    (hdg : decode c.code g.pc = .ok (.invokevirtual index, 3)) (hc : cells + rm.cells ≤ R.cells) (hs : slots + rm.slots ≤ R.slots) :
    ∃ v T' L, Stand p l e R s m args below meth c T' (locs ++ L) (cells + rm.cells) (slots + rm.slots) ∧ Q v T'.heap L ∧ ∀ t, Steps p.tables e below (T'.setTop { g with pc := g.pc + 3, stack := v.toList ++ rest }) t → Steps p.tables e below (T.setTop g) t := by
  obtain ⟨cq, kq, qa, qb, qc⟩ := isOf hZ eT E
  obtain ⟨v, vm1, ⟨T', L', k', n'⟩, -, X', ⟨Lc, hQ, l1, y1, z1⟩, st⟩ := X.virtualBack hx (y := y) (z := y) hown (mvT hZ w1) (mvT hZ w2) (notFace_of_selects (args := #[]) (mvT hZ w5)) (mvT hZ w5) (mvT hZ w6) hy (backOf (W := W) hM hZ w4 w3 hf hl) qa qc (g := g) hg hsize (Steps.refl _) (argsL := argsL) (rest := rest) hlen hstack hW hdg (fun _ _ => ⟨has, eT, hc, hs⟩)
  dsimp only [Pt.U, Pt.locs, Pt.cells, Pt.slots] at X' l1 y1 z1 st hQ
  subst l1 y1 z1
  exact ⟨v, T', Lc, X', hQ, fun t k => st.trans k⟩
theorem own_newA (X : Stand p l e R s m args below meth c T locs cells slots) (hx : p.tables.exec = Jvm.exec) (hZ : Z.Warmed39 s.vm) {aty : ArrayType} (w : (Jvm.Cond.arrayClass (newarray.typeOf aty)).before a0 Z = true) (eT : T.heap = h) {ty : FieldType} {dv : Value} (hty : newarray.typeOf aty = ty) (hdv : defaultValue ty = dv)
    {g : JFrame} (hg : g.method = m) (hd : decode c.code g.pc = .ok (.newarray aty, 2)) {n : Int32} {rest : List Value} (hs : g.stack = .int n :: rest) (hn : ¬ n < 0) {cap : Nat} (hcap : n.toNatClampNeg ≤ cap) (hb : cap * 8 ≤ 536870912) (hc : cells + 1 ≤ R.cells) (hl : slots + cap ≤ R.slots) (N : Nat) :
    ∃ T' h' k a, Stand p l e R s m args below meth c T' locs (cells + 1) (slots + cap) ∧ T'.heap = h' ∧ Ext h h' ∧ a = h.size ∧ Arv Z h' a k ty n (List.replicate N dv) dv ∧
      ∀ t, Steps p.tables e below (T'.setTop { g with pc := g.pc + 2, stack := .ref a :: rest }) t → Steps p.tables e below (T.setTop g) t := by
  subst hty hdv
  obtain ⟨T', h', k, X', e', E, A, st⟩ := newP X hx hZ w eT hg hd hs hn hcap hb hc hl
  exact ⟨T', h', k, _, X', e', E, rfl, by simpa using (Arv.new A hn).pad (pad_rep [] _ N), st⟩
theorem own_stI (X : Stand p l e R s m args below meth c T locs cells slots) (hx : p.tables.exec = Jvm.exec) (hZ : Z.Warmed39 s.vm) (eT : T.heap = h) {a : Addr} {k : ClassId} {n : Int32} {vs : List Value} {dv : Value} (F : Arv Z h a k .int n vs dv) {j x : Int32} (hj : ¬ j < 0 ∧ j < n) (i : Nat) (hi : j.toNatClampNeg = i) (hl : i < vs.length)
    {g : JFrame} (hg : g.method = m) {rest : List Value} (hs : g.stack = .int x :: .int j :: .ref a :: rest) (hd : decode c.code g.pc = .ok (.iastore, 1)) :
    ∃ T' h', Stand p l e R s m args below meth c T' (locs ++ [⟨a, j.toNatClampNeg⟩]) cells slots ∧ T'.heap = h' ∧ Arv Z h' a k .int n (vs.set i (.int x)) dv ∧ Wr h h' a j.toNatClampNeg (.int x) ∧ ∀ t, Steps p.tables e below (T'.setTop { g with pc := g.pc + 1, stack := rest }) t → Steps p.tables e below (T.setTop g) t := by
  obtain ⟨cl, A, q1, q2, q3, H, G⟩ := F
  obtain ⟨T', h', X', e', W, st⟩ := stI X hx hZ eT A (j := j) (inb_of q2 hj) hg hs hd
  exact ⟨T', h', X', e', Arv.set A q1 q2 q3 H G rfl W i hi hl, W, st⟩
theorem own_stJ (X : Stand p l e R s m args below meth c T locs cells slots) (hx : p.tables.exec = Jvm.exec) (hZ : Z.Warmed39 s.vm) (eT : T.heap = h) {a : Addr} {k : ClassId} {n : Int32} {vs : List Value} {dv : Value} (F : Arv Z h a k .long n vs dv) {j : Int32} {x : Int64} (hj : ¬ j < 0 ∧ j < n) (i : Nat) (hi : j.toNatClampNeg = i) (hl : i < vs.length)
    {g : JFrame} (hg : g.method = m) {rest : List Value} (hs : g.stack = .long x :: .int j :: .ref a :: rest) (hd : decode c.code g.pc = .ok (.lastore, 1)) :
    ∃ T' h', Stand p l e R s m args below meth c T' (locs ++ [⟨a, j.toNatClampNeg⟩]) cells slots ∧ T'.heap = h' ∧ Arv Z h' a k .long n (vs.set i (.long x)) dv ∧ Wr h h' a j.toNatClampNeg (.long x) ∧ ∀ t, Steps p.tables e below (T'.setTop { g with pc := g.pc + 1, stack := rest }) t → Steps p.tables e below (T.setTop g) t := by
  obtain ⟨cl, A, q1, q2, q3, H, G⟩ := F
  obtain ⟨T', h', X', e', W, st⟩ := stJ X hx hZ eT A (j := j) (inb_of q2 hj) hg hs hd
  exact ⟨T', h', X', e', Arv.set A q1 q2 q3 H G rfl W i hi hl, W, st⟩
theorem own_stB (X : Stand p l e R s m args below meth c T locs cells slots) (hx : p.tables.exec = Jvm.exec) (hZ : Z.Warmed39 s.vm) (eT : T.heap = h) {a : Addr} {k : ClassId} {n : Int32} {vs : List Value} {dv : Value} (F : Arv Z h a k .byte n vs dv) {j x : Int32} (hj : ¬ j < 0 ∧ j < n) (i : Nat) (hi : j.toNatClampNeg = i) (hl : i < vs.length)
    {g : JFrame} (hg : g.method = m) {rest : List Value} (hs : g.stack = .int x :: .int j :: .ref a :: rest) (hd : decode c.code g.pc = .ok (.bastore, 1)) :
    ∃ T' h', Stand p l e R s m args below meth c T' (locs ++ [⟨a, j.toNatClampNeg⟩]) cells slots ∧ T'.heap = h' ∧ Arv Z h' a k .byte n (vs.set i (.int (nar .byte x))) dv ∧ Wr h h' a j.toNatClampNeg (.int (nar .byte x)) ∧ ∀ t, Steps p.tables e below (T'.setTop { g with pc := g.pc + 1, stack := rest }) t → Steps p.tables e below (T.setTop g) t := by
  obtain ⟨cl, A, q1, q2, q3, H, G⟩ := F
  obtain ⟨T', h', X', e', W, st⟩ := stB X hx hZ eT A (j := j) (inb_of q2 hj) hg hs hd
  exact ⟨T', h', X', e', Arv.set A q1 q2 q3 H G (fits_nar_byte x) W i hi hl, W, st⟩
theorem own_nar (y : Int32) : nar .byte y.toInt8.toInt32 = y.toInt8.toInt32 := by
  show y.toInt8.toInt32.toInt8.toInt32 = _
  simp
theorem own_stBn (X : Stand p l e R s m args below meth c T locs cells slots) (hx : p.tables.exec = Jvm.exec) (hZ : Z.Warmed39 s.vm) (eT : T.heap = h) {a : Addr} {k : ClassId} {n : Int32} {vs : List Value} {dv : Value} (F : Arv Z h a k .byte n vs dv) {j x : Int32} (hj : ¬ j < 0 ∧ j < n) (i : Nat) (hi : j.toNatClampNeg = i) (hl : i < vs.length)
    {g : JFrame} (hg : g.method = m) {rest : List Value} (hs : g.stack = .int x.toInt8.toInt32 :: .int j :: .ref a :: rest) (hd : decode c.code g.pc = .ok (.bastore, 1)) :
    ∃ T' h', Stand p l e R s m args below meth c T' (locs ++ [⟨a, j.toNatClampNeg⟩]) cells slots ∧ T'.heap = h' ∧ Arv Z h' a k .byte n (vs.set i (.int x.toInt8.toInt32)) dv ∧ Wr h h' a j.toNatClampNeg (.int x.toInt8.toInt32) ∧ ∀ t, Steps p.tables e below (T'.setTop { g with pc := g.pc + 1, stack := rest }) t → Steps p.tables e below (T.setTop g) t := by
  have h := own_stB X hx hZ eT F hj i hi hl hg hs hd
  rw [own_nar] at h
  exact h
theorem own_ldI (X : Stand p l e R s m args below meth c T locs cells slots) (hx : p.tables.exec = Jvm.exec) (hZ : Z.Warmed39 s.vm) (eT : T.heap = h) {a : Addr} {k : ClassId} {n : Int32} {vs : List Value} {dv v : Value} (F : Arv Z h a k .int n vs dv) {j : Int32} (hj : ¬ j < 0 ∧ j < n) (hv : vs.getD j.toNatClampNeg dv = v)
    {g : JFrame} (hg : g.method = m) {rest : List Value} (hs : g.stack = .int j :: .ref a :: rest) (hd : decode c.code g.pc = .ok (.iaload, 1)) :
    ∀ t, Steps p.tables e below (T.setTop { g with pc := g.pc + 1, stack := v :: rest }) t → Steps p.tables e below (T.setTop g) t := by
  obtain ⟨cl, A, q1, q2, q3, H, G⟩ := F
  have hin := inb_of q2 hj
  exact fun t kt => X.iaload hx (j := j) (v := v) (by rw [eT]; exact A.1) (State.isArrayOf_alike hZ.alike A.2.1) A.2.2 hin (H.at hin hv) hg hs hd _ kt
theorem own_ldJ (X : Stand p l e R s m args below meth c T locs cells slots) (hx : p.tables.exec = Jvm.exec) (hZ : Z.Warmed39 s.vm) (eT : T.heap = h) {a : Addr} {k : ClassId} {n : Int32} {vs : List Value} {dv v : Value} (F : Arv Z h a k .long n vs dv) {j : Int32} (hj : ¬ j < 0 ∧ j < n) (hv : vs.getD j.toNatClampNeg dv = v)
    {g : JFrame} (hg : g.method = m) {rest : List Value} (hs : g.stack = .int j :: .ref a :: rest) (hd : decode c.code g.pc = .ok (.laload, 1)) :
    ∀ t, Steps p.tables e below (T.setTop { g with pc := g.pc + 1, stack := v :: rest }) t → Steps p.tables e below (T.setTop g) t := by
  obtain ⟨cl, A, q1, q2, q3, H, G⟩ := F
  have hin := inb_of q2 hj
  exact fun t kt => X.laload hx (j := j) (v := v) (by rw [eT]; exact A.1) (State.isArrayOf_alike hZ.alike A.2.1) A.2.2 hin (H.at hin hv) hg hs hd _ kt
theorem own_ldB (X : Stand p l e R s m args below meth c T locs cells slots) (hx : p.tables.exec = Jvm.exec) (hZ : Z.Warmed39 s.vm) (eT : T.heap = h) {a : Addr} {k : ClassId} {n : Int32} {vs : List Value} {dv v : Value} (F : Arv Z h a k .byte n vs dv) {j : Int32} (hj : ¬ j < 0 ∧ j < n) (hv : vs.getD j.toNatClampNeg dv = v)
    {g : JFrame} (hg : g.method = m) {rest : List Value} (hs : g.stack = .int j :: .ref a :: rest) (hd : decode c.code g.pc = .ok (.baload, 1)) :
    ∀ t, Steps p.tables e below (T.setTop { g with pc := g.pc + 1, stack := v :: rest }) t → Steps p.tables e below (T.setTop g) t := by
  obtain ⟨cl, A, q1, q2, q3, H, G⟩ := F
  have hin := inb_of q2 hj
  exact fun t kt => X.baloadBytes hx (j := j) (v := v) (by rw [eT]; exact A.1) (State.isArrayOf_alike hZ.alike A.2.1) A.2.2 hin (H.at hin hv) hg hs hd _ kt
theorem own_len (X : Stand p l e R s m args below meth c T locs cells slots) (hx : p.tables.exec = Jvm.exec) (hZ : Z.Warmed39 s.vm) (eT : T.heap = h) {a : Addr} {k : ClassId} {ty : FieldType} {n : Int32} {vs : List Value} {dv : Value} (F : Arv Z h a k ty n vs dv)
    {g : JFrame} (hg : g.method = m) {rest : List Value} (hs : g.stack = .ref a :: rest) (hd : decode c.code g.pc = .ok (.arraylength, 1)) :
    ∀ t, Steps p.tables e below (T.setTop { g with pc := g.pc + 1, stack := .int n :: rest }) t → Steps p.tables e below (T.setTop g) t := by
  obtain ⟨cl, A, q1, q2, q3, H, G⟩ := F
  exact fun t kt => X.arraylength hx (by rw [eT]; exact A.1) (State.isArrayOf_alike hZ.alike A.2.1) hg hs hd _ (by rw [len_of q2 q3]; exact kt)
end Own
def own_plain : List Int32 → Int32
  | [] => 1
  | b :: r => if b = 44 then 0 else if b = 34 then 0 else own_plain r
def own_okb (b : Int32) : Int32 := if b = 44 then 0 else if b = 34 then 0 else 1
theorem own_b1 {f : Int32} (h : f = 1) : some (Value.int (nar .boolean (1 : Int32))) = some (.int f) := by rw [h]; rfl
theorem own_b0 {f : Int32} (h : f = 0) : some (Value.int (nar .boolean (0 : Int32))) = some (.int f) := by rw [h]; rfl
theorem own_pl (b : Int32) (r : List Int32) : own_plain (b :: r) = if own_okb b = 0 then 0 else own_plain r := by
  simp only [own_plain, own_okb]
  by_cases h : b = 44
  · simp [h]
  · by_cases h2 : b = 34
    · simp [h2]
    · simp [h, h2]
theorem own_drop {bs : List Int32} {i : Nat} (h : i < bs.length) : own_plain (bs.drop i) = if bs.getD i 0 = 44 then 0 else if bs.getD i 0 = 34 then 0 else own_plain (bs.drop (i + 1)) := by
  rw [List.drop_eq_getElem_cons h, own_plain, show bs.getD i 0 = bs[i] by simp [List.getD_eq_getElem?_getD, h]]
theorem own_map {bs : List Int32} {i : Nat} {d : Value} (h : i < bs.length) : (bs.map Value.int).getD i d = .int (bs.getD i 0) := by
  simp [List.getD_eq_getElem?_getD, h]
theorem own_end {bs : List Int32} {i : Nat} (h : i + 0 = bs.length) : own_plain (bs.drop i) = 1 := by
  rw [List.drop_eq_nil_of_le (by omega)]; rfl
theorem own_next {i p : Int32} {k : Nat} (hi : ¬ i < 0) (hk : i.toNatClampNeg + (k + 1) = p.toNatClampNeg) : i < p ∧ ¬ (i + 1) < 0 ∧ (i + 1).toNatClampNeg = i.toNatClampNeg + 1 := by
  have r := rng32 p
  have h1 := c_iadd i 1
  have q1 : (1 : Int32).toInt = 1 := by decide
  have r1 := rng32 (i + 1)
  have ei : i.toNatClampNeg = i.toInt.toNat := rfl
  have ep : p.toNatClampNeg = p.toInt.toNat := rfl
  have ej : (i + 1).toNatClampNeg = (i + 1).toInt.toNat := rfl
  rw [Int32.lt_iff_toInt_lt] at hi
  have q0 : (0 : Int32).toInt = 0 := by decide
  refine ⟨Int32.lt_iff_toInt_lt.mpr (by omega), ?_, by omega⟩
  rw [Int32.lt_iff_toInt_lt]; omega
theorem own_stopd {i p : Int32} (hi : ¬ i < 0) (hk : i.toNatClampNeg + 0 = p.toNatClampNeg) : ¬ i < p := by
  have ei : i.toNatClampNeg = i.toInt.toNat := rfl
  have ep : p.toNatClampNeg = p.toInt.toNat := rfl
  rw [Int32.lt_iff_toInt_lt] at hi ⊢
  have q0 : (0 : Int32).toInt = 0 := by decide
  omega
theorem own_n5 (x : Int32) : (x &&& 7) % 5 = 0 ∨ (x &&& 7) % 5 = 1 ∨ (x &&& 7) % 5 = 2 ∨ (x &&& 7) % 5 = 3 ∨ (x &&& 7) % 5 = 4 := by
  have h := c_mask x 7 3 (by omega) (by decide)
  have h8 : ((2 ^ 3 : Nat) : Int) = 8 := by decide
  rw [h8] at h
  have h2 := (c_irem (x &&& 7) 5 5 (by decide)).1 (by omega)
  have q : ∀ k : Int32, ((x &&& 7) % 5).toInt = k.toInt → (x &&& 7) % 5 = k := fun k => Int32.toInt_inj.mp
  rcases (by omega : ((x &&& 7) % 5).toInt = 0 ∨ ((x &&& 7) % 5).toInt = 1 ∨ ((x &&& 7) % 5).toInt = 2 ∨ ((x &&& 7) % 5).toInt = 3 ∨ ((x &&& 7) % 5).toInt = 4) with h | h | h | h | h
  · exact Or.inl (q 0 (by rw [h]; decide))
  · exact Or.inr (Or.inl (q 1 (by rw [h]; decide)))
  · exact Or.inr (Or.inr (Or.inl (q 2 (by rw [h]; decide))))
  · exact Or.inr (Or.inr (Or.inr (Or.inl (q 3 (by rw [h]; decide)))))
  · exact Or.inr (Or.inr (Or.inr (Or.inr (q 4 (by rw [h]; decide)))))
theorem d1_0 : decode prog_122_method_8_code 0 = .ok (.aload_n 0, 1) := by decide +kernel
theorem d1_1 : decode prog_122_method_8_code 1 = .ok (.astore_n 1, 1) := by decide +kernel
theorem d1_2 : decode prog_122_method_8_code 2 = .ok (.aload_n 1, 1) := by decide +kernel
theorem d1_3 : decode prog_122_method_8_code 3 = .ok (.arraylength, 1) := by decide +kernel
theorem d1_4 : decode prog_122_method_8_code 4 = .ok (.istore_n 2, 1) := by decide +kernel
theorem d1_5 : decode prog_122_method_8_code 5 = .ok (.iconst 0, 1) := by decide +kernel
theorem d1_6 : decode prog_122_method_8_code 6 = .ok (.istore_n 3, 1) := by decide +kernel
theorem d1_7 : decode prog_122_method_8_code 7 = .ok (.iload_n 3, 1) := by decide +kernel
theorem d1_8 : decode prog_122_method_8_code 8 = .ok (.iload_n 2, 1) := by decide +kernel
theorem d1_9 : decode prog_122_method_8_code 9 = .ok (.if_icmp .ge 30, 3) := by decide +kernel
theorem d1_12 : decode prog_122_method_8_code 12 = .ok (.aload_n 1, 1) := by decide +kernel
theorem d1_13 : decode prog_122_method_8_code 13 = .ok (.iload_n 3, 1) := by decide +kernel
theorem d1_14 : decode prog_122_method_8_code 14 = .ok (.baload, 1) := by decide +kernel
theorem d1_15 : decode prog_122_method_8_code 15 = .ok (.istore 4, 2) := by decide +kernel
theorem d1_17 : decode prog_122_method_8_code 17 = .ok (.iload 4, 2) := by decide +kernel
theorem d1_19 : decode prog_122_method_8_code 19 = .ok (.bipush 44, 2) := by decide +kernel
theorem d1_21 : decode prog_122_method_8_code 21 = .ok (.if_icmp .eq 10, 3) := by decide +kernel
theorem d1_24 : decode prog_122_method_8_code 24 = .ok (.iload 4, 2) := by decide +kernel
theorem d1_26 : decode prog_122_method_8_code 26 = .ok (.bipush 34, 2) := by decide +kernel
theorem d1_28 : decode prog_122_method_8_code 28 = .ok (.if_icmp .ne 5, 3) := by decide +kernel
theorem d1_31 : decode prog_122_method_8_code 31 = .ok (.iconst 0, 1) := by decide +kernel
theorem d1_32 : decode prog_122_method_8_code 32 = .ok (.ireturn, 1) := by decide +kernel
theorem d1_33 : decode prog_122_method_8_code 33 = .ok (.iinc 3 1, 3) := by decide +kernel
theorem d1_36 : decode prog_122_method_8_code 36 = .ok (.goto (-29), 3) := by decide +kernel
theorem d1_39 : decode prog_122_method_8_code 39 = .ok (.iconst 1, 1) := by decide +kernel
theorem d1_40 : decode prog_122_method_8_code 40 = .ok (.ireturn, 1) := by decide +kernel
theorem pn_1 : plainFor (⟨"com/example/covenantry/covenantry/input/CsvRecord", "isPlain", "([B)Z"⟩ : MethodName) = true := plainFor_of_name (by first | (simp [plainName, overriddenIn]; done) | decide +kernel)
theorem ef_1 (m : MethodId) (x0 : Addr) : entryFrame m #[(.ref x0)] 5 = mkF m 0 #[.val (.ref x0), .unset, .unset, .unset, .unset] [] := by first | (simp [entryFrame, mkF, argsToLocals, Value.category]; done) | rfl
set_option maxRecDepth 65536 in
set_option maxHeartbeats 40000000 in
theorem rm1 (l : Launch) (Z : State) (a0 : Array Value) (hw : ∀ d ∈ tables_1, d.before a0 Z = true) (a1 : Addr) (k : ClassId) (n : Int32) (bs : List Int32) (dv : Value) (h0 : Heap) (n0 : Nat) (Z0 : n0 ≤ h0.size) (F : Arv Z h0 a1 k .byte n (bs.map Value.int) dv) (HL : n.toNatClampNeg = bs.length) :
    own_Met l Z [] (⟨"com/example/covenantry/covenantry/input/CsvRecord", "isPlain", "([B)Z"⟩ : MethodName) prog_122_method_8_code 5 (some .boolean) ({ frames := 0, cells := 0, slots := 0, locals := 0 } : Room) #[(.ref a1)] h0 (own_QP (some (.int (own_plain bs))) h0 n0) := by
  refine own_enter pn_1 ?_
  intro p e s m below meth c s₁ X0 hx hby hml hown hret hlk hnm hZ e0
  have hml : c.maxLocals = 5 := hml
  have N0 := Fr.nil n0
  rw [ef_1 m a1]
  have loop : ∀ (k : Nat) (i : Int32) (s4 : Slot), One s4 → ¬ i < 0 → i.toNatClampNeg + k = n.toNatClampNeg → own_plain bs = own_plain (bs.drop i.toNatClampNeg) → own_Fin p e below s (own_QP (some (.int (own_plain bs))) h0 n0) ({ frames := 0, cells := 0, slots := 0, locals := 0 } : Room).cells ({ frames := 0, cells := 0, slots := 0, locals := 0 } : Room).slots (s₁.setTop (mkF m 7 #[.val (.ref a1), .val (.ref a1), .val (.int n), .val (.int i), s4] [])) := by
    intro k
    induction k with
    | zero =>
      intro i s4 hs4 hi hk hp
      show own_Fin p e below s _ _ _ (s₁.setTop (mkF m 7 #[.val (.ref a1), .val (.ref a1), .val (.int n), .val (.int i), s4] []))
      refine own_Fin.step (fun _ => XS.iloadN X0.here hx rfl (hb hby d1_7) rfl) ?_
      show own_Fin p e below s _ _ _ (s₁.setTop (mkF m 8 #[.val (.ref a1), .val (.ref a1), .val (.int n), .val (.int i), s4] [(.int i)]))
      refine own_Fin.step (fun _ => XS.iloadN X0.here hx rfl (hb hby d1_8) rfl) ?_
      show own_Fin p e below s _ _ _ (s₁.setTop (mkF m 9 #[.val (.ref a1), .val (.ref a1), .val (.int n), .val (.int i), s4] [(.int n), (.int i)]))
      refine own_Fin.step (fun _ => XS.icmpYes X0.here hx rfl (pc0 := 9) (pc' := 39) rfl (hb hby d1_9) rfl (XT.ii_ge_t (own_stopd hi hk)) (by decide) (by decide)) ?_
      show own_Fin p e below s _ _ _ (s₁.setTop (mkF m 39 #[.val (.ref a1), .val (.ref a1), .val (.int n), .val (.int i), s4] []))
      refine own_Fin.step (fun _ => XS.iconst X0.here hx rfl (hb hby d1_39)) ?_
      show own_Fin p e below s _ _ _ (s₁.setTop (mkF m 40 #[.val (.ref a1), .val (.ref a1), .val (.int n), .val (.int i), s4] [(.int (1 : Int32))]))
      exact own_retN X0 hx hlk (t := .boolean) hret (by simp) (hb hby d1_40) ⟨own_b1 (by rw [hp]; exact own_end (by rw [← HL]; exact hk)), N0, e0⟩ (by decide) (by decide)
    | succ k ih =>
      intro i s4 hs4 hi hk hp
      have hlt : i.toNatClampNeg < bs.length := by omega
      show own_Fin p e below s _ _ _ (s₁.setTop (mkF m 7 #[.val (.ref a1), .val (.ref a1), .val (.int n), .val (.int i), s4] []))
      refine own_Fin.step (fun _ => XS.iloadN X0.here hx rfl (hb hby d1_7) rfl) ?_
      show own_Fin p e below s _ _ _ (s₁.setTop (mkF m 8 #[.val (.ref a1), .val (.ref a1), .val (.int n), .val (.int i), s4] [(.int i)]))
      refine own_Fin.step (fun _ => XS.iloadN X0.here hx rfl (hb hby d1_8) rfl) ?_
      show own_Fin p e below s _ _ _ (s₁.setTop (mkF m 9 #[.val (.ref a1), .val (.ref a1), .val (.int n), .val (.int i), s4] [(.int n), (.int i)]))
      refine own_Fin.step (fun _ => XS.icmpNo X0.here hx rfl (hb hby d1_9) rfl (XT.ii_ge_f (own_next hi hk).1)) ?_
      show own_Fin p e below s _ _ _ (s₁.setTop (mkF m 12 #[.val (.ref a1), .val (.ref a1), .val (.int n), .val (.int i), s4] []))
      refine own_Fin.step (fun _ => XS.aloadN X0.here hx rfl (hb hby d1_12) rfl rfl) ?_
      show own_Fin p e below s _ _ _ (s₁.setTop (mkF m 13 #[.val (.ref a1), .val (.ref a1), .val (.int n), .val (.int i), s4] [(.ref a1)]))
      refine own_Fin.step (fun _ => XS.iloadN X0.here hx rfl (hb hby d1_13) rfl) ?_
      show own_Fin p e below s _ _ _ (s₁.setTop (mkF m 14 #[.val (.ref a1), .val (.ref a1), .val (.int n), .val (.int i), s4] [(.int i), (.ref a1)]))
      refine own_Fin.step (own_ldB X0 hx hZ e0 F (j := i) (v := (.int (bs.getD i.toNatClampNeg 0))) ⟨hi, (own_next hi hk).1⟩ (own_map hlt) (g := (mkF m 14 #[.val (.ref a1), .val (.ref a1), .val (.int n), .val (.int i), s4] [(.int i), (.ref a1)])) rfl rfl (hb hby d1_14)) ?_
      show own_Fin p e below s _ _ _ (s₁.setTop (mkF m 15 #[.val (.ref a1), .val (.ref a1), .val (.int n), .val (.int i), s4] [(.int (bs.getD i.toNatClampNeg 0))]))
      refine own_Fin.step (fun _ => XS.istore X0.here hx rfl (hb hby d1_15) rfl (l' := #[.val (.ref a1), .val (.ref a1), .val (.int n), .val (.int i), .val (.int (bs.getD i.toNatClampNeg 0))]) (XS.store1 (o := s4) rfl hs4 rfl)) ?_
      show own_Fin p e below s _ _ _ (s₁.setTop (mkF m 17 #[.val (.ref a1), .val (.ref a1), .val (.int n), .val (.int i), .val (.int (bs.getD i.toNatClampNeg 0))] []))
      refine own_Fin.step (fun _ => XS.iload X0.here hx rfl (hb hby d1_17) rfl) ?_
      show own_Fin p e below s _ _ _ (s₁.setTop (mkF m 19 #[.val (.ref a1), .val (.ref a1), .val (.int n), .val (.int i), .val (.int (bs.getD i.toNatClampNeg 0))] [(.int (bs.getD i.toNatClampNeg 0))]))
      refine own_Fin.step (fun _ => XS.bipush X0.here hx rfl (hb hby d1_19)) ?_
      show own_Fin p e below s _ _ _ (s₁.setTop (mkF m 21 #[.val (.ref a1), .val (.ref a1), .val (.int n), .val (.int i), .val (.int (bs.getD i.toNatClampNeg 0))] [(.int (44 : Int32)), (.int (bs.getD i.toNatClampNeg 0))]))
      by_cases hc21_1 : (bs.getD i.toNatClampNeg 0) = (44 : Int32)
      ·
        refine own_Fin.step (fun _ => XS.icmpYes X0.here hx rfl (pc0 := 21) (pc' := 31) rfl (hb hby d1_21) rfl (XT.ii_eq_t hc21_1) (by decide) (by decide)) ?_
        show own_Fin p e below s _ _ _ (s₁.setTop (mkF m 31 #[.val (.ref a1), .val (.ref a1), .val (.int n), .val (.int i), .val (.int (bs.getD i.toNatClampNeg 0))] []))
        refine own_Fin.step (fun _ => XS.iconst X0.here hx rfl (hb hby d1_31)) ?_
        show own_Fin p e below s _ _ _ (s₁.setTop (mkF m 32 #[.val (.ref a1), .val (.ref a1), .val (.int n), .val (.int i), .val (.int (bs.getD i.toNatClampNeg 0))] [(.int (0 : Int32))]))
        exact own_retN X0 hx hlk (t := .boolean) hret (by simp) (hb hby d1_32) ⟨own_b0 (by rw [hp, own_drop hlt, if_pos hc21_1]), N0, e0⟩ (by decide) (by decide)
      ·
        refine own_Fin.step (fun _ => XS.icmpNo X0.here hx rfl (hb hby d1_21) rfl (XT.ii_eq_f hc21_1)) ?_
        show own_Fin p e below s _ _ _ (s₁.setTop (mkF m 24 #[.val (.ref a1), .val (.ref a1), .val (.int n), .val (.int i), .val (.int (bs.getD i.toNatClampNeg 0))] []))
        refine own_Fin.step (fun _ => XS.iload X0.here hx rfl (hb hby d1_24) rfl) ?_
        show own_Fin p e below s _ _ _ (s₁.setTop (mkF m 26 #[.val (.ref a1), .val (.ref a1), .val (.int n), .val (.int i), .val (.int (bs.getD i.toNatClampNeg 0))] [(.int (bs.getD i.toNatClampNeg 0))]))
        refine own_Fin.step (fun _ => XS.bipush X0.here hx rfl (hb hby d1_26)) ?_
        show own_Fin p e below s _ _ _ (s₁.setTop (mkF m 28 #[.val (.ref a1), .val (.ref a1), .val (.int n), .val (.int i), .val (.int (bs.getD i.toNatClampNeg 0))] [(.int (34 : Int32)), (.int (bs.getD i.toNatClampNeg 0))]))
        by_cases hc28_2 : (bs.getD i.toNatClampNeg 0) = (34 : Int32)
        ·
          refine own_Fin.step (fun _ => XS.icmpNo X0.here hx rfl (hb hby d1_28) rfl (XT.ii_ne_f hc28_2)) ?_
          show own_Fin p e below s _ _ _ (s₁.setTop (mkF m 31 #[.val (.ref a1), .val (.ref a1), .val (.int n), .val (.int i), .val (.int (bs.getD i.toNatClampNeg 0))] []))
          refine own_Fin.step (fun _ => XS.iconst X0.here hx rfl (hb hby d1_31)) ?_
          show own_Fin p e below s _ _ _ (s₁.setTop (mkF m 32 #[.val (.ref a1), .val (.ref a1), .val (.int n), .val (.int i), .val (.int (bs.getD i.toNatClampNeg 0))] [(.int (0 : Int32))]))
          exact own_retN X0 hx hlk (t := .boolean) hret (by simp) (hb hby d1_32) ⟨own_b0 (by rw [hp, own_drop hlt, if_neg hc21_1, if_pos hc28_2]), N0, e0⟩ (by decide) (by decide)
        ·
          refine own_Fin.step (fun _ => XS.icmpYes X0.here hx rfl (pc0 := 28) (pc' := 33) rfl (hb hby d1_28) rfl (XT.ii_ne_t hc28_2) (by decide) (by decide)) ?_
          show own_Fin p e below s _ _ _ (s₁.setTop (mkF m 33 #[.val (.ref a1), .val (.ref a1), .val (.int n), .val (.int i), .val (.int (bs.getD i.toNatClampNeg 0))] []))
          refine own_Fin.step (fun _ => XS.iinc X0.here hx rfl (hb hby d1_33) rfl (l' := #[.val (.ref a1), .val (.ref a1), .val (.int n), .val (.int (i + (1 : Int32))), .val (.int (bs.getD i.toNatClampNeg 0))]) rfl) ?_
          show own_Fin p e below s _ _ _ (s₁.setTop (mkF m 36 #[.val (.ref a1), .val (.ref a1), .val (.int n), .val (.int (i + (1 : Int32))), .val (.int (bs.getD i.toNatClampNeg 0))] []))
          refine own_Fin.step (fun _ => XS.goto X0.here hx rfl (pc0 := 36) (pc' := 7) rfl (hb hby d1_36) (by decide) (by decide)) ?_
          exact ih _ _ (One.val rfl) (own_next hi hk).2.1 (by rw [(own_next hi hk).2.2]; omega) (by rw [hp, own_drop hlt, if_neg hc21_1, if_neg hc28_2, (own_next hi hk).2.2])
  show own_Fin p e below s _ _ _ (s₁.setTop (mkF m 0 #[.val (.ref a1), .unset, .unset, .unset, .unset] []))
  refine own_Fin.step (fun _ => XS.aloadN X0.here hx rfl (hb hby d1_0) rfl rfl) ?_
  show own_Fin p e below s _ _ _ (s₁.setTop (mkF m 1 #[.val (.ref a1), .unset, .unset, .unset, .unset] [(.ref a1)]))
  refine own_Fin.step (fun _ => XS.astoreN X0.here hx rfl (hb hby d1_1) rfl rfl (l' := #[.val (.ref a1), .val (.ref a1), .unset, .unset, .unset]) rfl) ?_
  show own_Fin p e below s _ _ _ (s₁.setTop (mkF m 2 #[.val (.ref a1), .val (.ref a1), .unset, .unset, .unset] []))
  refine own_Fin.step (fun _ => XS.aloadN X0.here hx rfl (hb hby d1_2) rfl rfl) ?_
  show own_Fin p e below s _ _ _ (s₁.setTop (mkF m 3 #[.val (.ref a1), .val (.ref a1), .unset, .unset, .unset] [(.ref a1)]))
  refine own_Fin.step (own_len X0 hx hZ e0 F (g := (mkF m 3 #[.val (.ref a1), .val (.ref a1), .unset, .unset, .unset] [(.ref a1)])) rfl rfl (hb hby d1_3)) ?_
  show own_Fin p e below s _ _ _ (s₁.setTop (mkF m 4 #[.val (.ref a1), .val (.ref a1), .unset, .unset, .unset] [(.int n)]))
  refine own_Fin.step (fun _ => XS.istoreN X0.here hx rfl (hb hby d1_4) rfl (l' := #[.val (.ref a1), .val (.ref a1), .val (.int n), .unset, .unset]) rfl) ?_
  show own_Fin p e below s _ _ _ (s₁.setTop (mkF m 5 #[.val (.ref a1), .val (.ref a1), .val (.int n), .unset, .unset] []))
  refine own_Fin.step (fun _ => XS.iconst X0.here hx rfl (hb hby d1_5)) ?_
  show own_Fin p e below s _ _ _ (s₁.setTop (mkF m 6 #[.val (.ref a1), .val (.ref a1), .val (.int n), .unset, .unset] [(.int (0 : Int32))]))
  refine own_Fin.step (fun _ => XS.istoreN X0.here hx rfl (hb hby d1_6) rfl (l' := #[.val (.ref a1), .val (.ref a1), .val (.int n), .val (.int (0 : Int32)), .unset]) rfl) ?_
  exact loop n.toNatClampNeg _ _ One.u (by decide) (by show 0 + _ = _; omega) rfl
theorem d2_0 : decode method_3_code 0 = .ok (.iload_n 0, 1) := by decide +kernel
theorem d2_1 : decode method_3_code 1 = .ok (.bipush 44, 2) := by decide +kernel
theorem d2_3 : decode method_3_code 3 = .ok (.if_icmp .eq 13, 3) := by decide +kernel
theorem d2_6 : decode method_3_code 6 = .ok (.iload_n 0, 1) := by decide +kernel
theorem d2_7 : decode method_3_code 7 = .ok (.bipush 34, 2) := by decide +kernel
theorem d2_9 : decode method_3_code 9 = .ok (.if_icmp .eq 7, 3) := by decide +kernel
theorem d2_12 : decode method_3_code 12 = .ok (.iconst 1, 1) := by decide +kernel
theorem d2_13 : decode method_3_code 13 = .ok (.goto 4, 3) := by decide +kernel
theorem d2_16 : decode method_3_code 16 = .ok (.iconst 0, 1) := by decide +kernel
theorem d2_17 : decode method_3_code 17 = .ok (.ireturn, 1) := by decide +kernel
theorem pn_2 : plainFor (⟨"com/example/covenantry/covenantry/input/CsvRecordIsPlainPinLaw", "ok", "(B)Z"⟩ : MethodName) = true := plainFor_of_name (by first | (simp [plainName, overriddenIn]; done) | decide +kernel)
theorem ef_2 (m : MethodId) (x0 : Int32) : entryFrame m #[(.int x0)] 1 = mkF m 0 #[.val (.int x0)] [] := by first | (simp [entryFrame, mkF, argsToLocals, Value.category]; done) | rfl
set_option maxRecDepth 65536 in
set_option maxHeartbeats 40000000 in
theorem rm2 (l : Launch) (Z : State) (a0 : Array Value) (hw : ∀ d ∈ tables_1, d.before a0 Z = true) (p1 : Int32)  (h0 : Heap) (n0 : Nat) (Z0 : n0 ≤ h0.size)  :
    own_Met l Z [] (⟨"com/example/covenantry/covenantry/input/CsvRecordIsPlainPinLaw", "ok", "(B)Z"⟩ : MethodName) method_3_code 1 (some .boolean) ({ frames := 0, cells := 0, slots := 0, locals := 0 } : Room) #[(.int p1)] h0 (own_QP (some (.int (own_okb p1))) h0 n0) := by
  refine own_enter pn_2 ?_
  intro p e s m below meth c s₁ X0 hx hby hml hown hret hlk hnm hZ e0
  have hml : c.maxLocals = 1 := hml
  have N0 := Fr.nil n0
  rw [ef_2 m p1]
  show own_Fin p e below s _ _ _ (s₁.setTop (mkF m 0 #[.val (.int p1)] []))
  refine own_Fin.step (fun _ => XS.iloadN X0.here hx rfl (hb hby d2_0) rfl) ?_
  show own_Fin p e below s _ _ _ (s₁.setTop (mkF m 1 #[.val (.int p1)] [(.int p1)]))
  refine own_Fin.step (fun _ => XS.bipush X0.here hx rfl (hb hby d2_1)) ?_
  show own_Fin p e below s _ _ _ (s₁.setTop (mkF m 3 #[.val (.int p1)] [(.int (44 : Int32)), (.int p1)]))
  by_cases hc3_1 : p1 = (44 : Int32)
  ·
    refine own_Fin.step (fun _ => XS.icmpYes X0.here hx rfl (pc0 := 3) (pc' := 16) rfl (hb hby d2_3) rfl (XT.ii_eq_t hc3_1) (by decide) (by decide)) ?_
    show own_Fin p e below s _ _ _ (s₁.setTop (mkF m 16 #[.val (.int p1)] []))
    refine own_Fin.step (fun _ => XS.iconst X0.here hx rfl (hb hby d2_16)) ?_
    show own_Fin p e below s _ _ _ (s₁.setTop (mkF m 17 #[.val (.int p1)] [(.int (0 : Int32))]))
    exact own_retN X0 hx hlk (t := .boolean) hret (by simp) (hb hby d2_17) ⟨own_b0 (by unfold own_okb; rw [if_pos hc3_1]), N0, e0⟩ (by decide) (by decide)
  ·
    refine own_Fin.step (fun _ => XS.icmpNo X0.here hx rfl (hb hby d2_3) rfl (XT.ii_eq_f hc3_1)) ?_
    show own_Fin p e below s _ _ _ (s₁.setTop (mkF m 6 #[.val (.int p1)] []))
    refine own_Fin.step (fun _ => XS.iloadN X0.here hx rfl (hb hby d2_6) rfl) ?_
    show own_Fin p e below s _ _ _ (s₁.setTop (mkF m 7 #[.val (.int p1)] [(.int p1)]))
    refine own_Fin.step (fun _ => XS.bipush X0.here hx rfl (hb hby d2_7)) ?_
    show own_Fin p e below s _ _ _ (s₁.setTop (mkF m 9 #[.val (.int p1)] [(.int (34 : Int32)), (.int p1)]))
    by_cases hc9_2 : p1 = (34 : Int32)
    ·
      refine own_Fin.step (fun _ => XS.icmpYes X0.here hx rfl (pc0 := 9) (pc' := 16) rfl (hb hby d2_9) rfl (XT.ii_eq_t hc9_2) (by decide) (by decide)) ?_
      show own_Fin p e below s _ _ _ (s₁.setTop (mkF m 16 #[.val (.int p1)] []))
      refine own_Fin.step (fun _ => XS.iconst X0.here hx rfl (hb hby d2_16)) ?_
      show own_Fin p e below s _ _ _ (s₁.setTop (mkF m 17 #[.val (.int p1)] [(.int (0 : Int32))]))
      exact own_retN X0 hx hlk (t := .boolean) hret (by simp) (hb hby d2_17) ⟨own_b0 (by unfold own_okb; rw [if_neg hc3_1, if_pos hc9_2]), N0, e0⟩ (by decide) (by decide)
    ·
      refine own_Fin.step (fun _ => XS.icmpNo X0.here hx rfl (hb hby d2_9) rfl (XT.ii_eq_f hc9_2)) ?_
      show own_Fin p e below s _ _ _ (s₁.setTop (mkF m 12 #[.val (.int p1)] []))
      refine own_Fin.step (fun _ => XS.iconst X0.here hx rfl (hb hby d2_12)) ?_
      show own_Fin p e below s _ _ _ (s₁.setTop (mkF m 13 #[.val (.int p1)] [(.int (1 : Int32))]))
      refine own_Fin.step (fun _ => XS.goto X0.here hx rfl (pc0 := 13) (pc' := 17) rfl (hb hby d2_13) (by decide) (by decide)) ?_
      show own_Fin p e below s _ _ _ (s₁.setTop (mkF m 17 #[.val (.int p1)] [(.int (1 : Int32))]))
      exact own_retN X0 hx hlk (t := .boolean) hret (by simp) (hb hby d2_17) ⟨own_b1 (by unfold own_okb; rw [if_neg hc3_1, if_neg hc9_2]), N0, e0⟩ (by decide) (by decide)
theorem pn_0 : plainFor (⟨"com/example/covenantry/covenantry/input/CsvRecordIsPlainPinLaw", "law", "(IIIII)Z"⟩ : MethodName) = true := plainFor_of_name (by first | (simp [plainName, overriddenIn]; done) | decide +kernel)
theorem ef_0 (m : MethodId) (x0 : Int32) (x1 : Int32) (x2 : Int32) (x3 : Int32) (x4 : Int32) : entryFrame m #[(.int x0), (.int x1), (.int x2), (.int x3), (.int x4)] maxLocals = mkF m 0 #[.val (.int x0), .val (.int x1), .val (.int x2), .val (.int x3), .val (.int x4), .unset, .unset, .unset, .unset, .unset, .unset, .unset] [] := by first | (simp [entryFrame, mkF, argsToLocals, Value.category, maxLocals]; done) | rfl
theorem pd_0 : parseMethodDescriptor "([B)Z" = some ⟨[(.array .byte)], some .boolean⟩ := by decide +kernel
theorem pd_1 : parseMethodDescriptor "(B)Z" = some ⟨[.byte], some .boolean⟩ := by decide +kernel
set_option maxRecDepth 65536 in
set_option maxHeartbeats 40000000 in
theorem rm0 (l : Launch) (Z : State) (a0 : Array Value) (hw : ∀ d ∈ tables_1, d.before a0 Z = true) (p1 : Int32) (p2 : Int32) (p3 : Int32) (p4 : Int32) (p5 : Int32)  (h0 : Heap) (n0 : Nat) (Z0 : n0 ≤ h0.size)  :
    own_Met l Z tables_1 x code maxLocals ret room_1 #[(.int p1), (.int p2), (.int p3), (.int p4), (.int p5)] h0 (own_Q0 n0) := by
  refine own_enter pn_0 ?_
  intro p e s m below meth c s₁ X0 hx hby hml hown hret hlk hnm hZ e0
  have hml : c.maxLocals = 12 := hml
  have N0 := Fr.nil n0
  rw [ef_0 m p1 p2 p3 p4 p5]
  show own_Fin p e below s _ _ _ (s₁.setTop (mkF m 0 #[.val (.int p1), .val (.int p2), .val (.int p3), .val (.int p4), .val (.int p5), .unset, .unset, .unset, .unset, .unset, .unset, .unset] []))
  refine own_Fin.step (fun _ => XS.iloadN X0.here hx rfl (hb hby at_0) rfl) ?_
  show own_Fin p e below s _ _ _ (s₁.setTop (mkF m 1 #[.val (.int p1), .val (.int p2), .val (.int p3), .val (.int p4), .val (.int p5), .unset, .unset, .unset, .unset, .unset, .unset, .unset] [(.int p1)]))
  refine own_Fin.step (fun _ => XS.i2b X0.here hx rfl (hb hby at_1) rfl) ?_
  show own_Fin p e below s _ _ _ (s₁.setTop (mkF m 2 #[.val (.int p1), .val (.int p2), .val (.int p3), .val (.int p4), .val (.int p5), .unset, .unset, .unset, .unset, .unset, .unset, .unset] [(.int (p1.toInt8.toInt32))]))
  refine own_Fin.step (fun _ => XS.istore X0.here hx rfl (hb hby at_2) rfl (l' := #[.val (.int p1), .val (.int p2), .val (.int p3), .val (.int p4), .val (.int p5), .val (.int (p1.toInt8.toInt32)), .unset, .unset, .unset, .unset, .unset, .unset]) rfl) ?_
  show own_Fin p e below s _ _ _ (s₁.setTop (mkF m 4 #[.val (.int p1), .val (.int p2), .val (.int p3), .val (.int p4), .val (.int p5), .val (.int (p1.toInt8.toInt32)), .unset, .unset, .unset, .unset, .unset, .unset] []))
  refine own_Fin.step (fun _ => XS.iloadN X0.here hx rfl (hb hby at_4) rfl) ?_
  show own_Fin p e below s _ _ _ (s₁.setTop (mkF m 5 #[.val (.int p1), .val (.int p2), .val (.int p3), .val (.int p4), .val (.int p5), .val (.int (p1.toInt8.toInt32)), .unset, .unset, .unset, .unset, .unset, .unset] [(.int p2)]))
  refine own_Fin.step (fun _ => XS.i2b X0.here hx rfl (hb hby at_5) rfl) ?_
  show own_Fin p e below s _ _ _ (s₁.setTop (mkF m 6 #[.val (.int p1), .val (.int p2), .val (.int p3), .val (.int p4), .val (.int p5), .val (.int (p1.toInt8.toInt32)), .unset, .unset, .unset, .unset, .unset, .unset] [(.int (p2.toInt8.toInt32))]))
  refine own_Fin.step (fun _ => XS.istore X0.here hx rfl (hb hby at_6) rfl (l' := #[.val (.int p1), .val (.int p2), .val (.int p3), .val (.int p4), .val (.int p5), .val (.int (p1.toInt8.toInt32)), .val (.int (p2.toInt8.toInt32)), .unset, .unset, .unset, .unset, .unset]) rfl) ?_
  show own_Fin p e below s _ _ _ (s₁.setTop (mkF m 8 #[.val (.int p1), .val (.int p2), .val (.int p3), .val (.int p4), .val (.int p5), .val (.int (p1.toInt8.toInt32)), .val (.int (p2.toInt8.toInt32)), .unset, .unset, .unset, .unset, .unset] []))
  refine own_Fin.step (fun _ => XS.iloadN X0.here hx rfl (hb hby at_8) rfl) ?_
  show own_Fin p e below s _ _ _ (s₁.setTop (mkF m 9 #[.val (.int p1), .val (.int p2), .val (.int p3), .val (.int p4), .val (.int p5), .val (.int (p1.toInt8.toInt32)), .val (.int (p2.toInt8.toInt32)), .unset, .unset, .unset, .unset, .unset] [(.int p3)]))
  refine own_Fin.step (fun _ => XS.i2b X0.here hx rfl (hb hby at_9) rfl) ?_
  show own_Fin p e below s _ _ _ (s₁.setTop (mkF m 10 #[.val (.int p1), .val (.int p2), .val (.int p3), .val (.int p4), .val (.int p5), .val (.int (p1.toInt8.toInt32)), .val (.int (p2.toInt8.toInt32)), .unset, .unset, .unset, .unset, .unset] [(.int (p3.toInt8.toInt32))]))
  refine own_Fin.step (fun _ => XS.istore X0.here hx rfl (hb hby at_10) rfl (l' := #[.val (.int p1), .val (.int p2), .val (.int p3), .val (.int p4), .val (.int p5), .val (.int (p1.toInt8.toInt32)), .val (.int (p2.toInt8.toInt32)), .val (.int (p3.toInt8.toInt32)), .unset, .unset, .unset, .unset]) rfl) ?_
  show own_Fin p e below s _ _ _ (s₁.setTop (mkF m 12 #[.val (.int p1), .val (.int p2), .val (.int p3), .val (.int p4), .val (.int p5), .val (.int (p1.toInt8.toInt32)), .val (.int (p2.toInt8.toInt32)), .val (.int (p3.toInt8.toInt32)), .unset, .unset, .unset, .unset] []))
  refine own_Fin.step (fun _ => XS.iloadN X0.here hx rfl (hb hby at_12) rfl) ?_
  show own_Fin p e below s _ _ _ (s₁.setTop (mkF m 13 #[.val (.int p1), .val (.int p2), .val (.int p3), .val (.int p4), .val (.int p5), .val (.int (p1.toInt8.toInt32)), .val (.int (p2.toInt8.toInt32)), .val (.int (p3.toInt8.toInt32)), .unset, .unset, .unset, .unset] [(.int p4)]))
  refine own_Fin.step (fun _ => XS.i2b X0.here hx rfl (hb hby at_13) rfl) ?_
  show own_Fin p e below s _ _ _ (s₁.setTop (mkF m 14 #[.val (.int p1), .val (.int p2), .val (.int p3), .val (.int p4), .val (.int p5), .val (.int (p1.toInt8.toInt32)), .val (.int (p2.toInt8.toInt32)), .val (.int (p3.toInt8.toInt32)), .unset, .unset, .unset, .unset] [(.int (p4.toInt8.toInt32))]))
  refine own_Fin.step (fun _ => XS.istore X0.here hx rfl (hb hby at_14) rfl (l' := #[.val (.int p1), .val (.int p2), .val (.int p3), .val (.int p4), .val (.int p5), .val (.int (p1.toInt8.toInt32)), .val (.int (p2.toInt8.toInt32)), .val (.int (p3.toInt8.toInt32)), .val (.int (p4.toInt8.toInt32)), .unset, .unset, .unset]) rfl) ?_
  show own_Fin p e below s _ _ _ (s₁.setTop (mkF m 16 #[.val (.int p1), .val (.int p2), .val (.int p3), .val (.int p4), .val (.int p5), .val (.int (p1.toInt8.toInt32)), .val (.int (p2.toInt8.toInt32)), .val (.int (p3.toInt8.toInt32)), .val (.int (p4.toInt8.toInt32)), .unset, .unset, .unset] []))
  refine own_Fin.step (fun _ => XS.iload X0.here hx rfl (hb hby at_16) rfl) ?_
  show own_Fin p e below s _ _ _ (s₁.setTop (mkF m 18 #[.val (.int p1), .val (.int p2), .val (.int p3), .val (.int p4), .val (.int p5), .val (.int (p1.toInt8.toInt32)), .val (.int (p2.toInt8.toInt32)), .val (.int (p3.toInt8.toInt32)), .val (.int (p4.toInt8.toInt32)), .unset, .unset, .unset] [(.int p5)]))
  refine own_Fin.step (fun _ => XS.bipush X0.here hx rfl (hb hby at_18)) ?_
  show own_Fin p e below s _ _ _ (s₁.setTop (mkF m 20 #[.val (.int p1), .val (.int p2), .val (.int p3), .val (.int p4), .val (.int p5), .val (.int (p1.toInt8.toInt32)), .val (.int (p2.toInt8.toInt32)), .val (.int (p3.toInt8.toInt32)), .val (.int (p4.toInt8.toInt32)), .unset, .unset, .unset] [(.int (7 : Int32)), (.int p5)]))
  refine own_Fin.step (fun _ => XS.iand X0.here hx rfl (hb hby at_20) rfl) ?_
  show own_Fin p e below s _ _ _ (s₁.setTop (mkF m 21 #[.val (.int p1), .val (.int p2), .val (.int p3), .val (.int p4), .val (.int p5), .val (.int (p1.toInt8.toInt32)), .val (.int (p2.toInt8.toInt32)), .val (.int (p3.toInt8.toInt32)), .val (.int (p4.toInt8.toInt32)), .unset, .unset, .unset] [(.int (p5 &&& (7 : Int32)))]))
  refine own_Fin.step (fun _ => XS.iconst X0.here hx rfl (hb hby at_21)) ?_
  show own_Fin p e below s _ _ _ (s₁.setTop (mkF m 22 #[.val (.int p1), .val (.int p2), .val (.int p3), .val (.int p4), .val (.int p5), .val (.int (p1.toInt8.toInt32)), .val (.int (p2.toInt8.toInt32)), .val (.int (p3.toInt8.toInt32)), .val (.int (p4.toInt8.toInt32)), .unset, .unset, .unset] [(.int (5 : Int32)), (.int (p5 &&& (7 : Int32)))]))
  refine own_Fin.step (fun _ => Jvm.RoadKit.iremM X0 hx rfl (hb hby at_22) rfl (by decide)) ?_
  show own_Fin p e below s _ _ _ (s₁.setTop (mkF m 23 #[.val (.int p1), .val (.int p2), .val (.int p3), .val (.int p4), .val (.int p5), .val (.int (p1.toInt8.toInt32)), .val (.int (p2.toInt8.toInt32)), .val (.int (p3.toInt8.toInt32)), .val (.int (p4.toInt8.toInt32)), .unset, .unset, .unset] [(.int ((p5 &&& (7 : Int32)) % (5 : Int32)))]))
  generalize hn : ((p5 &&& (7 : Int32)) % (5 : Int32)) = n
  rcases (hn ▸ own_n5 p5 : n = 0 ∨ n = 1 ∨ n = 2 ∨ n = 3 ∨ n = 4) with rfl | rfl | rfl | rfl | rfl
  ·
    show own_Fin p e below s _ _ _ (s₁.setTop (mkF m 23 #[.val (.int p1), .val (.int p2), .val (.int p3), .val (.int p4), .val (.int p5), .val (.int (p1.toInt8.toInt32)), .val (.int (p2.toInt8.toInt32)), .val (.int (p3.toInt8.toInt32)), .val (.int (p4.toInt8.toInt32)), .unset, .unset, .unset] [(.int (0 : Int32))]))
    refine own_Fin.step (fun _ => XS.istore X0.here hx rfl (hb hby at_23) rfl (l' := #[.val (.int p1), .val (.int p2), .val (.int p3), .val (.int p4), .val (.int p5), .val (.int (p1.toInt8.toInt32)), .val (.int (p2.toInt8.toInt32)), .val (.int (p3.toInt8.toInt32)), .val (.int (p4.toInt8.toInt32)), .val (.int (0 : Int32)), .unset, .unset]) rfl) ?_
    show own_Fin p e below s _ _ _ (s₁.setTop (mkF m 25 #[.val (.int p1), .val (.int p2), .val (.int p3), .val (.int p4), .val (.int p5), .val (.int (p1.toInt8.toInt32)), .val (.int (p2.toInt8.toInt32)), .val (.int (p3.toInt8.toInt32)), .val (.int (p4.toInt8.toInt32)), .val (.int (0 : Int32)), .unset, .unset] []))
    refine own_Fin.step (fun _ => XS.iload X0.here hx rfl (hb hby at_25) rfl) ?_
    show own_Fin p e below s _ _ _ (s₁.setTop (mkF m 27 #[.val (.int p1), .val (.int p2), .val (.int p3), .val (.int p4), .val (.int p5), .val (.int (p1.toInt8.toInt32)), .val (.int (p2.toInt8.toInt32)), .val (.int (p3.toInt8.toInt32)), .val (.int (p4.toInt8.toInt32)), .val (.int (0 : Int32)), .unset, .unset] [(.int (0 : Int32))]))
    refine own_Fin.step (fun _ => XS.ifNo X0.here hx rfl (hb hby at_27) rfl (XT.i0_ne_f (by decide : (0 : Int32) = (0 : Int32)))) ?_
    show own_Fin p e below s _ _ _ (s₁.setTop (mkF m 30 #[.val (.int p1), .val (.int p2), .val (.int p3), .val (.int p4), .val (.int p5), .val (.int (p1.toInt8.toInt32)), .val (.int (p2.toInt8.toInt32)), .val (.int (p3.toInt8.toInt32)), .val (.int (p4.toInt8.toInt32)), .val (.int (0 : Int32)), .unset, .unset] []))
    refine own_Fin.step (fun _ => XS.iconst X0.here hx rfl (hb hby at_30)) ?_
    show own_Fin p e below s _ _ _ (s₁.setTop (mkF m 31 #[.val (.int p1), .val (.int p2), .val (.int p3), .val (.int p4), .val (.int p5), .val (.int (p1.toInt8.toInt32)), .val (.int (p2.toInt8.toInt32)), .val (.int (p3.toInt8.toInt32)), .val (.int (p4.toInt8.toInt32)), .val (.int (0 : Int32)), .unset, .unset] [(.int (0 : Int32))]))
    obtain ⟨T1, h1, k1, b1, X1, e1, E1, g1, V1, st1⟩ := own_newA X0 hx hZ (own_w hw 0 rfl) e0 (ty := .byte) (dv := (.int (0 : Int32))) rfl rfl (g := (mkF m 31 #[.val (.int p1), .val (.int p2), .val (.int p3), .val (.int p4), .val (.int p5), .val (.int (p1.toInt8.toInt32)), .val (.int (p2.toInt8.toInt32)), .val (.int (p3.toInt8.toInt32)), .val (.int (p4.toInt8.toInt32)), .val (.int (0 : Int32)), .unset, .unset] [(.int (0 : Int32))])) rfl (hb hby at_31) rfl (by decide) (cap := 0) (by decide) (by decide) (by decide) (by decide) (0)
    have ge2 : n0 ≤ b1 := Nat.le_trans Z0 (Nat.le_of_eq g1.symm)
    have Z1 : n0 ≤ h1.size := Nat.le_trans Z0 E1.1
    have V1' : Arv Z h1 b1 k1 .byte (0 : Int32) [] (.int (0 : Int32)) := V1
    refine own_Fin.step st1 ?_
    show own_Fin p e below s _ _ _ (T1.setTop (mkF m 33 #[.val (.int p1), .val (.int p2), .val (.int p3), .val (.int p4), .val (.int p5), .val (.int (p1.toInt8.toInt32)), .val (.int (p2.toInt8.toInt32)), .val (.int (p3.toInt8.toInt32)), .val (.int (p4.toInt8.toInt32)), .val (.int (0 : Int32)), .unset, .unset] [(.ref b1)]))
    refine own_Fin.step (fun _ => XS.astore X1.here hx rfl (hb hby at_33) rfl rfl (l' := #[.val (.int p1), .val (.int p2), .val (.int p3), .val (.int p4), .val (.int p5), .val (.int (p1.toInt8.toInt32)), .val (.int (p2.toInt8.toInt32)), .val (.int (p3.toInt8.toInt32)), .val (.int (p4.toInt8.toInt32)), .val (.int (0 : Int32)), .val (.ref b1), .unset]) rfl) ?_
    show own_Fin p e below s _ _ _ (T1.setTop (mkF m 35 #[.val (.int p1), .val (.int p2), .val (.int p3), .val (.int p4), .val (.int p5), .val (.int (p1.toInt8.toInt32)), .val (.int (p2.toInt8.toInt32)), .val (.int (p3.toInt8.toInt32)), .val (.int (p4.toInt8.toInt32)), .val (.int (0 : Int32)), .val (.ref b1), .unset] []))
    refine own_Fin.step (fun _ => XS.goto X1.here hx rfl (pc0 := 35) (pc' := 135) rfl (hb hby at_35) (by decide) (by decide)) ?_
    show own_Fin p e below s _ _ _ (T1.setTop (mkF m 135 #[.val (.int p1), .val (.int p2), .val (.int p3), .val (.int p4), .val (.int p5), .val (.int (p1.toInt8.toInt32)), .val (.int (p2.toInt8.toInt32)), .val (.int (p3.toInt8.toInt32)), .val (.int (p4.toInt8.toInt32)), .val (.int (0 : Int32)), .val (.ref b1), .unset] []))
    refine own_Fin.step (fun _ => XS.iload X1.here hx rfl (hb hby at_135) rfl) ?_
    show own_Fin p e below s _ _ _ (T1.setTop (mkF m 137 #[.val (.int p1), .val (.int p2), .val (.int p3), .val (.int p4), .val (.int p5), .val (.int (p1.toInt8.toInt32)), .val (.int (p2.toInt8.toInt32)), .val (.int (p3.toInt8.toInt32)), .val (.int (p4.toInt8.toInt32)), .val (.int (0 : Int32)), .val (.ref b1), .unset] [(.int (0 : Int32))]))
    refine own_Fin.step (fun _ => XS.iconst X1.here hx rfl (hb hby at_137)) ?_
    show own_Fin p e below s _ _ _ (T1.setTop (mkF m 138 #[.val (.int p1), .val (.int p2), .val (.int p3), .val (.int p4), .val (.int p5), .val (.int (p1.toInt8.toInt32)), .val (.int (p2.toInt8.toInt32)), .val (.int (p3.toInt8.toInt32)), .val (.int (p4.toInt8.toInt32)), .val (.int (0 : Int32)), .val (.ref b1), .unset] [(.int (1 : Int32)), (.int (0 : Int32))]))
    refine own_Fin.step (fun _ => XS.icmpYes X1.here hx rfl (pc0 := 138) (pc' := 149) rfl (hb hby at_138) rfl (XT.ii_lt_t (by decide : (0 : Int32) < (1 : Int32))) (by decide) (by decide)) ?_
    show own_Fin p e below s _ _ _ (T1.setTop (mkF m 149 #[.val (.int p1), .val (.int p2), .val (.int p3), .val (.int p4), .val (.int p5), .val (.int (p1.toInt8.toInt32)), .val (.int (p2.toInt8.toInt32)), .val (.int (p3.toInt8.toInt32)), .val (.int (p4.toInt8.toInt32)), .val (.int (0 : Int32)), .val (.ref b1), .unset] []))
    refine own_Fin.step (fun _ => XS.iload X1.here hx rfl (hb hby at_149) rfl) ?_
    show own_Fin p e below s _ _ _ (T1.setTop (mkF m 151 #[.val (.int p1), .val (.int p2), .val (.int p3), .val (.int p4), .val (.int p5), .val (.int (p1.toInt8.toInt32)), .val (.int (p2.toInt8.toInt32)), .val (.int (p3.toInt8.toInt32)), .val (.int (p4.toInt8.toInt32)), .val (.int (0 : Int32)), .val (.ref b1), .unset] [(.int (0 : Int32))]))
    refine own_Fin.step (fun _ => XS.iconst X1.here hx rfl (hb hby at_151)) ?_
    show own_Fin p e below s _ _ _ (T1.setTop (mkF m 152 #[.val (.int p1), .val (.int p2), .val (.int p3), .val (.int p4), .val (.int p5), .val (.int (p1.toInt8.toInt32)), .val (.int (p2.toInt8.toInt32)), .val (.int (p3.toInt8.toInt32)), .val (.int (p4.toInt8.toInt32)), .val (.int (0 : Int32)), .val (.ref b1), .unset] [(.int (2 : Int32)), (.int (0 : Int32))]))
    refine own_Fin.step (fun _ => XS.icmpYes X1.here hx rfl (pc0 := 152) (pc' := 163) rfl (hb hby at_152) rfl (XT.ii_lt_t (by decide : (0 : Int32) < (2 : Int32))) (by decide) (by decide)) ?_
    show own_Fin p e below s _ _ _ (T1.setTop (mkF m 163 #[.val (.int p1), .val (.int p2), .val (.int p3), .val (.int p4), .val (.int p5), .val (.int (p1.toInt8.toInt32)), .val (.int (p2.toInt8.toInt32)), .val (.int (p3.toInt8.toInt32)), .val (.int (p4.toInt8.toInt32)), .val (.int (0 : Int32)), .val (.ref b1), .unset] []))
    refine own_Fin.step (fun _ => XS.iload X1.here hx rfl (hb hby at_163) rfl) ?_
    show own_Fin p e below s _ _ _ (T1.setTop (mkF m 165 #[.val (.int p1), .val (.int p2), .val (.int p3), .val (.int p4), .val (.int p5), .val (.int (p1.toInt8.toInt32)), .val (.int (p2.toInt8.toInt32)), .val (.int (p3.toInt8.toInt32)), .val (.int (p4.toInt8.toInt32)), .val (.int (0 : Int32)), .val (.ref b1), .unset] [(.int (0 : Int32))]))
    refine own_Fin.step (fun _ => XS.iconst X1.here hx rfl (hb hby at_165)) ?_
    show own_Fin p e below s _ _ _ (T1.setTop (mkF m 166 #[.val (.int p1), .val (.int p2), .val (.int p3), .val (.int p4), .val (.int p5), .val (.int (p1.toInt8.toInt32)), .val (.int (p2.toInt8.toInt32)), .val (.int (p3.toInt8.toInt32)), .val (.int (p4.toInt8.toInt32)), .val (.int (0 : Int32)), .val (.ref b1), .unset] [(.int (3 : Int32)), (.int (0 : Int32))]))
    refine own_Fin.step (fun _ => XS.icmpYes X1.here hx rfl (pc0 := 166) (pc' := 177) rfl (hb hby at_166) rfl (XT.ii_lt_t (by decide : (0 : Int32) < (3 : Int32))) (by decide) (by decide)) ?_
    show own_Fin p e below s _ _ _ (T1.setTop (mkF m 177 #[.val (.int p1), .val (.int p2), .val (.int p3), .val (.int p4), .val (.int p5), .val (.int (p1.toInt8.toInt32)), .val (.int (p2.toInt8.toInt32)), .val (.int (p3.toInt8.toInt32)), .val (.int (p4.toInt8.toInt32)), .val (.int (0 : Int32)), .val (.ref b1), .unset] []))
    refine own_Fin.step (fun _ => XS.iload X1.here hx rfl (hb hby at_177) rfl) ?_
    show own_Fin p e below s _ _ _ (T1.setTop (mkF m 179 #[.val (.int p1), .val (.int p2), .val (.int p3), .val (.int p4), .val (.int p5), .val (.int (p1.toInt8.toInt32)), .val (.int (p2.toInt8.toInt32)), .val (.int (p3.toInt8.toInt32)), .val (.int (p4.toInt8.toInt32)), .val (.int (0 : Int32)), .val (.ref b1), .unset] [(.int (0 : Int32))]))
    refine own_Fin.step (fun _ => XS.iconst X1.here hx rfl (hb hby at_179)) ?_
    show own_Fin p e below s _ _ _ (T1.setTop (mkF m 180 #[.val (.int p1), .val (.int p2), .val (.int p3), .val (.int p4), .val (.int p5), .val (.int (p1.toInt8.toInt32)), .val (.int (p2.toInt8.toInt32)), .val (.int (p3.toInt8.toInt32)), .val (.int (p4.toInt8.toInt32)), .val (.int (0 : Int32)), .val (.ref b1), .unset] [(.int (4 : Int32)), (.int (0 : Int32))]))
    refine own_Fin.step (fun _ => XS.icmpYes X1.here hx rfl (pc0 := 180) (pc' := 191) rfl (hb hby at_180) rfl (XT.ii_lt_t (by decide : (0 : Int32) < (4 : Int32))) (by decide) (by decide)) ?_
    show own_Fin p e below s _ _ _ (T1.setTop (mkF m 191 #[.val (.int p1), .val (.int p2), .val (.int p3), .val (.int p4), .val (.int p5), .val (.int (p1.toInt8.toInt32)), .val (.int (p2.toInt8.toInt32)), .val (.int (p3.toInt8.toInt32)), .val (.int (p4.toInt8.toInt32)), .val (.int (0 : Int32)), .val (.ref b1), .unset] []))
    refine own_Fin.step (fun _ => XS.iconst X1.here hx rfl (hb hby at_191)) ?_
    show own_Fin p e below s _ _ _ (T1.setTop (mkF m 192 #[.val (.int p1), .val (.int p2), .val (.int p3), .val (.int p4), .val (.int p5), .val (.int (p1.toInt8.toInt32)), .val (.int (p2.toInt8.toInt32)), .val (.int (p3.toInt8.toInt32)), .val (.int (p4.toInt8.toInt32)), .val (.int (0 : Int32)), .val (.ref b1), .unset] [(.int (1 : Int32))]))
    refine own_Fin.step (fun _ => XS.goto X1.here hx rfl (pc0 := 192) (pc' := 196) rfl (hb hby at_192) (by decide) (by decide)) ?_
    show own_Fin p e below s _ _ _ (T1.setTop (mkF m 196 #[.val (.int p1), .val (.int p2), .val (.int p3), .val (.int p4), .val (.int p5), .val (.int (p1.toInt8.toInt32)), .val (.int (p2.toInt8.toInt32)), .val (.int (p3.toInt8.toInt32)), .val (.int (p4.toInt8.toInt32)), .val (.int (0 : Int32)), .val (.ref b1), .unset] [(.int (1 : Int32))]))
    refine own_Fin.step (fun _ => XS.istore X1.here hx rfl (hb hby at_196) rfl (l' := #[.val (.int p1), .val (.int p2), .val (.int p3), .val (.int p4), .val (.int p5), .val (.int (p1.toInt8.toInt32)), .val (.int (p2.toInt8.toInt32)), .val (.int (p3.toInt8.toInt32)), .val (.int (p4.toInt8.toInt32)), .val (.int (0 : Int32)), .val (.ref b1), .val (.int (1 : Int32))]) rfl) ?_
    show own_Fin p e below s _ _ _ (T1.setTop (mkF m 198 #[.val (.int p1), .val (.int p2), .val (.int p3), .val (.int p4), .val (.int p5), .val (.int (p1.toInt8.toInt32)), .val (.int (p2.toInt8.toInt32)), .val (.int (p3.toInt8.toInt32)), .val (.int (p4.toInt8.toInt32)), .val (.int (0 : Int32)), .val (.ref b1), .val (.int (1 : Int32))] []))
    refine own_Fin.step (fun _ => XS.aload X1.here hx rfl (hb hby at_198) rfl rfl) ?_
    show own_Fin p e below s _ _ _ (T1.setTop (mkF m 200 #[.val (.int p1), .val (.int p2), .val (.int p3), .val (.int p4), .val (.int p5), .val (.int (p1.toInt8.toInt32)), .val (.int (p2.toInt8.toInt32)), .val (.int (p3.toInt8.toInt32)), .val (.int (p4.toInt8.toInt32)), .val (.int (0 : Int32)), .val (.ref b1), .val (.int (1 : Int32))] [(.ref b1)]))
    obtain ⟨_, T3, L3, X3, ⟨rfl, N3q, e3⟩, st3⟩ := own_callS X1 hx hZ hown (own_w hw 1 rfl) (own_w hw 2 rfl) (own_w hw 3 rfl) (own_w hw 4 rfl) (by decide) (rm1 l Z a0 hw b1 k1 (0 : Int32) [] (.int (0 : Int32)) h1 n0 Z1 V1' rfl) (by decide) (by decide) e1 (W := 0) (g := (mkF m 200 #[.val (.int p1), .val (.int p2), .val (.int p3), .val (.int p4), .val (.int p5), .val (.int (p1.toInt8.toInt32)), .val (.int (p2.toInt8.toInt32)), .val (.int (p3.toInt8.toInt32)), .val (.int (p4.toInt8.toInt32)), .val (.int (0 : Int32)), .val (.ref b1), .val (.int (1 : Int32))] [(.ref b1)])) rfl (by rw [hml]; rfl) (argsL := [(.ref b1)]) (rest := []) (lenOf pd_0 rfl) rfl rfl (by show 2 * 0 + _ ≤ _; exact Nat.le_of_eq rfl) (hb hby at_200) (by decide) (by decide)
    have N3 := Fr.app N0 N3q
    refine own_Fin.step st3 ?_
    show own_Fin p e below s _ _ _ (T3.setTop (mkF m 203 #[.val (.int p1), .val (.int p2), .val (.int p3), .val (.int p4), .val (.int p5), .val (.int (p1.toInt8.toInt32)), .val (.int (p2.toInt8.toInt32)), .val (.int (p3.toInt8.toInt32)), .val (.int (p4.toInt8.toInt32)), .val (.int (0 : Int32)), .val (.ref b1), .val (.int (1 : Int32))] [(.int (own_plain []))]))
    refine own_Fin.step (fun _ => XS.iload X3.here hx rfl (hb hby at_203) rfl) ?_
    show own_Fin p e below s _ _ _ (T3.setTop (mkF m 205 #[.val (.int p1), .val (.int p2), .val (.int p3), .val (.int p4), .val (.int p5), .val (.int (p1.toInt8.toInt32)), .val (.int (p2.toInt8.toInt32)), .val (.int (p3.toInt8.toInt32)), .val (.int (p4.toInt8.toInt32)), .val (.int (0 : Int32)), .val (.ref b1), .val (.int (1 : Int32))] [(.int (1 : Int32)), (.int (own_plain []))]))
    refine own_Fin.step (fun _ => XS.icmpNo X3.here hx rfl (hb hby at_205) rfl (XT.ii_ne_f rfl)) ?_
    show own_Fin p e below s _ _ _ (T3.setTop (mkF m 208 #[.val (.int p1), .val (.int p2), .val (.int p3), .val (.int p4), .val (.int p5), .val (.int (p1.toInt8.toInt32)), .val (.int (p2.toInt8.toInt32)), .val (.int (p3.toInt8.toInt32)), .val (.int (p4.toInt8.toInt32)), .val (.int (0 : Int32)), .val (.ref b1), .val (.int (1 : Int32))] []))
    refine own_Fin.step (fun _ => XS.iconst X3.here hx rfl (hb hby at_208)) ?_
    show own_Fin p e below s _ _ _ (T3.setTop (mkF m 209 #[.val (.int p1), .val (.int p2), .val (.int p3), .val (.int p4), .val (.int p5), .val (.int (p1.toInt8.toInt32)), .val (.int (p2.toInt8.toInt32)), .val (.int (p3.toInt8.toInt32)), .val (.int (p4.toInt8.toInt32)), .val (.int (0 : Int32)), .val (.ref b1), .val (.int (1 : Int32))] [(.int (1 : Int32))]))
    refine own_Fin.step (fun _ => XS.goto X3.here hx rfl (pc0 := 209) (pc' := 213) rfl (hb hby at_209) (by decide) (by decide)) ?_
    show own_Fin p e below s _ _ _ (T3.setTop (mkF m 213 #[.val (.int p1), .val (.int p2), .val (.int p3), .val (.int p4), .val (.int p5), .val (.int (p1.toInt8.toInt32)), .val (.int (p2.toInt8.toInt32)), .val (.int (p3.toInt8.toInt32)), .val (.int (p4.toInt8.toInt32)), .val (.int (0 : Int32)), .val (.ref b1), .val (.int (1 : Int32))] [(.int (1 : Int32))]))
    exact own_retN X3 hx hlk (t := .boolean) hret (by simp) (hb hby at_213) ⟨rfl, N3⟩ (by decide) (by decide)
  ·
    show own_Fin p e below s _ _ _ (s₁.setTop (mkF m 23 #[.val (.int p1), .val (.int p2), .val (.int p3), .val (.int p4), .val (.int p5), .val (.int (p1.toInt8.toInt32)), .val (.int (p2.toInt8.toInt32)), .val (.int (p3.toInt8.toInt32)), .val (.int (p4.toInt8.toInt32)), .unset, .unset, .unset] [(.int (1 : Int32))]))
    refine own_Fin.step (fun _ => XS.istore X0.here hx rfl (hb hby at_23) rfl (l' := #[.val (.int p1), .val (.int p2), .val (.int p3), .val (.int p4), .val (.int p5), .val (.int (p1.toInt8.toInt32)), .val (.int (p2.toInt8.toInt32)), .val (.int (p3.toInt8.toInt32)), .val (.int (p4.toInt8.toInt32)), .val (.int (1 : Int32)), .unset, .unset]) rfl) ?_
    show own_Fin p e below s _ _ _ (s₁.setTop (mkF m 25 #[.val (.int p1), .val (.int p2), .val (.int p3), .val (.int p4), .val (.int p5), .val (.int (p1.toInt8.toInt32)), .val (.int (p2.toInt8.toInt32)), .val (.int (p3.toInt8.toInt32)), .val (.int (p4.toInt8.toInt32)), .val (.int (1 : Int32)), .unset, .unset] []))
    refine own_Fin.step (fun _ => XS.iload X0.here hx rfl (hb hby at_25) rfl) ?_
    show own_Fin p e below s _ _ _ (s₁.setTop (mkF m 27 #[.val (.int p1), .val (.int p2), .val (.int p3), .val (.int p4), .val (.int p5), .val (.int (p1.toInt8.toInt32)), .val (.int (p2.toInt8.toInt32)), .val (.int (p3.toInt8.toInt32)), .val (.int (p4.toInt8.toInt32)), .val (.int (1 : Int32)), .unset, .unset] [(.int (1 : Int32))]))
    refine own_Fin.step (fun _ => XS.ifYes X0.here hx rfl (pc0 := 27) (pc' := 38) rfl (hb hby at_27) rfl (XT.i0_ne_t (by decide : ¬ ((1 : Int32) = (0 : Int32)))) (by decide) (by decide)) ?_
    show own_Fin p e below s _ _ _ (s₁.setTop (mkF m 38 #[.val (.int p1), .val (.int p2), .val (.int p3), .val (.int p4), .val (.int p5), .val (.int (p1.toInt8.toInt32)), .val (.int (p2.toInt8.toInt32)), .val (.int (p3.toInt8.toInt32)), .val (.int (p4.toInt8.toInt32)), .val (.int (1 : Int32)), .unset, .unset] []))
    refine own_Fin.step (fun _ => XS.iload X0.here hx rfl (hb hby at_38) rfl) ?_
    show own_Fin p e below s _ _ _ (s₁.setTop (mkF m 40 #[.val (.int p1), .val (.int p2), .val (.int p3), .val (.int p4), .val (.int p5), .val (.int (p1.toInt8.toInt32)), .val (.int (p2.toInt8.toInt32)), .val (.int (p3.toInt8.toInt32)), .val (.int (p4.toInt8.toInt32)), .val (.int (1 : Int32)), .unset, .unset] [(.int (1 : Int32))]))
    refine own_Fin.step (fun _ => XS.iconst X0.here hx rfl (hb hby at_40)) ?_
    show own_Fin p e below s _ _ _ (s₁.setTop (mkF m 41 #[.val (.int p1), .val (.int p2), .val (.int p3), .val (.int p4), .val (.int p5), .val (.int (p1.toInt8.toInt32)), .val (.int (p2.toInt8.toInt32)), .val (.int (p3.toInt8.toInt32)), .val (.int (p4.toInt8.toInt32)), .val (.int (1 : Int32)), .unset, .unset] [(.int (1 : Int32)), (.int (1 : Int32))]))
    refine own_Fin.step (fun _ => XS.icmpNo X0.here hx rfl (hb hby at_41) rfl (XT.ii_ne_f (by decide : (1 : Int32) = (1 : Int32)))) ?_
    show own_Fin p e below s _ _ _ (s₁.setTop (mkF m 44 #[.val (.int p1), .val (.int p2), .val (.int p3), .val (.int p4), .val (.int p5), .val (.int (p1.toInt8.toInt32)), .val (.int (p2.toInt8.toInt32)), .val (.int (p3.toInt8.toInt32)), .val (.int (p4.toInt8.toInt32)), .val (.int (1 : Int32)), .unset, .unset] []))
    refine own_Fin.step (fun _ => XS.iconst X0.here hx rfl (hb hby at_44)) ?_
    show own_Fin p e below s _ _ _ (s₁.setTop (mkF m 45 #[.val (.int p1), .val (.int p2), .val (.int p3), .val (.int p4), .val (.int p5), .val (.int (p1.toInt8.toInt32)), .val (.int (p2.toInt8.toInt32)), .val (.int (p3.toInt8.toInt32)), .val (.int (p4.toInt8.toInt32)), .val (.int (1 : Int32)), .unset, .unset] [(.int (1 : Int32))]))
    obtain ⟨T4, h4, k4, b4, X4, e4, E4, g4, V4, st4⟩ := own_newA X0 hx hZ (own_w hw 0 rfl) e0 (ty := .byte) (dv := (.int (0 : Int32))) rfl rfl (g := (mkF m 45 #[.val (.int p1), .val (.int p2), .val (.int p3), .val (.int p4), .val (.int p5), .val (.int (p1.toInt8.toInt32)), .val (.int (p2.toInt8.toInt32)), .val (.int (p3.toInt8.toInt32)), .val (.int (p4.toInt8.toInt32)), .val (.int (1 : Int32)), .unset, .unset] [(.int (1 : Int32))])) rfl (hb hby at_45) rfl (by decide) (cap := 1) (by decide) (by decide) (by decide) (by decide) (1)
    have ge5 : n0 ≤ b4 := Nat.le_trans Z0 (Nat.le_of_eq g4.symm)
    have Z4 : n0 ≤ h4.size := Nat.le_trans Z0 E4.1
    have V4' : Arv Z h4 b4 k4 .byte (1 : Int32) [(.int (0 : Int32))] (.int (0 : Int32)) := V4
    refine own_Fin.step st4 ?_
    show own_Fin p e below s _ _ _ (T4.setTop (mkF m 47 #[.val (.int p1), .val (.int p2), .val (.int p3), .val (.int p4), .val (.int p5), .val (.int (p1.toInt8.toInt32)), .val (.int (p2.toInt8.toInt32)), .val (.int (p3.toInt8.toInt32)), .val (.int (p4.toInt8.toInt32)), .val (.int (1 : Int32)), .unset, .unset] [(.ref b4)]))
    refine own_Fin.step (fun _ => XS.dup X4.here hx rfl (hb hby at_47) rfl rfl) ?_
    show own_Fin p e below s _ _ _ (T4.setTop (mkF m 48 #[.val (.int p1), .val (.int p2), .val (.int p3), .val (.int p4), .val (.int p5), .val (.int (p1.toInt8.toInt32)), .val (.int (p2.toInt8.toInt32)), .val (.int (p3.toInt8.toInt32)), .val (.int (p4.toInt8.toInt32)), .val (.int (1 : Int32)), .unset, .unset] [(.ref b4), (.ref b4)]))
    refine own_Fin.step (fun _ => XS.iconst X4.here hx rfl (hb hby at_48)) ?_
    show own_Fin p e below s _ _ _ (T4.setTop (mkF m 49 #[.val (.int p1), .val (.int p2), .val (.int p3), .val (.int p4), .val (.int p5), .val (.int (p1.toInt8.toInt32)), .val (.int (p2.toInt8.toInt32)), .val (.int (p3.toInt8.toInt32)), .val (.int (p4.toInt8.toInt32)), .val (.int (1 : Int32)), .unset, .unset] [(.int (0 : Int32)), (.ref b4), (.ref b4)]))
    refine own_Fin.step (fun _ => XS.iload X4.here hx rfl (hb hby at_49) rfl) ?_
    show own_Fin p e below s _ _ _ (T4.setTop (mkF m 51 #[.val (.int p1), .val (.int p2), .val (.int p3), .val (.int p4), .val (.int p5), .val (.int (p1.toInt8.toInt32)), .val (.int (p2.toInt8.toInt32)), .val (.int (p3.toInt8.toInt32)), .val (.int (p4.toInt8.toInt32)), .val (.int (1 : Int32)), .unset, .unset] [(.int (p1.toInt8.toInt32)), (.int (0 : Int32)), (.ref b4), (.ref b4)]))
    obtain ⟨T6, h6, X6, e6, V6, W6, st6⟩ := own_stBn X4 hx hZ e4 V4' (j := (0 : Int32)) ⟨by decide, by decide⟩ (0) rfl (Nat.le_of_ble_eq_true rfl) (g := (mkF m 51 #[.val (.int p1), .val (.int p2), .val (.int p3), .val (.int p4), .val (.int p5), .val (.int (p1.toInt8.toInt32)), .val (.int (p2.toInt8.toInt32)), .val (.int (p3.toInt8.toInt32)), .val (.int (p4.toInt8.toInt32)), .val (.int (1 : Int32)), .unset, .unset] [(.int (p1.toInt8.toInt32)), (.int (0 : Int32)), (.ref b4), (.ref b4)])) rfl rfl (hb hby at_51)
    have V6' : Arv Z h6 b4 k4 .byte (1 : Int32) [(.int (p1.toInt8.toInt32))] (.int (0 : Int32)) := V6
    have N6 := Fr.snoc X6 N0 ge5
    have Z6 : n0 ≤ h6.size := Nat.le_trans Z4 (Nat.le_of_eq W6.size.symm)
    refine own_Fin.step st6 ?_
    show own_Fin p e below s _ _ _ (T6.setTop (mkF m 52 #[.val (.int p1), .val (.int p2), .val (.int p3), .val (.int p4), .val (.int p5), .val (.int (p1.toInt8.toInt32)), .val (.int (p2.toInt8.toInt32)), .val (.int (p3.toInt8.toInt32)), .val (.int (p4.toInt8.toInt32)), .val (.int (1 : Int32)), .unset, .unset] [(.ref b4)]))
    refine own_Fin.step (fun _ => XS.astore X6.here hx rfl (hb hby at_52) rfl rfl (l' := #[.val (.int p1), .val (.int p2), .val (.int p3), .val (.int p4), .val (.int p5), .val (.int (p1.toInt8.toInt32)), .val (.int (p2.toInt8.toInt32)), .val (.int (p3.toInt8.toInt32)), .val (.int (p4.toInt8.toInt32)), .val (.int (1 : Int32)), .val (.ref b4), .unset]) rfl) ?_
    show own_Fin p e below s _ _ _ (T6.setTop (mkF m 54 #[.val (.int p1), .val (.int p2), .val (.int p3), .val (.int p4), .val (.int p5), .val (.int (p1.toInt8.toInt32)), .val (.int (p2.toInt8.toInt32)), .val (.int (p3.toInt8.toInt32)), .val (.int (p4.toInt8.toInt32)), .val (.int (1 : Int32)), .val (.ref b4), .unset] []))
    refine own_Fin.step (fun _ => XS.goto X6.here hx rfl (pc0 := 54) (pc' := 135) rfl (hb hby at_54) (by decide) (by decide)) ?_
    show own_Fin p e below s _ _ _ (T6.setTop (mkF m 135 #[.val (.int p1), .val (.int p2), .val (.int p3), .val (.int p4), .val (.int p5), .val (.int (p1.toInt8.toInt32)), .val (.int (p2.toInt8.toInt32)), .val (.int (p3.toInt8.toInt32)), .val (.int (p4.toInt8.toInt32)), .val (.int (1 : Int32)), .val (.ref b4), .unset] []))
    refine own_Fin.step (fun _ => XS.iload X6.here hx rfl (hb hby at_135) rfl) ?_
    show own_Fin p e below s _ _ _ (T6.setTop (mkF m 137 #[.val (.int p1), .val (.int p2), .val (.int p3), .val (.int p4), .val (.int p5), .val (.int (p1.toInt8.toInt32)), .val (.int (p2.toInt8.toInt32)), .val (.int (p3.toInt8.toInt32)), .val (.int (p4.toInt8.toInt32)), .val (.int (1 : Int32)), .val (.ref b4), .unset] [(.int (1 : Int32))]))
    refine own_Fin.step (fun _ => XS.iconst X6.here hx rfl (hb hby at_137)) ?_
    show own_Fin p e below s _ _ _ (T6.setTop (mkF m 138 #[.val (.int p1), .val (.int p2), .val (.int p3), .val (.int p4), .val (.int p5), .val (.int (p1.toInt8.toInt32)), .val (.int (p2.toInt8.toInt32)), .val (.int (p3.toInt8.toInt32)), .val (.int (p4.toInt8.toInt32)), .val (.int (1 : Int32)), .val (.ref b4), .unset] [(.int (1 : Int32)), (.int (1 : Int32))]))
    refine own_Fin.step (fun _ => XS.icmpNo X6.here hx rfl (hb hby at_138) rfl (XT.ii_lt_f (by decide : ¬ ((1 : Int32) < (1 : Int32))))) ?_
    show own_Fin p e below s _ _ _ (T6.setTop (mkF m 141 #[.val (.int p1), .val (.int p2), .val (.int p3), .val (.int p4), .val (.int p5), .val (.int (p1.toInt8.toInt32)), .val (.int (p2.toInt8.toInt32)), .val (.int (p3.toInt8.toInt32)), .val (.int (p4.toInt8.toInt32)), .val (.int (1 : Int32)), .val (.ref b4), .unset] []))
    refine own_Fin.step (fun _ => XS.iload X6.here hx rfl (hb hby at_141) rfl) ?_
    show own_Fin p e below s _ _ _ (T6.setTop (mkF m 143 #[.val (.int p1), .val (.int p2), .val (.int p3), .val (.int p4), .val (.int p5), .val (.int (p1.toInt8.toInt32)), .val (.int (p2.toInt8.toInt32)), .val (.int (p3.toInt8.toInt32)), .val (.int (p4.toInt8.toInt32)), .val (.int (1 : Int32)), .val (.ref b4), .unset] [(.int (p1.toInt8.toInt32))]))
    obtain ⟨_, T8, L8, X8, ⟨rfl, N8q, e8⟩, st8⟩ := own_callS X6 hx hZ hown (own_w hw 5 rfl) (own_w hw 6 rfl) (own_w hw 7 rfl) (own_w hw 8 rfl) (by decide) (rm2 l Z a0 hw (p1.toInt8.toInt32) h6 n0 Z6) (by decide) (by decide) e6 (W := 0) (g := (mkF m 143 #[.val (.int p1), .val (.int p2), .val (.int p3), .val (.int p4), .val (.int p5), .val (.int (p1.toInt8.toInt32)), .val (.int (p2.toInt8.toInt32)), .val (.int (p3.toInt8.toInt32)), .val (.int (p4.toInt8.toInt32)), .val (.int (1 : Int32)), .val (.ref b4), .unset] [(.int (p1.toInt8.toInt32))])) rfl (by rw [hml]; rfl) (argsL := [(.int (p1.toInt8.toInt32))]) (rest := []) (lenOf pd_1 rfl) rfl rfl (by show 2 * 0 + _ ≤ _; exact Nat.le_of_eq rfl) (hb hby at_143) (by decide) (by decide)
    have N8 := Fr.app N6 N8q
    refine own_Fin.step st8 ?_
    show own_Fin p e below s _ _ _ (T8.setTop (mkF m 146 #[.val (.int p1), .val (.int p2), .val (.int p3), .val (.int p4), .val (.int p5), .val (.int (p1.toInt8.toInt32)), .val (.int (p2.toInt8.toInt32)), .val (.int (p3.toInt8.toInt32)), .val (.int (p4.toInt8.toInt32)), .val (.int (1 : Int32)), .val (.ref b4), .unset] [(.int (own_okb (p1.toInt8.toInt32)))]))
    by_cases hc146_9 : (own_okb (p1.toInt8.toInt32)) = (0 : Int32)
    ·
      refine own_Fin.step (fun _ => XS.ifYes X8.here hx rfl (pc0 := 146) (pc' := 195) rfl (hb hby at_146) rfl (XT.i0_eq_t hc146_9) (by decide) (by decide)) ?_
      show own_Fin p e below s _ _ _ (T8.setTop (mkF m 195 #[.val (.int p1), .val (.int p2), .val (.int p3), .val (.int p4), .val (.int p5), .val (.int (p1.toInt8.toInt32)), .val (.int (p2.toInt8.toInt32)), .val (.int (p3.toInt8.toInt32)), .val (.int (p4.toInt8.toInt32)), .val (.int (1 : Int32)), .val (.ref b4), .unset] []))
      refine own_Fin.step (fun _ => XS.iconst X8.here hx rfl (hb hby at_195)) ?_
      show own_Fin p e below s _ _ _ (T8.setTop (mkF m 196 #[.val (.int p1), .val (.int p2), .val (.int p3), .val (.int p4), .val (.int p5), .val (.int (p1.toInt8.toInt32)), .val (.int (p2.toInt8.toInt32)), .val (.int (p3.toInt8.toInt32)), .val (.int (p4.toInt8.toInt32)), .val (.int (1 : Int32)), .val (.ref b4), .unset] [(.int (0 : Int32))]))
      refine own_Fin.step (fun _ => XS.istore X8.here hx rfl (hb hby at_196) rfl (l' := #[.val (.int p1), .val (.int p2), .val (.int p3), .val (.int p4), .val (.int p5), .val (.int (p1.toInt8.toInt32)), .val (.int (p2.toInt8.toInt32)), .val (.int (p3.toInt8.toInt32)), .val (.int (p4.toInt8.toInt32)), .val (.int (1 : Int32)), .val (.ref b4), .val (.int (0 : Int32))]) rfl) ?_
      show own_Fin p e below s _ _ _ (T8.setTop (mkF m 198 #[.val (.int p1), .val (.int p2), .val (.int p3), .val (.int p4), .val (.int p5), .val (.int (p1.toInt8.toInt32)), .val (.int (p2.toInt8.toInt32)), .val (.int (p3.toInt8.toInt32)), .val (.int (p4.toInt8.toInt32)), .val (.int (1 : Int32)), .val (.ref b4), .val (.int (0 : Int32))] []))
      refine own_Fin.step (fun _ => XS.aload X8.here hx rfl (hb hby at_198) rfl rfl) ?_
      show own_Fin p e below s _ _ _ (T8.setTop (mkF m 200 #[.val (.int p1), .val (.int p2), .val (.int p3), .val (.int p4), .val (.int p5), .val (.int (p1.toInt8.toInt32)), .val (.int (p2.toInt8.toInt32)), .val (.int (p3.toInt8.toInt32)), .val (.int (p4.toInt8.toInt32)), .val (.int (1 : Int32)), .val (.ref b4), .val (.int (0 : Int32))] [(.ref b4)]))
      obtain ⟨_, T10, L10, X10, ⟨rfl, N10q, e10⟩, st10⟩ := own_callS X8 hx hZ hown (own_w hw 1 rfl) (own_w hw 2 rfl) (own_w hw 3 rfl) (own_w hw 4 rfl) (by decide) (rm1 l Z a0 hw b4 k4 (1 : Int32) [(p1.toInt8.toInt32)] (.int (0 : Int32)) h6 n0 Z6 V6' rfl) (by decide) (by decide) e8 (W := 0) (g := (mkF m 200 #[.val (.int p1), .val (.int p2), .val (.int p3), .val (.int p4), .val (.int p5), .val (.int (p1.toInt8.toInt32)), .val (.int (p2.toInt8.toInt32)), .val (.int (p3.toInt8.toInt32)), .val (.int (p4.toInt8.toInt32)), .val (.int (1 : Int32)), .val (.ref b4), .val (.int (0 : Int32))] [(.ref b4)])) rfl (by rw [hml]; rfl) (argsL := [(.ref b4)]) (rest := []) (lenOf pd_0 rfl) rfl rfl (by show 2 * 0 + _ ≤ _; exact Nat.le_of_eq rfl) (hb hby at_200) (by decide) (by decide)
      have N10 := Fr.app N8 N10q
      refine own_Fin.step st10 ?_
      show own_Fin p e below s _ _ _ (T10.setTop (mkF m 203 #[.val (.int p1), .val (.int p2), .val (.int p3), .val (.int p4), .val (.int p5), .val (.int (p1.toInt8.toInt32)), .val (.int (p2.toInt8.toInt32)), .val (.int (p3.toInt8.toInt32)), .val (.int (p4.toInt8.toInt32)), .val (.int (1 : Int32)), .val (.ref b4), .val (.int (0 : Int32))] [(.int (own_plain [(p1.toInt8.toInt32)]))]))
      refine own_Fin.step (fun _ => XS.iload X10.here hx rfl (hb hby at_203) rfl) ?_
      show own_Fin p e below s _ _ _ (T10.setTop (mkF m 205 #[.val (.int p1), .val (.int p2), .val (.int p3), .val (.int p4), .val (.int p5), .val (.int (p1.toInt8.toInt32)), .val (.int (p2.toInt8.toInt32)), .val (.int (p3.toInt8.toInt32)), .val (.int (p4.toInt8.toInt32)), .val (.int (1 : Int32)), .val (.ref b4), .val (.int (0 : Int32))] [(.int (0 : Int32)), (.int (own_plain [(p1.toInt8.toInt32)]))]))
      refine own_Fin.step (fun _ => XS.icmpNo X10.here hx rfl (hb hby at_205) rfl (XT.ii_ne_f (by rw [own_pl, if_pos hc146_9]))) ?_
      show own_Fin p e below s _ _ _ (T10.setTop (mkF m 208 #[.val (.int p1), .val (.int p2), .val (.int p3), .val (.int p4), .val (.int p5), .val (.int (p1.toInt8.toInt32)), .val (.int (p2.toInt8.toInt32)), .val (.int (p3.toInt8.toInt32)), .val (.int (p4.toInt8.toInt32)), .val (.int (1 : Int32)), .val (.ref b4), .val (.int (0 : Int32))] []))
      refine own_Fin.step (fun _ => XS.iconst X10.here hx rfl (hb hby at_208)) ?_
      show own_Fin p e below s _ _ _ (T10.setTop (mkF m 209 #[.val (.int p1), .val (.int p2), .val (.int p3), .val (.int p4), .val (.int p5), .val (.int (p1.toInt8.toInt32)), .val (.int (p2.toInt8.toInt32)), .val (.int (p3.toInt8.toInt32)), .val (.int (p4.toInt8.toInt32)), .val (.int (1 : Int32)), .val (.ref b4), .val (.int (0 : Int32))] [(.int (1 : Int32))]))
      refine own_Fin.step (fun _ => XS.goto X10.here hx rfl (pc0 := 209) (pc' := 213) rfl (hb hby at_209) (by decide) (by decide)) ?_
      show own_Fin p e below s _ _ _ (T10.setTop (mkF m 213 #[.val (.int p1), .val (.int p2), .val (.int p3), .val (.int p4), .val (.int p5), .val (.int (p1.toInt8.toInt32)), .val (.int (p2.toInt8.toInt32)), .val (.int (p3.toInt8.toInt32)), .val (.int (p4.toInt8.toInt32)), .val (.int (1 : Int32)), .val (.ref b4), .val (.int (0 : Int32))] [(.int (1 : Int32))]))
      exact own_retN X10 hx hlk (t := .boolean) hret (by simp) (hb hby at_213) ⟨rfl, N10⟩ (by decide) (by decide)
    ·
      refine own_Fin.step (fun _ => XS.ifNo X8.here hx rfl (hb hby at_146) rfl (XT.i0_eq_f hc146_9)) ?_
      show own_Fin p e below s _ _ _ (T8.setTop (mkF m 149 #[.val (.int p1), .val (.int p2), .val (.int p3), .val (.int p4), .val (.int p5), .val (.int (p1.toInt8.toInt32)), .val (.int (p2.toInt8.toInt32)), .val (.int (p3.toInt8.toInt32)), .val (.int (p4.toInt8.toInt32)), .val (.int (1 : Int32)), .val (.ref b4), .unset] []))
      refine own_Fin.step (fun _ => XS.iload X8.here hx rfl (hb hby at_149) rfl) ?_
      show own_Fin p e below s _ _ _ (T8.setTop (mkF m 151 #[.val (.int p1), .val (.int p2), .val (.int p3), .val (.int p4), .val (.int p5), .val (.int (p1.toInt8.toInt32)), .val (.int (p2.toInt8.toInt32)), .val (.int (p3.toInt8.toInt32)), .val (.int (p4.toInt8.toInt32)), .val (.int (1 : Int32)), .val (.ref b4), .unset] [(.int (1 : Int32))]))
      refine own_Fin.step (fun _ => XS.iconst X8.here hx rfl (hb hby at_151)) ?_
      show own_Fin p e below s _ _ _ (T8.setTop (mkF m 152 #[.val (.int p1), .val (.int p2), .val (.int p3), .val (.int p4), .val (.int p5), .val (.int (p1.toInt8.toInt32)), .val (.int (p2.toInt8.toInt32)), .val (.int (p3.toInt8.toInt32)), .val (.int (p4.toInt8.toInt32)), .val (.int (1 : Int32)), .val (.ref b4), .unset] [(.int (2 : Int32)), (.int (1 : Int32))]))
      refine own_Fin.step (fun _ => XS.icmpYes X8.here hx rfl (pc0 := 152) (pc' := 163) rfl (hb hby at_152) rfl (XT.ii_lt_t (by decide : (1 : Int32) < (2 : Int32))) (by decide) (by decide)) ?_
      show own_Fin p e below s _ _ _ (T8.setTop (mkF m 163 #[.val (.int p1), .val (.int p2), .val (.int p3), .val (.int p4), .val (.int p5), .val (.int (p1.toInt8.toInt32)), .val (.int (p2.toInt8.toInt32)), .val (.int (p3.toInt8.toInt32)), .val (.int (p4.toInt8.toInt32)), .val (.int (1 : Int32)), .val (.ref b4), .unset] []))
      refine own_Fin.step (fun _ => XS.iload X8.here hx rfl (hb hby at_163) rfl) ?_
      show own_Fin p e below s _ _ _ (T8.setTop (mkF m 165 #[.val (.int p1), .val (.int p2), .val (.int p3), .val (.int p4), .val (.int p5), .val (.int (p1.toInt8.toInt32)), .val (.int (p2.toInt8.toInt32)), .val (.int (p3.toInt8.toInt32)), .val (.int (p4.toInt8.toInt32)), .val (.int (1 : Int32)), .val (.ref b4), .unset] [(.int (1 : Int32))]))
      refine own_Fin.step (fun _ => XS.iconst X8.here hx rfl (hb hby at_165)) ?_
      show own_Fin p e below s _ _ _ (T8.setTop (mkF m 166 #[.val (.int p1), .val (.int p2), .val (.int p3), .val (.int p4), .val (.int p5), .val (.int (p1.toInt8.toInt32)), .val (.int (p2.toInt8.toInt32)), .val (.int (p3.toInt8.toInt32)), .val (.int (p4.toInt8.toInt32)), .val (.int (1 : Int32)), .val (.ref b4), .unset] [(.int (3 : Int32)), (.int (1 : Int32))]))
      refine own_Fin.step (fun _ => XS.icmpYes X8.here hx rfl (pc0 := 166) (pc' := 177) rfl (hb hby at_166) rfl (XT.ii_lt_t (by decide : (1 : Int32) < (3 : Int32))) (by decide) (by decide)) ?_
      show own_Fin p e below s _ _ _ (T8.setTop (mkF m 177 #[.val (.int p1), .val (.int p2), .val (.int p3), .val (.int p4), .val (.int p5), .val (.int (p1.toInt8.toInt32)), .val (.int (p2.toInt8.toInt32)), .val (.int (p3.toInt8.toInt32)), .val (.int (p4.toInt8.toInt32)), .val (.int (1 : Int32)), .val (.ref b4), .unset] []))
      refine own_Fin.step (fun _ => XS.iload X8.here hx rfl (hb hby at_177) rfl) ?_
      show own_Fin p e below s _ _ _ (T8.setTop (mkF m 179 #[.val (.int p1), .val (.int p2), .val (.int p3), .val (.int p4), .val (.int p5), .val (.int (p1.toInt8.toInt32)), .val (.int (p2.toInt8.toInt32)), .val (.int (p3.toInt8.toInt32)), .val (.int (p4.toInt8.toInt32)), .val (.int (1 : Int32)), .val (.ref b4), .unset] [(.int (1 : Int32))]))
      refine own_Fin.step (fun _ => XS.iconst X8.here hx rfl (hb hby at_179)) ?_
      show own_Fin p e below s _ _ _ (T8.setTop (mkF m 180 #[.val (.int p1), .val (.int p2), .val (.int p3), .val (.int p4), .val (.int p5), .val (.int (p1.toInt8.toInt32)), .val (.int (p2.toInt8.toInt32)), .val (.int (p3.toInt8.toInt32)), .val (.int (p4.toInt8.toInt32)), .val (.int (1 : Int32)), .val (.ref b4), .unset] [(.int (4 : Int32)), (.int (1 : Int32))]))
      refine own_Fin.step (fun _ => XS.icmpYes X8.here hx rfl (pc0 := 180) (pc' := 191) rfl (hb hby at_180) rfl (XT.ii_lt_t (by decide : (1 : Int32) < (4 : Int32))) (by decide) (by decide)) ?_
      show own_Fin p e below s _ _ _ (T8.setTop (mkF m 191 #[.val (.int p1), .val (.int p2), .val (.int p3), .val (.int p4), .val (.int p5), .val (.int (p1.toInt8.toInt32)), .val (.int (p2.toInt8.toInt32)), .val (.int (p3.toInt8.toInt32)), .val (.int (p4.toInt8.toInt32)), .val (.int (1 : Int32)), .val (.ref b4), .unset] []))
      refine own_Fin.step (fun _ => XS.iconst X8.here hx rfl (hb hby at_191)) ?_
      show own_Fin p e below s _ _ _ (T8.setTop (mkF m 192 #[.val (.int p1), .val (.int p2), .val (.int p3), .val (.int p4), .val (.int p5), .val (.int (p1.toInt8.toInt32)), .val (.int (p2.toInt8.toInt32)), .val (.int (p3.toInt8.toInt32)), .val (.int (p4.toInt8.toInt32)), .val (.int (1 : Int32)), .val (.ref b4), .unset] [(.int (1 : Int32))]))
      refine own_Fin.step (fun _ => XS.goto X8.here hx rfl (pc0 := 192) (pc' := 196) rfl (hb hby at_192) (by decide) (by decide)) ?_
      show own_Fin p e below s _ _ _ (T8.setTop (mkF m 196 #[.val (.int p1), .val (.int p2), .val (.int p3), .val (.int p4), .val (.int p5), .val (.int (p1.toInt8.toInt32)), .val (.int (p2.toInt8.toInt32)), .val (.int (p3.toInt8.toInt32)), .val (.int (p4.toInt8.toInt32)), .val (.int (1 : Int32)), .val (.ref b4), .unset] [(.int (1 : Int32))]))
      refine own_Fin.step (fun _ => XS.istore X8.here hx rfl (hb hby at_196) rfl (l' := #[.val (.int p1), .val (.int p2), .val (.int p3), .val (.int p4), .val (.int p5), .val (.int (p1.toInt8.toInt32)), .val (.int (p2.toInt8.toInt32)), .val (.int (p3.toInt8.toInt32)), .val (.int (p4.toInt8.toInt32)), .val (.int (1 : Int32)), .val (.ref b4), .val (.int (1 : Int32))]) rfl) ?_
      show own_Fin p e below s _ _ _ (T8.setTop (mkF m 198 #[.val (.int p1), .val (.int p2), .val (.int p3), .val (.int p4), .val (.int p5), .val (.int (p1.toInt8.toInt32)), .val (.int (p2.toInt8.toInt32)), .val (.int (p3.toInt8.toInt32)), .val (.int (p4.toInt8.toInt32)), .val (.int (1 : Int32)), .val (.ref b4), .val (.int (1 : Int32))] []))
      refine own_Fin.step (fun _ => XS.aload X8.here hx rfl (hb hby at_198) rfl rfl) ?_
      show own_Fin p e below s _ _ _ (T8.setTop (mkF m 200 #[.val (.int p1), .val (.int p2), .val (.int p3), .val (.int p4), .val (.int p5), .val (.int (p1.toInt8.toInt32)), .val (.int (p2.toInt8.toInt32)), .val (.int (p3.toInt8.toInt32)), .val (.int (p4.toInt8.toInt32)), .val (.int (1 : Int32)), .val (.ref b4), .val (.int (1 : Int32))] [(.ref b4)]))
      obtain ⟨_, T11, L11, X11, ⟨rfl, N11q, e11⟩, st11⟩ := own_callS X8 hx hZ hown (own_w hw 1 rfl) (own_w hw 2 rfl) (own_w hw 3 rfl) (own_w hw 4 rfl) (by decide) (rm1 l Z a0 hw b4 k4 (1 : Int32) [(p1.toInt8.toInt32)] (.int (0 : Int32)) h6 n0 Z6 V6' rfl) (by decide) (by decide) e8 (W := 0) (g := (mkF m 200 #[.val (.int p1), .val (.int p2), .val (.int p3), .val (.int p4), .val (.int p5), .val (.int (p1.toInt8.toInt32)), .val (.int (p2.toInt8.toInt32)), .val (.int (p3.toInt8.toInt32)), .val (.int (p4.toInt8.toInt32)), .val (.int (1 : Int32)), .val (.ref b4), .val (.int (1 : Int32))] [(.ref b4)])) rfl (by rw [hml]; rfl) (argsL := [(.ref b4)]) (rest := []) (lenOf pd_0 rfl) rfl rfl (by show 2 * 0 + _ ≤ _; exact Nat.le_of_eq rfl) (hb hby at_200) (by decide) (by decide)
      have N11 := Fr.app N8 N11q
      refine own_Fin.step st11 ?_
      show own_Fin p e below s _ _ _ (T11.setTop (mkF m 203 #[.val (.int p1), .val (.int p2), .val (.int p3), .val (.int p4), .val (.int p5), .val (.int (p1.toInt8.toInt32)), .val (.int (p2.toInt8.toInt32)), .val (.int (p3.toInt8.toInt32)), .val (.int (p4.toInt8.toInt32)), .val (.int (1 : Int32)), .val (.ref b4), .val (.int (1 : Int32))] [(.int (own_plain [(p1.toInt8.toInt32)]))]))
      refine own_Fin.step (fun _ => XS.iload X11.here hx rfl (hb hby at_203) rfl) ?_
      show own_Fin p e below s _ _ _ (T11.setTop (mkF m 205 #[.val (.int p1), .val (.int p2), .val (.int p3), .val (.int p4), .val (.int p5), .val (.int (p1.toInt8.toInt32)), .val (.int (p2.toInt8.toInt32)), .val (.int (p3.toInt8.toInt32)), .val (.int (p4.toInt8.toInt32)), .val (.int (1 : Int32)), .val (.ref b4), .val (.int (1 : Int32))] [(.int (1 : Int32)), (.int (own_plain [(p1.toInt8.toInt32)]))]))
      refine own_Fin.step (fun _ => XS.icmpNo X11.here hx rfl (hb hby at_205) rfl (XT.ii_ne_f (by rw [own_pl, if_neg hc146_9]; rfl))) ?_
      show own_Fin p e below s _ _ _ (T11.setTop (mkF m 208 #[.val (.int p1), .val (.int p2), .val (.int p3), .val (.int p4), .val (.int p5), .val (.int (p1.toInt8.toInt32)), .val (.int (p2.toInt8.toInt32)), .val (.int (p3.toInt8.toInt32)), .val (.int (p4.toInt8.toInt32)), .val (.int (1 : Int32)), .val (.ref b4), .val (.int (1 : Int32))] []))
      refine own_Fin.step (fun _ => XS.iconst X11.here hx rfl (hb hby at_208)) ?_
      show own_Fin p e below s _ _ _ (T11.setTop (mkF m 209 #[.val (.int p1), .val (.int p2), .val (.int p3), .val (.int p4), .val (.int p5), .val (.int (p1.toInt8.toInt32)), .val (.int (p2.toInt8.toInt32)), .val (.int (p3.toInt8.toInt32)), .val (.int (p4.toInt8.toInt32)), .val (.int (1 : Int32)), .val (.ref b4), .val (.int (1 : Int32))] [(.int (1 : Int32))]))
      refine own_Fin.step (fun _ => XS.goto X11.here hx rfl (pc0 := 209) (pc' := 213) rfl (hb hby at_209) (by decide) (by decide)) ?_
      show own_Fin p e below s _ _ _ (T11.setTop (mkF m 213 #[.val (.int p1), .val (.int p2), .val (.int p3), .val (.int p4), .val (.int p5), .val (.int (p1.toInt8.toInt32)), .val (.int (p2.toInt8.toInt32)), .val (.int (p3.toInt8.toInt32)), .val (.int (p4.toInt8.toInt32)), .val (.int (1 : Int32)), .val (.ref b4), .val (.int (1 : Int32))] [(.int (1 : Int32))]))
      exact own_retN X11 hx hlk (t := .boolean) hret (by simp) (hb hby at_213) ⟨rfl, N11⟩ (by decide) (by decide)
  ·
    show own_Fin p e below s _ _ _ (s₁.setTop (mkF m 23 #[.val (.int p1), .val (.int p2), .val (.int p3), .val (.int p4), .val (.int p5), .val (.int (p1.toInt8.toInt32)), .val (.int (p2.toInt8.toInt32)), .val (.int (p3.toInt8.toInt32)), .val (.int (p4.toInt8.toInt32)), .unset, .unset, .unset] [(.int (2 : Int32))]))
    refine own_Fin.step (fun _ => XS.istore X0.here hx rfl (hb hby at_23) rfl (l' := #[.val (.int p1), .val (.int p2), .val (.int p3), .val (.int p4), .val (.int p5), .val (.int (p1.toInt8.toInt32)), .val (.int (p2.toInt8.toInt32)), .val (.int (p3.toInt8.toInt32)), .val (.int (p4.toInt8.toInt32)), .val (.int (2 : Int32)), .unset, .unset]) rfl) ?_
    show own_Fin p e below s _ _ _ (s₁.setTop (mkF m 25 #[.val (.int p1), .val (.int p2), .val (.int p3), .val (.int p4), .val (.int p5), .val (.int (p1.toInt8.toInt32)), .val (.int (p2.toInt8.toInt32)), .val (.int (p3.toInt8.toInt32)), .val (.int (p4.toInt8.toInt32)), .val (.int (2 : Int32)), .unset, .unset] []))
    refine own_Fin.step (fun _ => XS.iload X0.here hx rfl (hb hby at_25) rfl) ?_
    show own_Fin p e below s _ _ _ (s₁.setTop (mkF m 27 #[.val (.int p1), .val (.int p2), .val (.int p3), .val (.int p4), .val (.int p5), .val (.int (p1.toInt8.toInt32)), .val (.int (p2.toInt8.toInt32)), .val (.int (p3.toInt8.toInt32)), .val (.int (p4.toInt8.toInt32)), .val (.int (2 : Int32)), .unset, .unset] [(.int (2 : Int32))]))
    refine own_Fin.step (fun _ => XS.ifYes X0.here hx rfl (pc0 := 27) (pc' := 38) rfl (hb hby at_27) rfl (XT.i0_ne_t (by decide : ¬ ((2 : Int32) = (0 : Int32)))) (by decide) (by decide)) ?_
    show own_Fin p e below s _ _ _ (s₁.setTop (mkF m 38 #[.val (.int p1), .val (.int p2), .val (.int p3), .val (.int p4), .val (.int p5), .val (.int (p1.toInt8.toInt32)), .val (.int (p2.toInt8.toInt32)), .val (.int (p3.toInt8.toInt32)), .val (.int (p4.toInt8.toInt32)), .val (.int (2 : Int32)), .unset, .unset] []))
    refine own_Fin.step (fun _ => XS.iload X0.here hx rfl (hb hby at_38) rfl) ?_
    show own_Fin p e below s _ _ _ (s₁.setTop (mkF m 40 #[.val (.int p1), .val (.int p2), .val (.int p3), .val (.int p4), .val (.int p5), .val (.int (p1.toInt8.toInt32)), .val (.int (p2.toInt8.toInt32)), .val (.int (p3.toInt8.toInt32)), .val (.int (p4.toInt8.toInt32)), .val (.int (2 : Int32)), .unset, .unset] [(.int (2 : Int32))]))
    refine own_Fin.step (fun _ => XS.iconst X0.here hx rfl (hb hby at_40)) ?_
    show own_Fin p e below s _ _ _ (s₁.setTop (mkF m 41 #[.val (.int p1), .val (.int p2), .val (.int p3), .val (.int p4), .val (.int p5), .val (.int (p1.toInt8.toInt32)), .val (.int (p2.toInt8.toInt32)), .val (.int (p3.toInt8.toInt32)), .val (.int (p4.toInt8.toInt32)), .val (.int (2 : Int32)), .unset, .unset] [(.int (1 : Int32)), (.int (2 : Int32))]))
    refine own_Fin.step (fun _ => XS.icmpYes X0.here hx rfl (pc0 := 41) (pc' := 57) rfl (hb hby at_41) rfl (XT.ii_ne_t (by decide : ¬ ((2 : Int32) = (1 : Int32)))) (by decide) (by decide)) ?_
    show own_Fin p e below s _ _ _ (s₁.setTop (mkF m 57 #[.val (.int p1), .val (.int p2), .val (.int p3), .val (.int p4), .val (.int p5), .val (.int (p1.toInt8.toInt32)), .val (.int (p2.toInt8.toInt32)), .val (.int (p3.toInt8.toInt32)), .val (.int (p4.toInt8.toInt32)), .val (.int (2 : Int32)), .unset, .unset] []))
    refine own_Fin.step (fun _ => XS.iload X0.here hx rfl (hb hby at_57) rfl) ?_
    show own_Fin p e below s _ _ _ (s₁.setTop (mkF m 59 #[.val (.int p1), .val (.int p2), .val (.int p3), .val (.int p4), .val (.int p5), .val (.int (p1.toInt8.toInt32)), .val (.int (p2.toInt8.toInt32)), .val (.int (p3.toInt8.toInt32)), .val (.int (p4.toInt8.toInt32)), .val (.int (2 : Int32)), .unset, .unset] [(.int (2 : Int32))]))
    refine own_Fin.step (fun _ => XS.iconst X0.here hx rfl (hb hby at_59)) ?_
    show own_Fin p e below s _ _ _ (s₁.setTop (mkF m 60 #[.val (.int p1), .val (.int p2), .val (.int p3), .val (.int p4), .val (.int p5), .val (.int (p1.toInt8.toInt32)), .val (.int (p2.toInt8.toInt32)), .val (.int (p3.toInt8.toInt32)), .val (.int (p4.toInt8.toInt32)), .val (.int (2 : Int32)), .unset, .unset] [(.int (2 : Int32)), (.int (2 : Int32))]))
    refine own_Fin.step (fun _ => XS.icmpNo X0.here hx rfl (hb hby at_60) rfl (XT.ii_ne_f (by decide : (2 : Int32) = (2 : Int32)))) ?_
    show own_Fin p e below s _ _ _ (s₁.setTop (mkF m 63 #[.val (.int p1), .val (.int p2), .val (.int p3), .val (.int p4), .val (.int p5), .val (.int (p1.toInt8.toInt32)), .val (.int (p2.toInt8.toInt32)), .val (.int (p3.toInt8.toInt32)), .val (.int (p4.toInt8.toInt32)), .val (.int (2 : Int32)), .unset, .unset] []))
    refine own_Fin.step (fun _ => XS.iconst X0.here hx rfl (hb hby at_63)) ?_
    show own_Fin p e below s _ _ _ (s₁.setTop (mkF m 64 #[.val (.int p1), .val (.int p2), .val (.int p3), .val (.int p4), .val (.int p5), .val (.int (p1.toInt8.toInt32)), .val (.int (p2.toInt8.toInt32)), .val (.int (p3.toInt8.toInt32)), .val (.int (p4.toInt8.toInt32)), .val (.int (2 : Int32)), .unset, .unset] [(.int (2 : Int32))]))
    obtain ⟨T12, h12, k12, b12, X12, e12, E12, g12, V12, st12⟩ := own_newA X0 hx hZ (own_w hw 0 rfl) e0 (ty := .byte) (dv := (.int (0 : Int32))) rfl rfl (g := (mkF m 64 #[.val (.int p1), .val (.int p2), .val (.int p3), .val (.int p4), .val (.int p5), .val (.int (p1.toInt8.toInt32)), .val (.int (p2.toInt8.toInt32)), .val (.int (p3.toInt8.toInt32)), .val (.int (p4.toInt8.toInt32)), .val (.int (2 : Int32)), .unset, .unset] [(.int (2 : Int32))])) rfl (hb hby at_64) rfl (by decide) (cap := 2) (by decide) (by decide) (by decide) (by decide) (2)
    have ge13 : n0 ≤ b12 := Nat.le_trans Z0 (Nat.le_of_eq g12.symm)
    have Z12 : n0 ≤ h12.size := Nat.le_trans Z0 E12.1
    have V12' : Arv Z h12 b12 k12 .byte (2 : Int32) [(.int (0 : Int32)), (.int (0 : Int32))] (.int (0 : Int32)) := V12
    refine own_Fin.step st12 ?_
    show own_Fin p e below s _ _ _ (T12.setTop (mkF m 66 #[.val (.int p1), .val (.int p2), .val (.int p3), .val (.int p4), .val (.int p5), .val (.int (p1.toInt8.toInt32)), .val (.int (p2.toInt8.toInt32)), .val (.int (p3.toInt8.toInt32)), .val (.int (p4.toInt8.toInt32)), .val (.int (2 : Int32)), .unset, .unset] [(.ref b12)]))
    refine own_Fin.step (fun _ => XS.dup X12.here hx rfl (hb hby at_66) rfl rfl) ?_
    show own_Fin p e below s _ _ _ (T12.setTop (mkF m 67 #[.val (.int p1), .val (.int p2), .val (.int p3), .val (.int p4), .val (.int p5), .val (.int (p1.toInt8.toInt32)), .val (.int (p2.toInt8.toInt32)), .val (.int (p3.toInt8.toInt32)), .val (.int (p4.toInt8.toInt32)), .val (.int (2 : Int32)), .unset, .unset] [(.ref b12), (.ref b12)]))
    refine own_Fin.step (fun _ => XS.iconst X12.here hx rfl (hb hby at_67)) ?_
    show own_Fin p e below s _ _ _ (T12.setTop (mkF m 68 #[.val (.int p1), .val (.int p2), .val (.int p3), .val (.int p4), .val (.int p5), .val (.int (p1.toInt8.toInt32)), .val (.int (p2.toInt8.toInt32)), .val (.int (p3.toInt8.toInt32)), .val (.int (p4.toInt8.toInt32)), .val (.int (2 : Int32)), .unset, .unset] [(.int (0 : Int32)), (.ref b12), (.ref b12)]))
    refine own_Fin.step (fun _ => XS.iload X12.here hx rfl (hb hby at_68) rfl) ?_
    show own_Fin p e below s _ _ _ (T12.setTop (mkF m 70 #[.val (.int p1), .val (.int p2), .val (.int p3), .val (.int p4), .val (.int p5), .val (.int (p1.toInt8.toInt32)), .val (.int (p2.toInt8.toInt32)), .val (.int (p3.toInt8.toInt32)), .val (.int (p4.toInt8.toInt32)), .val (.int (2 : Int32)), .unset, .unset] [(.int (p1.toInt8.toInt32)), (.int (0 : Int32)), (.ref b12), (.ref b12)]))
    obtain ⟨T14, h14, X14, e14, V14, W14, st14⟩ := own_stBn X12 hx hZ e12 V12' (j := (0 : Int32)) ⟨by decide, by decide⟩ (0) rfl (Nat.le_of_ble_eq_true rfl) (g := (mkF m 70 #[.val (.int p1), .val (.int p2), .val (.int p3), .val (.int p4), .val (.int p5), .val (.int (p1.toInt8.toInt32)), .val (.int (p2.toInt8.toInt32)), .val (.int (p3.toInt8.toInt32)), .val (.int (p4.toInt8.toInt32)), .val (.int (2 : Int32)), .unset, .unset] [(.int (p1.toInt8.toInt32)), (.int (0 : Int32)), (.ref b12), (.ref b12)])) rfl rfl (hb hby at_70)
    have V14' : Arv Z h14 b12 k12 .byte (2 : Int32) [(.int (p1.toInt8.toInt32)), (.int (0 : Int32))] (.int (0 : Int32)) := V14
    have N14 := Fr.snoc X14 N0 ge13
    have Z14 : n0 ≤ h14.size := Nat.le_trans Z12 (Nat.le_of_eq W14.size.symm)
    refine own_Fin.step st14 ?_
    show own_Fin p e below s _ _ _ (T14.setTop (mkF m 71 #[.val (.int p1), .val (.int p2), .val (.int p3), .val (.int p4), .val (.int p5), .val (.int (p1.toInt8.toInt32)), .val (.int (p2.toInt8.toInt32)), .val (.int (p3.toInt8.toInt32)), .val (.int (p4.toInt8.toInt32)), .val (.int (2 : Int32)), .unset, .unset] [(.ref b12)]))
    refine own_Fin.step (fun _ => XS.dup X14.here hx rfl (hb hby at_71) rfl rfl) ?_
    show own_Fin p e below s _ _ _ (T14.setTop (mkF m 72 #[.val (.int p1), .val (.int p2), .val (.int p3), .val (.int p4), .val (.int p5), .val (.int (p1.toInt8.toInt32)), .val (.int (p2.toInt8.toInt32)), .val (.int (p3.toInt8.toInt32)), .val (.int (p4.toInt8.toInt32)), .val (.int (2 : Int32)), .unset, .unset] [(.ref b12), (.ref b12)]))
    refine own_Fin.step (fun _ => XS.iconst X14.here hx rfl (hb hby at_72)) ?_
    show own_Fin p e below s _ _ _ (T14.setTop (mkF m 73 #[.val (.int p1), .val (.int p2), .val (.int p3), .val (.int p4), .val (.int p5), .val (.int (p1.toInt8.toInt32)), .val (.int (p2.toInt8.toInt32)), .val (.int (p3.toInt8.toInt32)), .val (.int (p4.toInt8.toInt32)), .val (.int (2 : Int32)), .unset, .unset] [(.int (1 : Int32)), (.ref b12), (.ref b12)]))
    refine own_Fin.step (fun _ => XS.iload X14.here hx rfl (hb hby at_73) rfl) ?_
    show own_Fin p e below s _ _ _ (T14.setTop (mkF m 75 #[.val (.int p1), .val (.int p2), .val (.int p3), .val (.int p4), .val (.int p5), .val (.int (p1.toInt8.toInt32)), .val (.int (p2.toInt8.toInt32)), .val (.int (p3.toInt8.toInt32)), .val (.int (p4.toInt8.toInt32)), .val (.int (2 : Int32)), .unset, .unset] [(.int (p2.toInt8.toInt32)), (.int (1 : Int32)), (.ref b12), (.ref b12)]))
    obtain ⟨T16, h16, X16, e16, V16, W16, st16⟩ := own_stBn X14 hx hZ e14 V14' (j := (1 : Int32)) ⟨by decide, by decide⟩ (1) rfl (Nat.le_of_ble_eq_true rfl) (g := (mkF m 75 #[.val (.int p1), .val (.int p2), .val (.int p3), .val (.int p4), .val (.int p5), .val (.int (p1.toInt8.toInt32)), .val (.int (p2.toInt8.toInt32)), .val (.int (p3.toInt8.toInt32)), .val (.int (p4.toInt8.toInt32)), .val (.int (2 : Int32)), .unset, .unset] [(.int (p2.toInt8.toInt32)), (.int (1 : Int32)), (.ref b12), (.ref b12)])) rfl rfl (hb hby at_75)
    have V16' : Arv Z h16 b12 k12 .byte (2 : Int32) [(.int (p1.toInt8.toInt32)), (.int (p2.toInt8.toInt32))] (.int (0 : Int32)) := V16
    have N16 := Fr.snoc X16 N14 ge13
    have Z16 : n0 ≤ h16.size := Nat.le_trans Z14 (Nat.le_of_eq W16.size.symm)
    refine own_Fin.step st16 ?_
    show own_Fin p e below s _ _ _ (T16.setTop (mkF m 76 #[.val (.int p1), .val (.int p2), .val (.int p3), .val (.int p4), .val (.int p5), .val (.int (p1.toInt8.toInt32)), .val (.int (p2.toInt8.toInt32)), .val (.int (p3.toInt8.toInt32)), .val (.int (p4.toInt8.toInt32)), .val (.int (2 : Int32)), .unset, .unset] [(.ref b12)]))
    refine own_Fin.step (fun _ => XS.astore X16.here hx rfl (hb hby at_76) rfl rfl (l' := #[.val (.int p1), .val (.int p2), .val (.int p3), .val (.int p4), .val (.int p5), .val (.int (p1.toInt8.toInt32)), .val (.int (p2.toInt8.toInt32)), .val (.int (p3.toInt8.toInt32)), .val (.int (p4.toInt8.toInt32)), .val (.int (2 : Int32)), .val (.ref b12), .unset]) rfl) ?_
    show own_Fin p e below s _ _ _ (T16.setTop (mkF m 78 #[.val (.int p1), .val (.int p2), .val (.int p3), .val (.int p4), .val (.int p5), .val (.int (p1.toInt8.toInt32)), .val (.int (p2.toInt8.toInt32)), .val (.int (p3.toInt8.toInt32)), .val (.int (p4.toInt8.toInt32)), .val (.int (2 : Int32)), .val (.ref b12), .unset] []))
    refine own_Fin.step (fun _ => XS.goto X16.here hx rfl (pc0 := 78) (pc' := 135) rfl (hb hby at_78) (by decide) (by decide)) ?_
    show own_Fin p e below s _ _ _ (T16.setTop (mkF m 135 #[.val (.int p1), .val (.int p2), .val (.int p3), .val (.int p4), .val (.int p5), .val (.int (p1.toInt8.toInt32)), .val (.int (p2.toInt8.toInt32)), .val (.int (p3.toInt8.toInt32)), .val (.int (p4.toInt8.toInt32)), .val (.int (2 : Int32)), .val (.ref b12), .unset] []))
    refine own_Fin.step (fun _ => XS.iload X16.here hx rfl (hb hby at_135) rfl) ?_
    show own_Fin p e below s _ _ _ (T16.setTop (mkF m 137 #[.val (.int p1), .val (.int p2), .val (.int p3), .val (.int p4), .val (.int p5), .val (.int (p1.toInt8.toInt32)), .val (.int (p2.toInt8.toInt32)), .val (.int (p3.toInt8.toInt32)), .val (.int (p4.toInt8.toInt32)), .val (.int (2 : Int32)), .val (.ref b12), .unset] [(.int (2 : Int32))]))
    refine own_Fin.step (fun _ => XS.iconst X16.here hx rfl (hb hby at_137)) ?_
    show own_Fin p e below s _ _ _ (T16.setTop (mkF m 138 #[.val (.int p1), .val (.int p2), .val (.int p3), .val (.int p4), .val (.int p5), .val (.int (p1.toInt8.toInt32)), .val (.int (p2.toInt8.toInt32)), .val (.int (p3.toInt8.toInt32)), .val (.int (p4.toInt8.toInt32)), .val (.int (2 : Int32)), .val (.ref b12), .unset] [(.int (1 : Int32)), (.int (2 : Int32))]))
    refine own_Fin.step (fun _ => XS.icmpNo X16.here hx rfl (hb hby at_138) rfl (XT.ii_lt_f (by decide : ¬ ((2 : Int32) < (1 : Int32))))) ?_
    show own_Fin p e below s _ _ _ (T16.setTop (mkF m 141 #[.val (.int p1), .val (.int p2), .val (.int p3), .val (.int p4), .val (.int p5), .val (.int (p1.toInt8.toInt32)), .val (.int (p2.toInt8.toInt32)), .val (.int (p3.toInt8.toInt32)), .val (.int (p4.toInt8.toInt32)), .val (.int (2 : Int32)), .val (.ref b12), .unset] []))
    refine own_Fin.step (fun _ => XS.iload X16.here hx rfl (hb hby at_141) rfl) ?_
    show own_Fin p e below s _ _ _ (T16.setTop (mkF m 143 #[.val (.int p1), .val (.int p2), .val (.int p3), .val (.int p4), .val (.int p5), .val (.int (p1.toInt8.toInt32)), .val (.int (p2.toInt8.toInt32)), .val (.int (p3.toInt8.toInt32)), .val (.int (p4.toInt8.toInt32)), .val (.int (2 : Int32)), .val (.ref b12), .unset] [(.int (p1.toInt8.toInt32))]))
    obtain ⟨_, T18, L18, X18, ⟨rfl, N18q, e18⟩, st18⟩ := own_callS X16 hx hZ hown (own_w hw 5 rfl) (own_w hw 6 rfl) (own_w hw 7 rfl) (own_w hw 8 rfl) (by decide) (rm2 l Z a0 hw (p1.toInt8.toInt32) h16 n0 Z16) (by decide) (by decide) e16 (W := 0) (g := (mkF m 143 #[.val (.int p1), .val (.int p2), .val (.int p3), .val (.int p4), .val (.int p5), .val (.int (p1.toInt8.toInt32)), .val (.int (p2.toInt8.toInt32)), .val (.int (p3.toInt8.toInt32)), .val (.int (p4.toInt8.toInt32)), .val (.int (2 : Int32)), .val (.ref b12), .unset] [(.int (p1.toInt8.toInt32))])) rfl (by rw [hml]; rfl) (argsL := [(.int (p1.toInt8.toInt32))]) (rest := []) (lenOf pd_1 rfl) rfl rfl (by show 2 * 0 + _ ≤ _; exact Nat.le_of_eq rfl) (hb hby at_143) (by decide) (by decide)
    have N18 := Fr.app N16 N18q
    refine own_Fin.step st18 ?_
    show own_Fin p e below s _ _ _ (T18.setTop (mkF m 146 #[.val (.int p1), .val (.int p2), .val (.int p3), .val (.int p4), .val (.int p5), .val (.int (p1.toInt8.toInt32)), .val (.int (p2.toInt8.toInt32)), .val (.int (p3.toInt8.toInt32)), .val (.int (p4.toInt8.toInt32)), .val (.int (2 : Int32)), .val (.ref b12), .unset] [(.int (own_okb (p1.toInt8.toInt32)))]))
    by_cases hc146_19 : (own_okb (p1.toInt8.toInt32)) = (0 : Int32)
    ·
      refine own_Fin.step (fun _ => XS.ifYes X18.here hx rfl (pc0 := 146) (pc' := 195) rfl (hb hby at_146) rfl (XT.i0_eq_t hc146_19) (by decide) (by decide)) ?_
      show own_Fin p e below s _ _ _ (T18.setTop (mkF m 195 #[.val (.int p1), .val (.int p2), .val (.int p3), .val (.int p4), .val (.int p5), .val (.int (p1.toInt8.toInt32)), .val (.int (p2.toInt8.toInt32)), .val (.int (p3.toInt8.toInt32)), .val (.int (p4.toInt8.toInt32)), .val (.int (2 : Int32)), .val (.ref b12), .unset] []))
      refine own_Fin.step (fun _ => XS.iconst X18.here hx rfl (hb hby at_195)) ?_
      show own_Fin p e below s _ _ _ (T18.setTop (mkF m 196 #[.val (.int p1), .val (.int p2), .val (.int p3), .val (.int p4), .val (.int p5), .val (.int (p1.toInt8.toInt32)), .val (.int (p2.toInt8.toInt32)), .val (.int (p3.toInt8.toInt32)), .val (.int (p4.toInt8.toInt32)), .val (.int (2 : Int32)), .val (.ref b12), .unset] [(.int (0 : Int32))]))
      refine own_Fin.step (fun _ => XS.istore X18.here hx rfl (hb hby at_196) rfl (l' := #[.val (.int p1), .val (.int p2), .val (.int p3), .val (.int p4), .val (.int p5), .val (.int (p1.toInt8.toInt32)), .val (.int (p2.toInt8.toInt32)), .val (.int (p3.toInt8.toInt32)), .val (.int (p4.toInt8.toInt32)), .val (.int (2 : Int32)), .val (.ref b12), .val (.int (0 : Int32))]) rfl) ?_
      show own_Fin p e below s _ _ _ (T18.setTop (mkF m 198 #[.val (.int p1), .val (.int p2), .val (.int p3), .val (.int p4), .val (.int p5), .val (.int (p1.toInt8.toInt32)), .val (.int (p2.toInt8.toInt32)), .val (.int (p3.toInt8.toInt32)), .val (.int (p4.toInt8.toInt32)), .val (.int (2 : Int32)), .val (.ref b12), .val (.int (0 : Int32))] []))
      refine own_Fin.step (fun _ => XS.aload X18.here hx rfl (hb hby at_198) rfl rfl) ?_
      show own_Fin p e below s _ _ _ (T18.setTop (mkF m 200 #[.val (.int p1), .val (.int p2), .val (.int p3), .val (.int p4), .val (.int p5), .val (.int (p1.toInt8.toInt32)), .val (.int (p2.toInt8.toInt32)), .val (.int (p3.toInt8.toInt32)), .val (.int (p4.toInt8.toInt32)), .val (.int (2 : Int32)), .val (.ref b12), .val (.int (0 : Int32))] [(.ref b12)]))
      obtain ⟨_, T20, L20, X20, ⟨rfl, N20q, e20⟩, st20⟩ := own_callS X18 hx hZ hown (own_w hw 1 rfl) (own_w hw 2 rfl) (own_w hw 3 rfl) (own_w hw 4 rfl) (by decide) (rm1 l Z a0 hw b12 k12 (2 : Int32) [(p1.toInt8.toInt32), (p2.toInt8.toInt32)] (.int (0 : Int32)) h16 n0 Z16 V16' rfl) (by decide) (by decide) e18 (W := 0) (g := (mkF m 200 #[.val (.int p1), .val (.int p2), .val (.int p3), .val (.int p4), .val (.int p5), .val (.int (p1.toInt8.toInt32)), .val (.int (p2.toInt8.toInt32)), .val (.int (p3.toInt8.toInt32)), .val (.int (p4.toInt8.toInt32)), .val (.int (2 : Int32)), .val (.ref b12), .val (.int (0 : Int32))] [(.ref b12)])) rfl (by rw [hml]; rfl) (argsL := [(.ref b12)]) (rest := []) (lenOf pd_0 rfl) rfl rfl (by show 2 * 0 + _ ≤ _; exact Nat.le_of_eq rfl) (hb hby at_200) (by decide) (by decide)
      have N20 := Fr.app N18 N20q
      refine own_Fin.step st20 ?_
      show own_Fin p e below s _ _ _ (T20.setTop (mkF m 203 #[.val (.int p1), .val (.int p2), .val (.int p3), .val (.int p4), .val (.int p5), .val (.int (p1.toInt8.toInt32)), .val (.int (p2.toInt8.toInt32)), .val (.int (p3.toInt8.toInt32)), .val (.int (p4.toInt8.toInt32)), .val (.int (2 : Int32)), .val (.ref b12), .val (.int (0 : Int32))] [(.int (own_plain [(p1.toInt8.toInt32), (p2.toInt8.toInt32)]))]))
      refine own_Fin.step (fun _ => XS.iload X20.here hx rfl (hb hby at_203) rfl) ?_
      show own_Fin p e below s _ _ _ (T20.setTop (mkF m 205 #[.val (.int p1), .val (.int p2), .val (.int p3), .val (.int p4), .val (.int p5), .val (.int (p1.toInt8.toInt32)), .val (.int (p2.toInt8.toInt32)), .val (.int (p3.toInt8.toInt32)), .val (.int (p4.toInt8.toInt32)), .val (.int (2 : Int32)), .val (.ref b12), .val (.int (0 : Int32))] [(.int (0 : Int32)), (.int (own_plain [(p1.toInt8.toInt32), (p2.toInt8.toInt32)]))]))
      refine own_Fin.step (fun _ => XS.icmpNo X20.here hx rfl (hb hby at_205) rfl (XT.ii_ne_f (by rw [own_pl, if_pos hc146_19]))) ?_
      show own_Fin p e below s _ _ _ (T20.setTop (mkF m 208 #[.val (.int p1), .val (.int p2), .val (.int p3), .val (.int p4), .val (.int p5), .val (.int (p1.toInt8.toInt32)), .val (.int (p2.toInt8.toInt32)), .val (.int (p3.toInt8.toInt32)), .val (.int (p4.toInt8.toInt32)), .val (.int (2 : Int32)), .val (.ref b12), .val (.int (0 : Int32))] []))
      refine own_Fin.step (fun _ => XS.iconst X20.here hx rfl (hb hby at_208)) ?_
      show own_Fin p e below s _ _ _ (T20.setTop (mkF m 209 #[.val (.int p1), .val (.int p2), .val (.int p3), .val (.int p4), .val (.int p5), .val (.int (p1.toInt8.toInt32)), .val (.int (p2.toInt8.toInt32)), .val (.int (p3.toInt8.toInt32)), .val (.int (p4.toInt8.toInt32)), .val (.int (2 : Int32)), .val (.ref b12), .val (.int (0 : Int32))] [(.int (1 : Int32))]))
      refine own_Fin.step (fun _ => XS.goto X20.here hx rfl (pc0 := 209) (pc' := 213) rfl (hb hby at_209) (by decide) (by decide)) ?_
      show own_Fin p e below s _ _ _ (T20.setTop (mkF m 213 #[.val (.int p1), .val (.int p2), .val (.int p3), .val (.int p4), .val (.int p5), .val (.int (p1.toInt8.toInt32)), .val (.int (p2.toInt8.toInt32)), .val (.int (p3.toInt8.toInt32)), .val (.int (p4.toInt8.toInt32)), .val (.int (2 : Int32)), .val (.ref b12), .val (.int (0 : Int32))] [(.int (1 : Int32))]))
      exact own_retN X20 hx hlk (t := .boolean) hret (by simp) (hb hby at_213) ⟨rfl, N20⟩ (by decide) (by decide)
    ·
      refine own_Fin.step (fun _ => XS.ifNo X18.here hx rfl (hb hby at_146) rfl (XT.i0_eq_f hc146_19)) ?_
      show own_Fin p e below s _ _ _ (T18.setTop (mkF m 149 #[.val (.int p1), .val (.int p2), .val (.int p3), .val (.int p4), .val (.int p5), .val (.int (p1.toInt8.toInt32)), .val (.int (p2.toInt8.toInt32)), .val (.int (p3.toInt8.toInt32)), .val (.int (p4.toInt8.toInt32)), .val (.int (2 : Int32)), .val (.ref b12), .unset] []))
      refine own_Fin.step (fun _ => XS.iload X18.here hx rfl (hb hby at_149) rfl) ?_
      show own_Fin p e below s _ _ _ (T18.setTop (mkF m 151 #[.val (.int p1), .val (.int p2), .val (.int p3), .val (.int p4), .val (.int p5), .val (.int (p1.toInt8.toInt32)), .val (.int (p2.toInt8.toInt32)), .val (.int (p3.toInt8.toInt32)), .val (.int (p4.toInt8.toInt32)), .val (.int (2 : Int32)), .val (.ref b12), .unset] [(.int (2 : Int32))]))
      refine own_Fin.step (fun _ => XS.iconst X18.here hx rfl (hb hby at_151)) ?_
      show own_Fin p e below s _ _ _ (T18.setTop (mkF m 152 #[.val (.int p1), .val (.int p2), .val (.int p3), .val (.int p4), .val (.int p5), .val (.int (p1.toInt8.toInt32)), .val (.int (p2.toInt8.toInt32)), .val (.int (p3.toInt8.toInt32)), .val (.int (p4.toInt8.toInt32)), .val (.int (2 : Int32)), .val (.ref b12), .unset] [(.int (2 : Int32)), (.int (2 : Int32))]))
      refine own_Fin.step (fun _ => XS.icmpNo X18.here hx rfl (hb hby at_152) rfl (XT.ii_lt_f (by decide : ¬ ((2 : Int32) < (2 : Int32))))) ?_
      show own_Fin p e below s _ _ _ (T18.setTop (mkF m 155 #[.val (.int p1), .val (.int p2), .val (.int p3), .val (.int p4), .val (.int p5), .val (.int (p1.toInt8.toInt32)), .val (.int (p2.toInt8.toInt32)), .val (.int (p3.toInt8.toInt32)), .val (.int (p4.toInt8.toInt32)), .val (.int (2 : Int32)), .val (.ref b12), .unset] []))
      refine own_Fin.step (fun _ => XS.iload X18.here hx rfl (hb hby at_155) rfl) ?_
      show own_Fin p e below s _ _ _ (T18.setTop (mkF m 157 #[.val (.int p1), .val (.int p2), .val (.int p3), .val (.int p4), .val (.int p5), .val (.int (p1.toInt8.toInt32)), .val (.int (p2.toInt8.toInt32)), .val (.int (p3.toInt8.toInt32)), .val (.int (p4.toInt8.toInt32)), .val (.int (2 : Int32)), .val (.ref b12), .unset] [(.int (p2.toInt8.toInt32))]))
      obtain ⟨_, T21, L21, X21, ⟨rfl, N21q, e21⟩, st21⟩ := own_callS X18 hx hZ hown (own_w hw 5 rfl) (own_w hw 6 rfl) (own_w hw 7 rfl) (own_w hw 8 rfl) (by decide) (rm2 l Z a0 hw (p2.toInt8.toInt32) h16 n0 Z16) (by decide) (by decide) e18 (W := 0) (g := (mkF m 157 #[.val (.int p1), .val (.int p2), .val (.int p3), .val (.int p4), .val (.int p5), .val (.int (p1.toInt8.toInt32)), .val (.int (p2.toInt8.toInt32)), .val (.int (p3.toInt8.toInt32)), .val (.int (p4.toInt8.toInt32)), .val (.int (2 : Int32)), .val (.ref b12), .unset] [(.int (p2.toInt8.toInt32))])) rfl (by rw [hml]; rfl) (argsL := [(.int (p2.toInt8.toInt32))]) (rest := []) (lenOf pd_1 rfl) rfl rfl (by show 2 * 0 + _ ≤ _; exact Nat.le_of_eq rfl) (hb hby at_157) (by decide) (by decide)
      have N21 := Fr.app N18 N21q
      refine own_Fin.step st21 ?_
      show own_Fin p e below s _ _ _ (T21.setTop (mkF m 160 #[.val (.int p1), .val (.int p2), .val (.int p3), .val (.int p4), .val (.int p5), .val (.int (p1.toInt8.toInt32)), .val (.int (p2.toInt8.toInt32)), .val (.int (p3.toInt8.toInt32)), .val (.int (p4.toInt8.toInt32)), .val (.int (2 : Int32)), .val (.ref b12), .unset] [(.int (own_okb (p2.toInt8.toInt32)))]))
      by_cases hc160_22 : (own_okb (p2.toInt8.toInt32)) = (0 : Int32)
      ·
        refine own_Fin.step (fun _ => XS.ifYes X21.here hx rfl (pc0 := 160) (pc' := 195) rfl (hb hby at_160) rfl (XT.i0_eq_t hc160_22) (by decide) (by decide)) ?_
        show own_Fin p e below s _ _ _ (T21.setTop (mkF m 195 #[.val (.int p1), .val (.int p2), .val (.int p3), .val (.int p4), .val (.int p5), .val (.int (p1.toInt8.toInt32)), .val (.int (p2.toInt8.toInt32)), .val (.int (p3.toInt8.toInt32)), .val (.int (p4.toInt8.toInt32)), .val (.int (2 : Int32)), .val (.ref b12), .unset] []))
        refine own_Fin.step (fun _ => XS.iconst X21.here hx rfl (hb hby at_195)) ?_
        show own_Fin p e below s _ _ _ (T21.setTop (mkF m 196 #[.val (.int p1), .val (.int p2), .val (.int p3), .val (.int p4), .val (.int p5), .val (.int (p1.toInt8.toInt32)), .val (.int (p2.toInt8.toInt32)), .val (.int (p3.toInt8.toInt32)), .val (.int (p4.toInt8.toInt32)), .val (.int (2 : Int32)), .val (.ref b12), .unset] [(.int (0 : Int32))]))
        refine own_Fin.step (fun _ => XS.istore X21.here hx rfl (hb hby at_196) rfl (l' := #[.val (.int p1), .val (.int p2), .val (.int p3), .val (.int p4), .val (.int p5), .val (.int (p1.toInt8.toInt32)), .val (.int (p2.toInt8.toInt32)), .val (.int (p3.toInt8.toInt32)), .val (.int (p4.toInt8.toInt32)), .val (.int (2 : Int32)), .val (.ref b12), .val (.int (0 : Int32))]) rfl) ?_
        show own_Fin p e below s _ _ _ (T21.setTop (mkF m 198 #[.val (.int p1), .val (.int p2), .val (.int p3), .val (.int p4), .val (.int p5), .val (.int (p1.toInt8.toInt32)), .val (.int (p2.toInt8.toInt32)), .val (.int (p3.toInt8.toInt32)), .val (.int (p4.toInt8.toInt32)), .val (.int (2 : Int32)), .val (.ref b12), .val (.int (0 : Int32))] []))
        refine own_Fin.step (fun _ => XS.aload X21.here hx rfl (hb hby at_198) rfl rfl) ?_
        show own_Fin p e below s _ _ _ (T21.setTop (mkF m 200 #[.val (.int p1), .val (.int p2), .val (.int p3), .val (.int p4), .val (.int p5), .val (.int (p1.toInt8.toInt32)), .val (.int (p2.toInt8.toInt32)), .val (.int (p3.toInt8.toInt32)), .val (.int (p4.toInt8.toInt32)), .val (.int (2 : Int32)), .val (.ref b12), .val (.int (0 : Int32))] [(.ref b12)]))
        obtain ⟨_, T23, L23, X23, ⟨rfl, N23q, e23⟩, st23⟩ := own_callS X21 hx hZ hown (own_w hw 1 rfl) (own_w hw 2 rfl) (own_w hw 3 rfl) (own_w hw 4 rfl) (by decide) (rm1 l Z a0 hw b12 k12 (2 : Int32) [(p1.toInt8.toInt32), (p2.toInt8.toInt32)] (.int (0 : Int32)) h16 n0 Z16 V16' rfl) (by decide) (by decide) e21 (W := 0) (g := (mkF m 200 #[.val (.int p1), .val (.int p2), .val (.int p3), .val (.int p4), .val (.int p5), .val (.int (p1.toInt8.toInt32)), .val (.int (p2.toInt8.toInt32)), .val (.int (p3.toInt8.toInt32)), .val (.int (p4.toInt8.toInt32)), .val (.int (2 : Int32)), .val (.ref b12), .val (.int (0 : Int32))] [(.ref b12)])) rfl (by rw [hml]; rfl) (argsL := [(.ref b12)]) (rest := []) (lenOf pd_0 rfl) rfl rfl (by show 2 * 0 + _ ≤ _; exact Nat.le_of_eq rfl) (hb hby at_200) (by decide) (by decide)
        have N23 := Fr.app N21 N23q
        refine own_Fin.step st23 ?_
        show own_Fin p e below s _ _ _ (T23.setTop (mkF m 203 #[.val (.int p1), .val (.int p2), .val (.int p3), .val (.int p4), .val (.int p5), .val (.int (p1.toInt8.toInt32)), .val (.int (p2.toInt8.toInt32)), .val (.int (p3.toInt8.toInt32)), .val (.int (p4.toInt8.toInt32)), .val (.int (2 : Int32)), .val (.ref b12), .val (.int (0 : Int32))] [(.int (own_plain [(p1.toInt8.toInt32), (p2.toInt8.toInt32)]))]))
        refine own_Fin.step (fun _ => XS.iload X23.here hx rfl (hb hby at_203) rfl) ?_
        show own_Fin p e below s _ _ _ (T23.setTop (mkF m 205 #[.val (.int p1), .val (.int p2), .val (.int p3), .val (.int p4), .val (.int p5), .val (.int (p1.toInt8.toInt32)), .val (.int (p2.toInt8.toInt32)), .val (.int (p3.toInt8.toInt32)), .val (.int (p4.toInt8.toInt32)), .val (.int (2 : Int32)), .val (.ref b12), .val (.int (0 : Int32))] [(.int (0 : Int32)), (.int (own_plain [(p1.toInt8.toInt32), (p2.toInt8.toInt32)]))]))
        refine own_Fin.step (fun _ => XS.icmpNo X23.here hx rfl (hb hby at_205) rfl (XT.ii_ne_f (by rw [own_pl, if_neg hc146_19, own_pl, if_pos hc160_22]))) ?_
        show own_Fin p e below s _ _ _ (T23.setTop (mkF m 208 #[.val (.int p1), .val (.int p2), .val (.int p3), .val (.int p4), .val (.int p5), .val (.int (p1.toInt8.toInt32)), .val (.int (p2.toInt8.toInt32)), .val (.int (p3.toInt8.toInt32)), .val (.int (p4.toInt8.toInt32)), .val (.int (2 : Int32)), .val (.ref b12), .val (.int (0 : Int32))] []))
        refine own_Fin.step (fun _ => XS.iconst X23.here hx rfl (hb hby at_208)) ?_
        show own_Fin p e below s _ _ _ (T23.setTop (mkF m 209 #[.val (.int p1), .val (.int p2), .val (.int p3), .val (.int p4), .val (.int p5), .val (.int (p1.toInt8.toInt32)), .val (.int (p2.toInt8.toInt32)), .val (.int (p3.toInt8.toInt32)), .val (.int (p4.toInt8.toInt32)), .val (.int (2 : Int32)), .val (.ref b12), .val (.int (0 : Int32))] [(.int (1 : Int32))]))
        refine own_Fin.step (fun _ => XS.goto X23.here hx rfl (pc0 := 209) (pc' := 213) rfl (hb hby at_209) (by decide) (by decide)) ?_
        show own_Fin p e below s _ _ _ (T23.setTop (mkF m 213 #[.val (.int p1), .val (.int p2), .val (.int p3), .val (.int p4), .val (.int p5), .val (.int (p1.toInt8.toInt32)), .val (.int (p2.toInt8.toInt32)), .val (.int (p3.toInt8.toInt32)), .val (.int (p4.toInt8.toInt32)), .val (.int (2 : Int32)), .val (.ref b12), .val (.int (0 : Int32))] [(.int (1 : Int32))]))
        exact own_retN X23 hx hlk (t := .boolean) hret (by simp) (hb hby at_213) ⟨rfl, N23⟩ (by decide) (by decide)
      ·
        refine own_Fin.step (fun _ => XS.ifNo X21.here hx rfl (hb hby at_160) rfl (XT.i0_eq_f hc160_22)) ?_
        show own_Fin p e below s _ _ _ (T21.setTop (mkF m 163 #[.val (.int p1), .val (.int p2), .val (.int p3), .val (.int p4), .val (.int p5), .val (.int (p1.toInt8.toInt32)), .val (.int (p2.toInt8.toInt32)), .val (.int (p3.toInt8.toInt32)), .val (.int (p4.toInt8.toInt32)), .val (.int (2 : Int32)), .val (.ref b12), .unset] []))
        refine own_Fin.step (fun _ => XS.iload X21.here hx rfl (hb hby at_163) rfl) ?_
        show own_Fin p e below s _ _ _ (T21.setTop (mkF m 165 #[.val (.int p1), .val (.int p2), .val (.int p3), .val (.int p4), .val (.int p5), .val (.int (p1.toInt8.toInt32)), .val (.int (p2.toInt8.toInt32)), .val (.int (p3.toInt8.toInt32)), .val (.int (p4.toInt8.toInt32)), .val (.int (2 : Int32)), .val (.ref b12), .unset] [(.int (2 : Int32))]))
        refine own_Fin.step (fun _ => XS.iconst X21.here hx rfl (hb hby at_165)) ?_
        show own_Fin p e below s _ _ _ (T21.setTop (mkF m 166 #[.val (.int p1), .val (.int p2), .val (.int p3), .val (.int p4), .val (.int p5), .val (.int (p1.toInt8.toInt32)), .val (.int (p2.toInt8.toInt32)), .val (.int (p3.toInt8.toInt32)), .val (.int (p4.toInt8.toInt32)), .val (.int (2 : Int32)), .val (.ref b12), .unset] [(.int (3 : Int32)), (.int (2 : Int32))]))
        refine own_Fin.step (fun _ => XS.icmpYes X21.here hx rfl (pc0 := 166) (pc' := 177) rfl (hb hby at_166) rfl (XT.ii_lt_t (by decide : (2 : Int32) < (3 : Int32))) (by decide) (by decide)) ?_
        show own_Fin p e below s _ _ _ (T21.setTop (mkF m 177 #[.val (.int p1), .val (.int p2), .val (.int p3), .val (.int p4), .val (.int p5), .val (.int (p1.toInt8.toInt32)), .val (.int (p2.toInt8.toInt32)), .val (.int (p3.toInt8.toInt32)), .val (.int (p4.toInt8.toInt32)), .val (.int (2 : Int32)), .val (.ref b12), .unset] []))
        refine own_Fin.step (fun _ => XS.iload X21.here hx rfl (hb hby at_177) rfl) ?_
        show own_Fin p e below s _ _ _ (T21.setTop (mkF m 179 #[.val (.int p1), .val (.int p2), .val (.int p3), .val (.int p4), .val (.int p5), .val (.int (p1.toInt8.toInt32)), .val (.int (p2.toInt8.toInt32)), .val (.int (p3.toInt8.toInt32)), .val (.int (p4.toInt8.toInt32)), .val (.int (2 : Int32)), .val (.ref b12), .unset] [(.int (2 : Int32))]))
        refine own_Fin.step (fun _ => XS.iconst X21.here hx rfl (hb hby at_179)) ?_
        show own_Fin p e below s _ _ _ (T21.setTop (mkF m 180 #[.val (.int p1), .val (.int p2), .val (.int p3), .val (.int p4), .val (.int p5), .val (.int (p1.toInt8.toInt32)), .val (.int (p2.toInt8.toInt32)), .val (.int (p3.toInt8.toInt32)), .val (.int (p4.toInt8.toInt32)), .val (.int (2 : Int32)), .val (.ref b12), .unset] [(.int (4 : Int32)), (.int (2 : Int32))]))
        refine own_Fin.step (fun _ => XS.icmpYes X21.here hx rfl (pc0 := 180) (pc' := 191) rfl (hb hby at_180) rfl (XT.ii_lt_t (by decide : (2 : Int32) < (4 : Int32))) (by decide) (by decide)) ?_
        show own_Fin p e below s _ _ _ (T21.setTop (mkF m 191 #[.val (.int p1), .val (.int p2), .val (.int p3), .val (.int p4), .val (.int p5), .val (.int (p1.toInt8.toInt32)), .val (.int (p2.toInt8.toInt32)), .val (.int (p3.toInt8.toInt32)), .val (.int (p4.toInt8.toInt32)), .val (.int (2 : Int32)), .val (.ref b12), .unset] []))
        refine own_Fin.step (fun _ => XS.iconst X21.here hx rfl (hb hby at_191)) ?_
        show own_Fin p e below s _ _ _ (T21.setTop (mkF m 192 #[.val (.int p1), .val (.int p2), .val (.int p3), .val (.int p4), .val (.int p5), .val (.int (p1.toInt8.toInt32)), .val (.int (p2.toInt8.toInt32)), .val (.int (p3.toInt8.toInt32)), .val (.int (p4.toInt8.toInt32)), .val (.int (2 : Int32)), .val (.ref b12), .unset] [(.int (1 : Int32))]))
        refine own_Fin.step (fun _ => XS.goto X21.here hx rfl (pc0 := 192) (pc' := 196) rfl (hb hby at_192) (by decide) (by decide)) ?_
        show own_Fin p e below s _ _ _ (T21.setTop (mkF m 196 #[.val (.int p1), .val (.int p2), .val (.int p3), .val (.int p4), .val (.int p5), .val (.int (p1.toInt8.toInt32)), .val (.int (p2.toInt8.toInt32)), .val (.int (p3.toInt8.toInt32)), .val (.int (p4.toInt8.toInt32)), .val (.int (2 : Int32)), .val (.ref b12), .unset] [(.int (1 : Int32))]))
        refine own_Fin.step (fun _ => XS.istore X21.here hx rfl (hb hby at_196) rfl (l' := #[.val (.int p1), .val (.int p2), .val (.int p3), .val (.int p4), .val (.int p5), .val (.int (p1.toInt8.toInt32)), .val (.int (p2.toInt8.toInt32)), .val (.int (p3.toInt8.toInt32)), .val (.int (p4.toInt8.toInt32)), .val (.int (2 : Int32)), .val (.ref b12), .val (.int (1 : Int32))]) rfl) ?_
        show own_Fin p e below s _ _ _ (T21.setTop (mkF m 198 #[.val (.int p1), .val (.int p2), .val (.int p3), .val (.int p4), .val (.int p5), .val (.int (p1.toInt8.toInt32)), .val (.int (p2.toInt8.toInt32)), .val (.int (p3.toInt8.toInt32)), .val (.int (p4.toInt8.toInt32)), .val (.int (2 : Int32)), .val (.ref b12), .val (.int (1 : Int32))] []))
        refine own_Fin.step (fun _ => XS.aload X21.here hx rfl (hb hby at_198) rfl rfl) ?_
        show own_Fin p e below s _ _ _ (T21.setTop (mkF m 200 #[.val (.int p1), .val (.int p2), .val (.int p3), .val (.int p4), .val (.int p5), .val (.int (p1.toInt8.toInt32)), .val (.int (p2.toInt8.toInt32)), .val (.int (p3.toInt8.toInt32)), .val (.int (p4.toInt8.toInt32)), .val (.int (2 : Int32)), .val (.ref b12), .val (.int (1 : Int32))] [(.ref b12)]))
        obtain ⟨_, T24, L24, X24, ⟨rfl, N24q, e24⟩, st24⟩ := own_callS X21 hx hZ hown (own_w hw 1 rfl) (own_w hw 2 rfl) (own_w hw 3 rfl) (own_w hw 4 rfl) (by decide) (rm1 l Z a0 hw b12 k12 (2 : Int32) [(p1.toInt8.toInt32), (p2.toInt8.toInt32)] (.int (0 : Int32)) h16 n0 Z16 V16' rfl) (by decide) (by decide) e21 (W := 0) (g := (mkF m 200 #[.val (.int p1), .val (.int p2), .val (.int p3), .val (.int p4), .val (.int p5), .val (.int (p1.toInt8.toInt32)), .val (.int (p2.toInt8.toInt32)), .val (.int (p3.toInt8.toInt32)), .val (.int (p4.toInt8.toInt32)), .val (.int (2 : Int32)), .val (.ref b12), .val (.int (1 : Int32))] [(.ref b12)])) rfl (by rw [hml]; rfl) (argsL := [(.ref b12)]) (rest := []) (lenOf pd_0 rfl) rfl rfl (by show 2 * 0 + _ ≤ _; exact Nat.le_of_eq rfl) (hb hby at_200) (by decide) (by decide)
        have N24 := Fr.app N21 N24q
        refine own_Fin.step st24 ?_
        show own_Fin p e below s _ _ _ (T24.setTop (mkF m 203 #[.val (.int p1), .val (.int p2), .val (.int p3), .val (.int p4), .val (.int p5), .val (.int (p1.toInt8.toInt32)), .val (.int (p2.toInt8.toInt32)), .val (.int (p3.toInt8.toInt32)), .val (.int (p4.toInt8.toInt32)), .val (.int (2 : Int32)), .val (.ref b12), .val (.int (1 : Int32))] [(.int (own_plain [(p1.toInt8.toInt32), (p2.toInt8.toInt32)]))]))
        refine own_Fin.step (fun _ => XS.iload X24.here hx rfl (hb hby at_203) rfl) ?_
        show own_Fin p e below s _ _ _ (T24.setTop (mkF m 205 #[.val (.int p1), .val (.int p2), .val (.int p3), .val (.int p4), .val (.int p5), .val (.int (p1.toInt8.toInt32)), .val (.int (p2.toInt8.toInt32)), .val (.int (p3.toInt8.toInt32)), .val (.int (p4.toInt8.toInt32)), .val (.int (2 : Int32)), .val (.ref b12), .val (.int (1 : Int32))] [(.int (1 : Int32)), (.int (own_plain [(p1.toInt8.toInt32), (p2.toInt8.toInt32)]))]))
        refine own_Fin.step (fun _ => XS.icmpNo X24.here hx rfl (hb hby at_205) rfl (XT.ii_ne_f (by rw [own_pl, if_neg hc146_19, own_pl, if_neg hc160_22]; rfl))) ?_
        show own_Fin p e below s _ _ _ (T24.setTop (mkF m 208 #[.val (.int p1), .val (.int p2), .val (.int p3), .val (.int p4), .val (.int p5), .val (.int (p1.toInt8.toInt32)), .val (.int (p2.toInt8.toInt32)), .val (.int (p3.toInt8.toInt32)), .val (.int (p4.toInt8.toInt32)), .val (.int (2 : Int32)), .val (.ref b12), .val (.int (1 : Int32))] []))
        refine own_Fin.step (fun _ => XS.iconst X24.here hx rfl (hb hby at_208)) ?_
        show own_Fin p e below s _ _ _ (T24.setTop (mkF m 209 #[.val (.int p1), .val (.int p2), .val (.int p3), .val (.int p4), .val (.int p5), .val (.int (p1.toInt8.toInt32)), .val (.int (p2.toInt8.toInt32)), .val (.int (p3.toInt8.toInt32)), .val (.int (p4.toInt8.toInt32)), .val (.int (2 : Int32)), .val (.ref b12), .val (.int (1 : Int32))] [(.int (1 : Int32))]))
        refine own_Fin.step (fun _ => XS.goto X24.here hx rfl (pc0 := 209) (pc' := 213) rfl (hb hby at_209) (by decide) (by decide)) ?_
        show own_Fin p e below s _ _ _ (T24.setTop (mkF m 213 #[.val (.int p1), .val (.int p2), .val (.int p3), .val (.int p4), .val (.int p5), .val (.int (p1.toInt8.toInt32)), .val (.int (p2.toInt8.toInt32)), .val (.int (p3.toInt8.toInt32)), .val (.int (p4.toInt8.toInt32)), .val (.int (2 : Int32)), .val (.ref b12), .val (.int (1 : Int32))] [(.int (1 : Int32))]))
        exact own_retN X24 hx hlk (t := .boolean) hret (by simp) (hb hby at_213) ⟨rfl, N24⟩ (by decide) (by decide)
  ·
    show own_Fin p e below s _ _ _ (s₁.setTop (mkF m 23 #[.val (.int p1), .val (.int p2), .val (.int p3), .val (.int p4), .val (.int p5), .val (.int (p1.toInt8.toInt32)), .val (.int (p2.toInt8.toInt32)), .val (.int (p3.toInt8.toInt32)), .val (.int (p4.toInt8.toInt32)), .unset, .unset, .unset] [(.int (3 : Int32))]))
    refine own_Fin.step (fun _ => XS.istore X0.here hx rfl (hb hby at_23) rfl (l' := #[.val (.int p1), .val (.int p2), .val (.int p3), .val (.int p4), .val (.int p5), .val (.int (p1.toInt8.toInt32)), .val (.int (p2.toInt8.toInt32)), .val (.int (p3.toInt8.toInt32)), .val (.int (p4.toInt8.toInt32)), .val (.int (3 : Int32)), .unset, .unset]) rfl) ?_
    show own_Fin p e below s _ _ _ (s₁.setTop (mkF m 25 #[.val (.int p1), .val (.int p2), .val (.int p3), .val (.int p4), .val (.int p5), .val (.int (p1.toInt8.toInt32)), .val (.int (p2.toInt8.toInt32)), .val (.int (p3.toInt8.toInt32)), .val (.int (p4.toInt8.toInt32)), .val (.int (3 : Int32)), .unset, .unset] []))
    refine own_Fin.step (fun _ => XS.iload X0.here hx rfl (hb hby at_25) rfl) ?_
    show own_Fin p e below s _ _ _ (s₁.setTop (mkF m 27 #[.val (.int p1), .val (.int p2), .val (.int p3), .val (.int p4), .val (.int p5), .val (.int (p1.toInt8.toInt32)), .val (.int (p2.toInt8.toInt32)), .val (.int (p3.toInt8.toInt32)), .val (.int (p4.toInt8.toInt32)), .val (.int (3 : Int32)), .unset, .unset] [(.int (3 : Int32))]))
    refine own_Fin.step (fun _ => XS.ifYes X0.here hx rfl (pc0 := 27) (pc' := 38) rfl (hb hby at_27) rfl (XT.i0_ne_t (by decide : ¬ ((3 : Int32) = (0 : Int32)))) (by decide) (by decide)) ?_
    show own_Fin p e below s _ _ _ (s₁.setTop (mkF m 38 #[.val (.int p1), .val (.int p2), .val (.int p3), .val (.int p4), .val (.int p5), .val (.int (p1.toInt8.toInt32)), .val (.int (p2.toInt8.toInt32)), .val (.int (p3.toInt8.toInt32)), .val (.int (p4.toInt8.toInt32)), .val (.int (3 : Int32)), .unset, .unset] []))
    refine own_Fin.step (fun _ => XS.iload X0.here hx rfl (hb hby at_38) rfl) ?_
    show own_Fin p e below s _ _ _ (s₁.setTop (mkF m 40 #[.val (.int p1), .val (.int p2), .val (.int p3), .val (.int p4), .val (.int p5), .val (.int (p1.toInt8.toInt32)), .val (.int (p2.toInt8.toInt32)), .val (.int (p3.toInt8.toInt32)), .val (.int (p4.toInt8.toInt32)), .val (.int (3 : Int32)), .unset, .unset] [(.int (3 : Int32))]))
    refine own_Fin.step (fun _ => XS.iconst X0.here hx rfl (hb hby at_40)) ?_
    show own_Fin p e below s _ _ _ (s₁.setTop (mkF m 41 #[.val (.int p1), .val (.int p2), .val (.int p3), .val (.int p4), .val (.int p5), .val (.int (p1.toInt8.toInt32)), .val (.int (p2.toInt8.toInt32)), .val (.int (p3.toInt8.toInt32)), .val (.int (p4.toInt8.toInt32)), .val (.int (3 : Int32)), .unset, .unset] [(.int (1 : Int32)), (.int (3 : Int32))]))
    refine own_Fin.step (fun _ => XS.icmpYes X0.here hx rfl (pc0 := 41) (pc' := 57) rfl (hb hby at_41) rfl (XT.ii_ne_t (by decide : ¬ ((3 : Int32) = (1 : Int32)))) (by decide) (by decide)) ?_
    show own_Fin p e below s _ _ _ (s₁.setTop (mkF m 57 #[.val (.int p1), .val (.int p2), .val (.int p3), .val (.int p4), .val (.int p5), .val (.int (p1.toInt8.toInt32)), .val (.int (p2.toInt8.toInt32)), .val (.int (p3.toInt8.toInt32)), .val (.int (p4.toInt8.toInt32)), .val (.int (3 : Int32)), .unset, .unset] []))
    refine own_Fin.step (fun _ => XS.iload X0.here hx rfl (hb hby at_57) rfl) ?_
    show own_Fin p e below s _ _ _ (s₁.setTop (mkF m 59 #[.val (.int p1), .val (.int p2), .val (.int p3), .val (.int p4), .val (.int p5), .val (.int (p1.toInt8.toInt32)), .val (.int (p2.toInt8.toInt32)), .val (.int (p3.toInt8.toInt32)), .val (.int (p4.toInt8.toInt32)), .val (.int (3 : Int32)), .unset, .unset] [(.int (3 : Int32))]))
    refine own_Fin.step (fun _ => XS.iconst X0.here hx rfl (hb hby at_59)) ?_
    show own_Fin p e below s _ _ _ (s₁.setTop (mkF m 60 #[.val (.int p1), .val (.int p2), .val (.int p3), .val (.int p4), .val (.int p5), .val (.int (p1.toInt8.toInt32)), .val (.int (p2.toInt8.toInt32)), .val (.int (p3.toInt8.toInt32)), .val (.int (p4.toInt8.toInt32)), .val (.int (3 : Int32)), .unset, .unset] [(.int (2 : Int32)), (.int (3 : Int32))]))
    refine own_Fin.step (fun _ => XS.icmpYes X0.here hx rfl (pc0 := 60) (pc' := 81) rfl (hb hby at_60) rfl (XT.ii_ne_t (by decide : ¬ ((3 : Int32) = (2 : Int32)))) (by decide) (by decide)) ?_
    show own_Fin p e below s _ _ _ (s₁.setTop (mkF m 81 #[.val (.int p1), .val (.int p2), .val (.int p3), .val (.int p4), .val (.int p5), .val (.int (p1.toInt8.toInt32)), .val (.int (p2.toInt8.toInt32)), .val (.int (p3.toInt8.toInt32)), .val (.int (p4.toInt8.toInt32)), .val (.int (3 : Int32)), .unset, .unset] []))
    refine own_Fin.step (fun _ => XS.iload X0.here hx rfl (hb hby at_81) rfl) ?_
    show own_Fin p e below s _ _ _ (s₁.setTop (mkF m 83 #[.val (.int p1), .val (.int p2), .val (.int p3), .val (.int p4), .val (.int p5), .val (.int (p1.toInt8.toInt32)), .val (.int (p2.toInt8.toInt32)), .val (.int (p3.toInt8.toInt32)), .val (.int (p4.toInt8.toInt32)), .val (.int (3 : Int32)), .unset, .unset] [(.int (3 : Int32))]))
    refine own_Fin.step (fun _ => XS.iconst X0.here hx rfl (hb hby at_83)) ?_
    show own_Fin p e below s _ _ _ (s₁.setTop (mkF m 84 #[.val (.int p1), .val (.int p2), .val (.int p3), .val (.int p4), .val (.int p5), .val (.int (p1.toInt8.toInt32)), .val (.int (p2.toInt8.toInt32)), .val (.int (p3.toInt8.toInt32)), .val (.int (p4.toInt8.toInt32)), .val (.int (3 : Int32)), .unset, .unset] [(.int (3 : Int32)), (.int (3 : Int32))]))
    refine own_Fin.step (fun _ => XS.icmpNo X0.here hx rfl (hb hby at_84) rfl (XT.ii_ne_f (by decide : (3 : Int32) = (3 : Int32)))) ?_
    show own_Fin p e below s _ _ _ (s₁.setTop (mkF m 87 #[.val (.int p1), .val (.int p2), .val (.int p3), .val (.int p4), .val (.int p5), .val (.int (p1.toInt8.toInt32)), .val (.int (p2.toInt8.toInt32)), .val (.int (p3.toInt8.toInt32)), .val (.int (p4.toInt8.toInt32)), .val (.int (3 : Int32)), .unset, .unset] []))
    refine own_Fin.step (fun _ => XS.iconst X0.here hx rfl (hb hby at_87)) ?_
    show own_Fin p e below s _ _ _ (s₁.setTop (mkF m 88 #[.val (.int p1), .val (.int p2), .val (.int p3), .val (.int p4), .val (.int p5), .val (.int (p1.toInt8.toInt32)), .val (.int (p2.toInt8.toInt32)), .val (.int (p3.toInt8.toInt32)), .val (.int (p4.toInt8.toInt32)), .val (.int (3 : Int32)), .unset, .unset] [(.int (3 : Int32))]))
    obtain ⟨T25, h25, k25, b25, X25, e25, E25, g25, V25, st25⟩ := own_newA X0 hx hZ (own_w hw 0 rfl) e0 (ty := .byte) (dv := (.int (0 : Int32))) rfl rfl (g := (mkF m 88 #[.val (.int p1), .val (.int p2), .val (.int p3), .val (.int p4), .val (.int p5), .val (.int (p1.toInt8.toInt32)), .val (.int (p2.toInt8.toInt32)), .val (.int (p3.toInt8.toInt32)), .val (.int (p4.toInt8.toInt32)), .val (.int (3 : Int32)), .unset, .unset] [(.int (3 : Int32))])) rfl (hb hby at_88) rfl (by decide) (cap := 3) (by decide) (by decide) (by decide) (by decide) (3)
    have ge26 : n0 ≤ b25 := Nat.le_trans Z0 (Nat.le_of_eq g25.symm)
    have Z25 : n0 ≤ h25.size := Nat.le_trans Z0 E25.1
    have V25' : Arv Z h25 b25 k25 .byte (3 : Int32) [(.int (0 : Int32)), (.int (0 : Int32)), (.int (0 : Int32))] (.int (0 : Int32)) := V25
    refine own_Fin.step st25 ?_
    show own_Fin p e below s _ _ _ (T25.setTop (mkF m 90 #[.val (.int p1), .val (.int p2), .val (.int p3), .val (.int p4), .val (.int p5), .val (.int (p1.toInt8.toInt32)), .val (.int (p2.toInt8.toInt32)), .val (.int (p3.toInt8.toInt32)), .val (.int (p4.toInt8.toInt32)), .val (.int (3 : Int32)), .unset, .unset] [(.ref b25)]))
    refine own_Fin.step (fun _ => XS.dup X25.here hx rfl (hb hby at_90) rfl rfl) ?_
    show own_Fin p e below s _ _ _ (T25.setTop (mkF m 91 #[.val (.int p1), .val (.int p2), .val (.int p3), .val (.int p4), .val (.int p5), .val (.int (p1.toInt8.toInt32)), .val (.int (p2.toInt8.toInt32)), .val (.int (p3.toInt8.toInt32)), .val (.int (p4.toInt8.toInt32)), .val (.int (3 : Int32)), .unset, .unset] [(.ref b25), (.ref b25)]))
    refine own_Fin.step (fun _ => XS.iconst X25.here hx rfl (hb hby at_91)) ?_
    show own_Fin p e below s _ _ _ (T25.setTop (mkF m 92 #[.val (.int p1), .val (.int p2), .val (.int p3), .val (.int p4), .val (.int p5), .val (.int (p1.toInt8.toInt32)), .val (.int (p2.toInt8.toInt32)), .val (.int (p3.toInt8.toInt32)), .val (.int (p4.toInt8.toInt32)), .val (.int (3 : Int32)), .unset, .unset] [(.int (0 : Int32)), (.ref b25), (.ref b25)]))
    refine own_Fin.step (fun _ => XS.iload X25.here hx rfl (hb hby at_92) rfl) ?_
    show own_Fin p e below s _ _ _ (T25.setTop (mkF m 94 #[.val (.int p1), .val (.int p2), .val (.int p3), .val (.int p4), .val (.int p5), .val (.int (p1.toInt8.toInt32)), .val (.int (p2.toInt8.toInt32)), .val (.int (p3.toInt8.toInt32)), .val (.int (p4.toInt8.toInt32)), .val (.int (3 : Int32)), .unset, .unset] [(.int (p1.toInt8.toInt32)), (.int (0 : Int32)), (.ref b25), (.ref b25)]))
    obtain ⟨T27, h27, X27, e27, V27, W27, st27⟩ := own_stBn X25 hx hZ e25 V25' (j := (0 : Int32)) ⟨by decide, by decide⟩ (0) rfl (Nat.le_of_ble_eq_true rfl) (g := (mkF m 94 #[.val (.int p1), .val (.int p2), .val (.int p3), .val (.int p4), .val (.int p5), .val (.int (p1.toInt8.toInt32)), .val (.int (p2.toInt8.toInt32)), .val (.int (p3.toInt8.toInt32)), .val (.int (p4.toInt8.toInt32)), .val (.int (3 : Int32)), .unset, .unset] [(.int (p1.toInt8.toInt32)), (.int (0 : Int32)), (.ref b25), (.ref b25)])) rfl rfl (hb hby at_94)
    have V27' : Arv Z h27 b25 k25 .byte (3 : Int32) [(.int (p1.toInt8.toInt32)), (.int (0 : Int32)), (.int (0 : Int32))] (.int (0 : Int32)) := V27
    have N27 := Fr.snoc X27 N0 ge26
    have Z27 : n0 ≤ h27.size := Nat.le_trans Z25 (Nat.le_of_eq W27.size.symm)
    refine own_Fin.step st27 ?_
    show own_Fin p e below s _ _ _ (T27.setTop (mkF m 95 #[.val (.int p1), .val (.int p2), .val (.int p3), .val (.int p4), .val (.int p5), .val (.int (p1.toInt8.toInt32)), .val (.int (p2.toInt8.toInt32)), .val (.int (p3.toInt8.toInt32)), .val (.int (p4.toInt8.toInt32)), .val (.int (3 : Int32)), .unset, .unset] [(.ref b25)]))
    refine own_Fin.step (fun _ => XS.dup X27.here hx rfl (hb hby at_95) rfl rfl) ?_
    show own_Fin p e below s _ _ _ (T27.setTop (mkF m 96 #[.val (.int p1), .val (.int p2), .val (.int p3), .val (.int p4), .val (.int p5), .val (.int (p1.toInt8.toInt32)), .val (.int (p2.toInt8.toInt32)), .val (.int (p3.toInt8.toInt32)), .val (.int (p4.toInt8.toInt32)), .val (.int (3 : Int32)), .unset, .unset] [(.ref b25), (.ref b25)]))
    refine own_Fin.step (fun _ => XS.iconst X27.here hx rfl (hb hby at_96)) ?_
    show own_Fin p e below s _ _ _ (T27.setTop (mkF m 97 #[.val (.int p1), .val (.int p2), .val (.int p3), .val (.int p4), .val (.int p5), .val (.int (p1.toInt8.toInt32)), .val (.int (p2.toInt8.toInt32)), .val (.int (p3.toInt8.toInt32)), .val (.int (p4.toInt8.toInt32)), .val (.int (3 : Int32)), .unset, .unset] [(.int (1 : Int32)), (.ref b25), (.ref b25)]))
    refine own_Fin.step (fun _ => XS.iload X27.here hx rfl (hb hby at_97) rfl) ?_
    show own_Fin p e below s _ _ _ (T27.setTop (mkF m 99 #[.val (.int p1), .val (.int p2), .val (.int p3), .val (.int p4), .val (.int p5), .val (.int (p1.toInt8.toInt32)), .val (.int (p2.toInt8.toInt32)), .val (.int (p3.toInt8.toInt32)), .val (.int (p4.toInt8.toInt32)), .val (.int (3 : Int32)), .unset, .unset] [(.int (p2.toInt8.toInt32)), (.int (1 : Int32)), (.ref b25), (.ref b25)]))
    obtain ⟨T29, h29, X29, e29, V29, W29, st29⟩ := own_stBn X27 hx hZ e27 V27' (j := (1 : Int32)) ⟨by decide, by decide⟩ (1) rfl (Nat.le_of_ble_eq_true rfl) (g := (mkF m 99 #[.val (.int p1), .val (.int p2), .val (.int p3), .val (.int p4), .val (.int p5), .val (.int (p1.toInt8.toInt32)), .val (.int (p2.toInt8.toInt32)), .val (.int (p3.toInt8.toInt32)), .val (.int (p4.toInt8.toInt32)), .val (.int (3 : Int32)), .unset, .unset] [(.int (p2.toInt8.toInt32)), (.int (1 : Int32)), (.ref b25), (.ref b25)])) rfl rfl (hb hby at_99)
    have V29' : Arv Z h29 b25 k25 .byte (3 : Int32) [(.int (p1.toInt8.toInt32)), (.int (p2.toInt8.toInt32)), (.int (0 : Int32))] (.int (0 : Int32)) := V29
    have N29 := Fr.snoc X29 N27 ge26
    have Z29 : n0 ≤ h29.size := Nat.le_trans Z27 (Nat.le_of_eq W29.size.symm)
    refine own_Fin.step st29 ?_
    show own_Fin p e below s _ _ _ (T29.setTop (mkF m 100 #[.val (.int p1), .val (.int p2), .val (.int p3), .val (.int p4), .val (.int p5), .val (.int (p1.toInt8.toInt32)), .val (.int (p2.toInt8.toInt32)), .val (.int (p3.toInt8.toInt32)), .val (.int (p4.toInt8.toInt32)), .val (.int (3 : Int32)), .unset, .unset] [(.ref b25)]))
    refine own_Fin.step (fun _ => XS.dup X29.here hx rfl (hb hby at_100) rfl rfl) ?_
    show own_Fin p e below s _ _ _ (T29.setTop (mkF m 101 #[.val (.int p1), .val (.int p2), .val (.int p3), .val (.int p4), .val (.int p5), .val (.int (p1.toInt8.toInt32)), .val (.int (p2.toInt8.toInt32)), .val (.int (p3.toInt8.toInt32)), .val (.int (p4.toInt8.toInt32)), .val (.int (3 : Int32)), .unset, .unset] [(.ref b25), (.ref b25)]))
    refine own_Fin.step (fun _ => XS.iconst X29.here hx rfl (hb hby at_101)) ?_
    show own_Fin p e below s _ _ _ (T29.setTop (mkF m 102 #[.val (.int p1), .val (.int p2), .val (.int p3), .val (.int p4), .val (.int p5), .val (.int (p1.toInt8.toInt32)), .val (.int (p2.toInt8.toInt32)), .val (.int (p3.toInt8.toInt32)), .val (.int (p4.toInt8.toInt32)), .val (.int (3 : Int32)), .unset, .unset] [(.int (2 : Int32)), (.ref b25), (.ref b25)]))
    refine own_Fin.step (fun _ => XS.iload X29.here hx rfl (hb hby at_102) rfl) ?_
    show own_Fin p e below s _ _ _ (T29.setTop (mkF m 104 #[.val (.int p1), .val (.int p2), .val (.int p3), .val (.int p4), .val (.int p5), .val (.int (p1.toInt8.toInt32)), .val (.int (p2.toInt8.toInt32)), .val (.int (p3.toInt8.toInt32)), .val (.int (p4.toInt8.toInt32)), .val (.int (3 : Int32)), .unset, .unset] [(.int (p3.toInt8.toInt32)), (.int (2 : Int32)), (.ref b25), (.ref b25)]))
    obtain ⟨T31, h31, X31, e31, V31, W31, st31⟩ := own_stBn X29 hx hZ e29 V29' (j := (2 : Int32)) ⟨by decide, by decide⟩ (2) rfl (Nat.le_of_ble_eq_true rfl) (g := (mkF m 104 #[.val (.int p1), .val (.int p2), .val (.int p3), .val (.int p4), .val (.int p5), .val (.int (p1.toInt8.toInt32)), .val (.int (p2.toInt8.toInt32)), .val (.int (p3.toInt8.toInt32)), .val (.int (p4.toInt8.toInt32)), .val (.int (3 : Int32)), .unset, .unset] [(.int (p3.toInt8.toInt32)), (.int (2 : Int32)), (.ref b25), (.ref b25)])) rfl rfl (hb hby at_104)
    have V31' : Arv Z h31 b25 k25 .byte (3 : Int32) [(.int (p1.toInt8.toInt32)), (.int (p2.toInt8.toInt32)), (.int (p3.toInt8.toInt32))] (.int (0 : Int32)) := V31
    have N31 := Fr.snoc X31 N29 ge26
    have Z31 : n0 ≤ h31.size := Nat.le_trans Z29 (Nat.le_of_eq W31.size.symm)
    refine own_Fin.step st31 ?_
    show own_Fin p e below s _ _ _ (T31.setTop (mkF m 105 #[.val (.int p1), .val (.int p2), .val (.int p3), .val (.int p4), .val (.int p5), .val (.int (p1.toInt8.toInt32)), .val (.int (p2.toInt8.toInt32)), .val (.int (p3.toInt8.toInt32)), .val (.int (p4.toInt8.toInt32)), .val (.int (3 : Int32)), .unset, .unset] [(.ref b25)]))
    refine own_Fin.step (fun _ => XS.astore X31.here hx rfl (hb hby at_105) rfl rfl (l' := #[.val (.int p1), .val (.int p2), .val (.int p3), .val (.int p4), .val (.int p5), .val (.int (p1.toInt8.toInt32)), .val (.int (p2.toInt8.toInt32)), .val (.int (p3.toInt8.toInt32)), .val (.int (p4.toInt8.toInt32)), .val (.int (3 : Int32)), .val (.ref b25), .unset]) rfl) ?_
    show own_Fin p e below s _ _ _ (T31.setTop (mkF m 107 #[.val (.int p1), .val (.int p2), .val (.int p3), .val (.int p4), .val (.int p5), .val (.int (p1.toInt8.toInt32)), .val (.int (p2.toInt8.toInt32)), .val (.int (p3.toInt8.toInt32)), .val (.int (p4.toInt8.toInt32)), .val (.int (3 : Int32)), .val (.ref b25), .unset] []))
    refine own_Fin.step (fun _ => XS.goto X31.here hx rfl (pc0 := 107) (pc' := 135) rfl (hb hby at_107) (by decide) (by decide)) ?_
    show own_Fin p e below s _ _ _ (T31.setTop (mkF m 135 #[.val (.int p1), .val (.int p2), .val (.int p3), .val (.int p4), .val (.int p5), .val (.int (p1.toInt8.toInt32)), .val (.int (p2.toInt8.toInt32)), .val (.int (p3.toInt8.toInt32)), .val (.int (p4.toInt8.toInt32)), .val (.int (3 : Int32)), .val (.ref b25), .unset] []))
    refine own_Fin.step (fun _ => XS.iload X31.here hx rfl (hb hby at_135) rfl) ?_
    show own_Fin p e below s _ _ _ (T31.setTop (mkF m 137 #[.val (.int p1), .val (.int p2), .val (.int p3), .val (.int p4), .val (.int p5), .val (.int (p1.toInt8.toInt32)), .val (.int (p2.toInt8.toInt32)), .val (.int (p3.toInt8.toInt32)), .val (.int (p4.toInt8.toInt32)), .val (.int (3 : Int32)), .val (.ref b25), .unset] [(.int (3 : Int32))]))
    refine own_Fin.step (fun _ => XS.iconst X31.here hx rfl (hb hby at_137)) ?_
    show own_Fin p e below s _ _ _ (T31.setTop (mkF m 138 #[.val (.int p1), .val (.int p2), .val (.int p3), .val (.int p4), .val (.int p5), .val (.int (p1.toInt8.toInt32)), .val (.int (p2.toInt8.toInt32)), .val (.int (p3.toInt8.toInt32)), .val (.int (p4.toInt8.toInt32)), .val (.int (3 : Int32)), .val (.ref b25), .unset] [(.int (1 : Int32)), (.int (3 : Int32))]))
    refine own_Fin.step (fun _ => XS.icmpNo X31.here hx rfl (hb hby at_138) rfl (XT.ii_lt_f (by decide : ¬ ((3 : Int32) < (1 : Int32))))) ?_
    show own_Fin p e below s _ _ _ (T31.setTop (mkF m 141 #[.val (.int p1), .val (.int p2), .val (.int p3), .val (.int p4), .val (.int p5), .val (.int (p1.toInt8.toInt32)), .val (.int (p2.toInt8.toInt32)), .val (.int (p3.toInt8.toInt32)), .val (.int (p4.toInt8.toInt32)), .val (.int (3 : Int32)), .val (.ref b25), .unset] []))
    refine own_Fin.step (fun _ => XS.iload X31.here hx rfl (hb hby at_141) rfl) ?_
    show own_Fin p e below s _ _ _ (T31.setTop (mkF m 143 #[.val (.int p1), .val (.int p2), .val (.int p3), .val (.int p4), .val (.int p5), .val (.int (p1.toInt8.toInt32)), .val (.int (p2.toInt8.toInt32)), .val (.int (p3.toInt8.toInt32)), .val (.int (p4.toInt8.toInt32)), .val (.int (3 : Int32)), .val (.ref b25), .unset] [(.int (p1.toInt8.toInt32))]))
    obtain ⟨_, T33, L33, X33, ⟨rfl, N33q, e33⟩, st33⟩ := own_callS X31 hx hZ hown (own_w hw 5 rfl) (own_w hw 6 rfl) (own_w hw 7 rfl) (own_w hw 8 rfl) (by decide) (rm2 l Z a0 hw (p1.toInt8.toInt32) h31 n0 Z31) (by decide) (by decide) e31 (W := 0) (g := (mkF m 143 #[.val (.int p1), .val (.int p2), .val (.int p3), .val (.int p4), .val (.int p5), .val (.int (p1.toInt8.toInt32)), .val (.int (p2.toInt8.toInt32)), .val (.int (p3.toInt8.toInt32)), .val (.int (p4.toInt8.toInt32)), .val (.int (3 : Int32)), .val (.ref b25), .unset] [(.int (p1.toInt8.toInt32))])) rfl (by rw [hml]; rfl) (argsL := [(.int (p1.toInt8.toInt32))]) (rest := []) (lenOf pd_1 rfl) rfl rfl (by show 2 * 0 + _ ≤ _; exact Nat.le_of_eq rfl) (hb hby at_143) (by decide) (by decide)
    have N33 := Fr.app N31 N33q
    refine own_Fin.step st33 ?_
    show own_Fin p e below s _ _ _ (T33.setTop (mkF m 146 #[.val (.int p1), .val (.int p2), .val (.int p3), .val (.int p4), .val (.int p5), .val (.int (p1.toInt8.toInt32)), .val (.int (p2.toInt8.toInt32)), .val (.int (p3.toInt8.toInt32)), .val (.int (p4.toInt8.toInt32)), .val (.int (3 : Int32)), .val (.ref b25), .unset] [(.int (own_okb (p1.toInt8.toInt32)))]))
    by_cases hc146_34 : (own_okb (p1.toInt8.toInt32)) = (0 : Int32)
    ·
      refine own_Fin.step (fun _ => XS.ifYes X33.here hx rfl (pc0 := 146) (pc' := 195) rfl (hb hby at_146) rfl (XT.i0_eq_t hc146_34) (by decide) (by decide)) ?_
      show own_Fin p e below s _ _ _ (T33.setTop (mkF m 195 #[.val (.int p1), .val (.int p2), .val (.int p3), .val (.int p4), .val (.int p5), .val (.int (p1.toInt8.toInt32)), .val (.int (p2.toInt8.toInt32)), .val (.int (p3.toInt8.toInt32)), .val (.int (p4.toInt8.toInt32)), .val (.int (3 : Int32)), .val (.ref b25), .unset] []))
      refine own_Fin.step (fun _ => XS.iconst X33.here hx rfl (hb hby at_195)) ?_
      show own_Fin p e below s _ _ _ (T33.setTop (mkF m 196 #[.val (.int p1), .val (.int p2), .val (.int p3), .val (.int p4), .val (.int p5), .val (.int (p1.toInt8.toInt32)), .val (.int (p2.toInt8.toInt32)), .val (.int (p3.toInt8.toInt32)), .val (.int (p4.toInt8.toInt32)), .val (.int (3 : Int32)), .val (.ref b25), .unset] [(.int (0 : Int32))]))
      refine own_Fin.step (fun _ => XS.istore X33.here hx rfl (hb hby at_196) rfl (l' := #[.val (.int p1), .val (.int p2), .val (.int p3), .val (.int p4), .val (.int p5), .val (.int (p1.toInt8.toInt32)), .val (.int (p2.toInt8.toInt32)), .val (.int (p3.toInt8.toInt32)), .val (.int (p4.toInt8.toInt32)), .val (.int (3 : Int32)), .val (.ref b25), .val (.int (0 : Int32))]) rfl) ?_
      show own_Fin p e below s _ _ _ (T33.setTop (mkF m 198 #[.val (.int p1), .val (.int p2), .val (.int p3), .val (.int p4), .val (.int p5), .val (.int (p1.toInt8.toInt32)), .val (.int (p2.toInt8.toInt32)), .val (.int (p3.toInt8.toInt32)), .val (.int (p4.toInt8.toInt32)), .val (.int (3 : Int32)), .val (.ref b25), .val (.int (0 : Int32))] []))
      refine own_Fin.step (fun _ => XS.aload X33.here hx rfl (hb hby at_198) rfl rfl) ?_
      show own_Fin p e below s _ _ _ (T33.setTop (mkF m 200 #[.val (.int p1), .val (.int p2), .val (.int p3), .val (.int p4), .val (.int p5), .val (.int (p1.toInt8.toInt32)), .val (.int (p2.toInt8.toInt32)), .val (.int (p3.toInt8.toInt32)), .val (.int (p4.toInt8.toInt32)), .val (.int (3 : Int32)), .val (.ref b25), .val (.int (0 : Int32))] [(.ref b25)]))
      obtain ⟨_, T35, L35, X35, ⟨rfl, N35q, e35⟩, st35⟩ := own_callS X33 hx hZ hown (own_w hw 1 rfl) (own_w hw 2 rfl) (own_w hw 3 rfl) (own_w hw 4 rfl) (by decide) (rm1 l Z a0 hw b25 k25 (3 : Int32) [(p1.toInt8.toInt32), (p2.toInt8.toInt32), (p3.toInt8.toInt32)] (.int (0 : Int32)) h31 n0 Z31 V31' rfl) (by decide) (by decide) e33 (W := 0) (g := (mkF m 200 #[.val (.int p1), .val (.int p2), .val (.int p3), .val (.int p4), .val (.int p5), .val (.int (p1.toInt8.toInt32)), .val (.int (p2.toInt8.toInt32)), .val (.int (p3.toInt8.toInt32)), .val (.int (p4.toInt8.toInt32)), .val (.int (3 : Int32)), .val (.ref b25), .val (.int (0 : Int32))] [(.ref b25)])) rfl (by rw [hml]; rfl) (argsL := [(.ref b25)]) (rest := []) (lenOf pd_0 rfl) rfl rfl (by show 2 * 0 + _ ≤ _; exact Nat.le_of_eq rfl) (hb hby at_200) (by decide) (by decide)
      have N35 := Fr.app N33 N35q
      refine own_Fin.step st35 ?_
      show own_Fin p e below s _ _ _ (T35.setTop (mkF m 203 #[.val (.int p1), .val (.int p2), .val (.int p3), .val (.int p4), .val (.int p5), .val (.int (p1.toInt8.toInt32)), .val (.int (p2.toInt8.toInt32)), .val (.int (p3.toInt8.toInt32)), .val (.int (p4.toInt8.toInt32)), .val (.int (3 : Int32)), .val (.ref b25), .val (.int (0 : Int32))] [(.int (own_plain [(p1.toInt8.toInt32), (p2.toInt8.toInt32), (p3.toInt8.toInt32)]))]))
      refine own_Fin.step (fun _ => XS.iload X35.here hx rfl (hb hby at_203) rfl) ?_
      show own_Fin p e below s _ _ _ (T35.setTop (mkF m 205 #[.val (.int p1), .val (.int p2), .val (.int p3), .val (.int p4), .val (.int p5), .val (.int (p1.toInt8.toInt32)), .val (.int (p2.toInt8.toInt32)), .val (.int (p3.toInt8.toInt32)), .val (.int (p4.toInt8.toInt32)), .val (.int (3 : Int32)), .val (.ref b25), .val (.int (0 : Int32))] [(.int (0 : Int32)), (.int (own_plain [(p1.toInt8.toInt32), (p2.toInt8.toInt32), (p3.toInt8.toInt32)]))]))
      refine own_Fin.step (fun _ => XS.icmpNo X35.here hx rfl (hb hby at_205) rfl (XT.ii_ne_f (by rw [own_pl, if_pos hc146_34]))) ?_
      show own_Fin p e below s _ _ _ (T35.setTop (mkF m 208 #[.val (.int p1), .val (.int p2), .val (.int p3), .val (.int p4), .val (.int p5), .val (.int (p1.toInt8.toInt32)), .val (.int (p2.toInt8.toInt32)), .val (.int (p3.toInt8.toInt32)), .val (.int (p4.toInt8.toInt32)), .val (.int (3 : Int32)), .val (.ref b25), .val (.int (0 : Int32))] []))
      refine own_Fin.step (fun _ => XS.iconst X35.here hx rfl (hb hby at_208)) ?_
      show own_Fin p e below s _ _ _ (T35.setTop (mkF m 209 #[.val (.int p1), .val (.int p2), .val (.int p3), .val (.int p4), .val (.int p5), .val (.int (p1.toInt8.toInt32)), .val (.int (p2.toInt8.toInt32)), .val (.int (p3.toInt8.toInt32)), .val (.int (p4.toInt8.toInt32)), .val (.int (3 : Int32)), .val (.ref b25), .val (.int (0 : Int32))] [(.int (1 : Int32))]))
      refine own_Fin.step (fun _ => XS.goto X35.here hx rfl (pc0 := 209) (pc' := 213) rfl (hb hby at_209) (by decide) (by decide)) ?_
      show own_Fin p e below s _ _ _ (T35.setTop (mkF m 213 #[.val (.int p1), .val (.int p2), .val (.int p3), .val (.int p4), .val (.int p5), .val (.int (p1.toInt8.toInt32)), .val (.int (p2.toInt8.toInt32)), .val (.int (p3.toInt8.toInt32)), .val (.int (p4.toInt8.toInt32)), .val (.int (3 : Int32)), .val (.ref b25), .val (.int (0 : Int32))] [(.int (1 : Int32))]))
      exact own_retN X35 hx hlk (t := .boolean) hret (by simp) (hb hby at_213) ⟨rfl, N35⟩ (by decide) (by decide)
    ·
      refine own_Fin.step (fun _ => XS.ifNo X33.here hx rfl (hb hby at_146) rfl (XT.i0_eq_f hc146_34)) ?_
      show own_Fin p e below s _ _ _ (T33.setTop (mkF m 149 #[.val (.int p1), .val (.int p2), .val (.int p3), .val (.int p4), .val (.int p5), .val (.int (p1.toInt8.toInt32)), .val (.int (p2.toInt8.toInt32)), .val (.int (p3.toInt8.toInt32)), .val (.int (p4.toInt8.toInt32)), .val (.int (3 : Int32)), .val (.ref b25), .unset] []))
      refine own_Fin.step (fun _ => XS.iload X33.here hx rfl (hb hby at_149) rfl) ?_
      show own_Fin p e below s _ _ _ (T33.setTop (mkF m 151 #[.val (.int p1), .val (.int p2), .val (.int p3), .val (.int p4), .val (.int p5), .val (.int (p1.toInt8.toInt32)), .val (.int (p2.toInt8.toInt32)), .val (.int (p3.toInt8.toInt32)), .val (.int (p4.toInt8.toInt32)), .val (.int (3 : Int32)), .val (.ref b25), .unset] [(.int (3 : Int32))]))
      refine own_Fin.step (fun _ => XS.iconst X33.here hx rfl (hb hby at_151)) ?_
      show own_Fin p e below s _ _ _ (T33.setTop (mkF m 152 #[.val (.int p1), .val (.int p2), .val (.int p3), .val (.int p4), .val (.int p5), .val (.int (p1.toInt8.toInt32)), .val (.int (p2.toInt8.toInt32)), .val (.int (p3.toInt8.toInt32)), .val (.int (p4.toInt8.toInt32)), .val (.int (3 : Int32)), .val (.ref b25), .unset] [(.int (2 : Int32)), (.int (3 : Int32))]))
      refine own_Fin.step (fun _ => XS.icmpNo X33.here hx rfl (hb hby at_152) rfl (XT.ii_lt_f (by decide : ¬ ((3 : Int32) < (2 : Int32))))) ?_
      show own_Fin p e below s _ _ _ (T33.setTop (mkF m 155 #[.val (.int p1), .val (.int p2), .val (.int p3), .val (.int p4), .val (.int p5), .val (.int (p1.toInt8.toInt32)), .val (.int (p2.toInt8.toInt32)), .val (.int (p3.toInt8.toInt32)), .val (.int (p4.toInt8.toInt32)), .val (.int (3 : Int32)), .val (.ref b25), .unset] []))
      refine own_Fin.step (fun _ => XS.iload X33.here hx rfl (hb hby at_155) rfl) ?_
      show own_Fin p e below s _ _ _ (T33.setTop (mkF m 157 #[.val (.int p1), .val (.int p2), .val (.int p3), .val (.int p4), .val (.int p5), .val (.int (p1.toInt8.toInt32)), .val (.int (p2.toInt8.toInt32)), .val (.int (p3.toInt8.toInt32)), .val (.int (p4.toInt8.toInt32)), .val (.int (3 : Int32)), .val (.ref b25), .unset] [(.int (p2.toInt8.toInt32))]))
      obtain ⟨_, T36, L36, X36, ⟨rfl, N36q, e36⟩, st36⟩ := own_callS X33 hx hZ hown (own_w hw 5 rfl) (own_w hw 6 rfl) (own_w hw 7 rfl) (own_w hw 8 rfl) (by decide) (rm2 l Z a0 hw (p2.toInt8.toInt32) h31 n0 Z31) (by decide) (by decide) e33 (W := 0) (g := (mkF m 157 #[.val (.int p1), .val (.int p2), .val (.int p3), .val (.int p4), .val (.int p5), .val (.int (p1.toInt8.toInt32)), .val (.int (p2.toInt8.toInt32)), .val (.int (p3.toInt8.toInt32)), .val (.int (p4.toInt8.toInt32)), .val (.int (3 : Int32)), .val (.ref b25), .unset] [(.int (p2.toInt8.toInt32))])) rfl (by rw [hml]; rfl) (argsL := [(.int (p2.toInt8.toInt32))]) (rest := []) (lenOf pd_1 rfl) rfl rfl (by show 2 * 0 + _ ≤ _; exact Nat.le_of_eq rfl) (hb hby at_157) (by decide) (by decide)
      have N36 := Fr.app N33 N36q
      refine own_Fin.step st36 ?_
      show own_Fin p e below s _ _ _ (T36.setTop (mkF m 160 #[.val (.int p1), .val (.int p2), .val (.int p3), .val (.int p4), .val (.int p5), .val (.int (p1.toInt8.toInt32)), .val (.int (p2.toInt8.toInt32)), .val (.int (p3.toInt8.toInt32)), .val (.int (p4.toInt8.toInt32)), .val (.int (3 : Int32)), .val (.ref b25), .unset] [(.int (own_okb (p2.toInt8.toInt32)))]))
      by_cases hc160_37 : (own_okb (p2.toInt8.toInt32)) = (0 : Int32)
      ·
        refine own_Fin.step (fun _ => XS.ifYes X36.here hx rfl (pc0 := 160) (pc' := 195) rfl (hb hby at_160) rfl (XT.i0_eq_t hc160_37) (by decide) (by decide)) ?_
        show own_Fin p e below s _ _ _ (T36.setTop (mkF m 195 #[.val (.int p1), .val (.int p2), .val (.int p3), .val (.int p4), .val (.int p5), .val (.int (p1.toInt8.toInt32)), .val (.int (p2.toInt8.toInt32)), .val (.int (p3.toInt8.toInt32)), .val (.int (p4.toInt8.toInt32)), .val (.int (3 : Int32)), .val (.ref b25), .unset] []))
        refine own_Fin.step (fun _ => XS.iconst X36.here hx rfl (hb hby at_195)) ?_
        show own_Fin p e below s _ _ _ (T36.setTop (mkF m 196 #[.val (.int p1), .val (.int p2), .val (.int p3), .val (.int p4), .val (.int p5), .val (.int (p1.toInt8.toInt32)), .val (.int (p2.toInt8.toInt32)), .val (.int (p3.toInt8.toInt32)), .val (.int (p4.toInt8.toInt32)), .val (.int (3 : Int32)), .val (.ref b25), .unset] [(.int (0 : Int32))]))
        refine own_Fin.step (fun _ => XS.istore X36.here hx rfl (hb hby at_196) rfl (l' := #[.val (.int p1), .val (.int p2), .val (.int p3), .val (.int p4), .val (.int p5), .val (.int (p1.toInt8.toInt32)), .val (.int (p2.toInt8.toInt32)), .val (.int (p3.toInt8.toInt32)), .val (.int (p4.toInt8.toInt32)), .val (.int (3 : Int32)), .val (.ref b25), .val (.int (0 : Int32))]) rfl) ?_
        show own_Fin p e below s _ _ _ (T36.setTop (mkF m 198 #[.val (.int p1), .val (.int p2), .val (.int p3), .val (.int p4), .val (.int p5), .val (.int (p1.toInt8.toInt32)), .val (.int (p2.toInt8.toInt32)), .val (.int (p3.toInt8.toInt32)), .val (.int (p4.toInt8.toInt32)), .val (.int (3 : Int32)), .val (.ref b25), .val (.int (0 : Int32))] []))
        refine own_Fin.step (fun _ => XS.aload X36.here hx rfl (hb hby at_198) rfl rfl) ?_
        show own_Fin p e below s _ _ _ (T36.setTop (mkF m 200 #[.val (.int p1), .val (.int p2), .val (.int p3), .val (.int p4), .val (.int p5), .val (.int (p1.toInt8.toInt32)), .val (.int (p2.toInt8.toInt32)), .val (.int (p3.toInt8.toInt32)), .val (.int (p4.toInt8.toInt32)), .val (.int (3 : Int32)), .val (.ref b25), .val (.int (0 : Int32))] [(.ref b25)]))
        obtain ⟨_, T38, L38, X38, ⟨rfl, N38q, e38⟩, st38⟩ := own_callS X36 hx hZ hown (own_w hw 1 rfl) (own_w hw 2 rfl) (own_w hw 3 rfl) (own_w hw 4 rfl) (by decide) (rm1 l Z a0 hw b25 k25 (3 : Int32) [(p1.toInt8.toInt32), (p2.toInt8.toInt32), (p3.toInt8.toInt32)] (.int (0 : Int32)) h31 n0 Z31 V31' rfl) (by decide) (by decide) e36 (W := 0) (g := (mkF m 200 #[.val (.int p1), .val (.int p2), .val (.int p3), .val (.int p4), .val (.int p5), .val (.int (p1.toInt8.toInt32)), .val (.int (p2.toInt8.toInt32)), .val (.int (p3.toInt8.toInt32)), .val (.int (p4.toInt8.toInt32)), .val (.int (3 : Int32)), .val (.ref b25), .val (.int (0 : Int32))] [(.ref b25)])) rfl (by rw [hml]; rfl) (argsL := [(.ref b25)]) (rest := []) (lenOf pd_0 rfl) rfl rfl (by show 2 * 0 + _ ≤ _; exact Nat.le_of_eq rfl) (hb hby at_200) (by decide) (by decide)
        have N38 := Fr.app N36 N38q
        refine own_Fin.step st38 ?_
        show own_Fin p e below s _ _ _ (T38.setTop (mkF m 203 #[.val (.int p1), .val (.int p2), .val (.int p3), .val (.int p4), .val (.int p5), .val (.int (p1.toInt8.toInt32)), .val (.int (p2.toInt8.toInt32)), .val (.int (p3.toInt8.toInt32)), .val (.int (p4.toInt8.toInt32)), .val (.int (3 : Int32)), .val (.ref b25), .val (.int (0 : Int32))] [(.int (own_plain [(p1.toInt8.toInt32), (p2.toInt8.toInt32), (p3.toInt8.toInt32)]))]))
        refine own_Fin.step (fun _ => XS.iload X38.here hx rfl (hb hby at_203) rfl) ?_
        show own_Fin p e below s _ _ _ (T38.setTop (mkF m 205 #[.val (.int p1), .val (.int p2), .val (.int p3), .val (.int p4), .val (.int p5), .val (.int (p1.toInt8.toInt32)), .val (.int (p2.toInt8.toInt32)), .val (.int (p3.toInt8.toInt32)), .val (.int (p4.toInt8.toInt32)), .val (.int (3 : Int32)), .val (.ref b25), .val (.int (0 : Int32))] [(.int (0 : Int32)), (.int (own_plain [(p1.toInt8.toInt32), (p2.toInt8.toInt32), (p3.toInt8.toInt32)]))]))
        refine own_Fin.step (fun _ => XS.icmpNo X38.here hx rfl (hb hby at_205) rfl (XT.ii_ne_f (by rw [own_pl, if_neg hc146_34, own_pl, if_pos hc160_37]))) ?_
        show own_Fin p e below s _ _ _ (T38.setTop (mkF m 208 #[.val (.int p1), .val (.int p2), .val (.int p3), .val (.int p4), .val (.int p5), .val (.int (p1.toInt8.toInt32)), .val (.int (p2.toInt8.toInt32)), .val (.int (p3.toInt8.toInt32)), .val (.int (p4.toInt8.toInt32)), .val (.int (3 : Int32)), .val (.ref b25), .val (.int (0 : Int32))] []))
        refine own_Fin.step (fun _ => XS.iconst X38.here hx rfl (hb hby at_208)) ?_
        show own_Fin p e below s _ _ _ (T38.setTop (mkF m 209 #[.val (.int p1), .val (.int p2), .val (.int p3), .val (.int p4), .val (.int p5), .val (.int (p1.toInt8.toInt32)), .val (.int (p2.toInt8.toInt32)), .val (.int (p3.toInt8.toInt32)), .val (.int (p4.toInt8.toInt32)), .val (.int (3 : Int32)), .val (.ref b25), .val (.int (0 : Int32))] [(.int (1 : Int32))]))
        refine own_Fin.step (fun _ => XS.goto X38.here hx rfl (pc0 := 209) (pc' := 213) rfl (hb hby at_209) (by decide) (by decide)) ?_
        show own_Fin p e below s _ _ _ (T38.setTop (mkF m 213 #[.val (.int p1), .val (.int p2), .val (.int p3), .val (.int p4), .val (.int p5), .val (.int (p1.toInt8.toInt32)), .val (.int (p2.toInt8.toInt32)), .val (.int (p3.toInt8.toInt32)), .val (.int (p4.toInt8.toInt32)), .val (.int (3 : Int32)), .val (.ref b25), .val (.int (0 : Int32))] [(.int (1 : Int32))]))
        exact own_retN X38 hx hlk (t := .boolean) hret (by simp) (hb hby at_213) ⟨rfl, N38⟩ (by decide) (by decide)
      ·
        refine own_Fin.step (fun _ => XS.ifNo X36.here hx rfl (hb hby at_160) rfl (XT.i0_eq_f hc160_37)) ?_
        show own_Fin p e below s _ _ _ (T36.setTop (mkF m 163 #[.val (.int p1), .val (.int p2), .val (.int p3), .val (.int p4), .val (.int p5), .val (.int (p1.toInt8.toInt32)), .val (.int (p2.toInt8.toInt32)), .val (.int (p3.toInt8.toInt32)), .val (.int (p4.toInt8.toInt32)), .val (.int (3 : Int32)), .val (.ref b25), .unset] []))
        refine own_Fin.step (fun _ => XS.iload X36.here hx rfl (hb hby at_163) rfl) ?_
        show own_Fin p e below s _ _ _ (T36.setTop (mkF m 165 #[.val (.int p1), .val (.int p2), .val (.int p3), .val (.int p4), .val (.int p5), .val (.int (p1.toInt8.toInt32)), .val (.int (p2.toInt8.toInt32)), .val (.int (p3.toInt8.toInt32)), .val (.int (p4.toInt8.toInt32)), .val (.int (3 : Int32)), .val (.ref b25), .unset] [(.int (3 : Int32))]))
        refine own_Fin.step (fun _ => XS.iconst X36.here hx rfl (hb hby at_165)) ?_
        show own_Fin p e below s _ _ _ (T36.setTop (mkF m 166 #[.val (.int p1), .val (.int p2), .val (.int p3), .val (.int p4), .val (.int p5), .val (.int (p1.toInt8.toInt32)), .val (.int (p2.toInt8.toInt32)), .val (.int (p3.toInt8.toInt32)), .val (.int (p4.toInt8.toInt32)), .val (.int (3 : Int32)), .val (.ref b25), .unset] [(.int (3 : Int32)), (.int (3 : Int32))]))
        refine own_Fin.step (fun _ => XS.icmpNo X36.here hx rfl (hb hby at_166) rfl (XT.ii_lt_f (by decide : ¬ ((3 : Int32) < (3 : Int32))))) ?_
        show own_Fin p e below s _ _ _ (T36.setTop (mkF m 169 #[.val (.int p1), .val (.int p2), .val (.int p3), .val (.int p4), .val (.int p5), .val (.int (p1.toInt8.toInt32)), .val (.int (p2.toInt8.toInt32)), .val (.int (p3.toInt8.toInt32)), .val (.int (p4.toInt8.toInt32)), .val (.int (3 : Int32)), .val (.ref b25), .unset] []))
        refine own_Fin.step (fun _ => XS.iload X36.here hx rfl (hb hby at_169) rfl) ?_
        show own_Fin p e below s _ _ _ (T36.setTop (mkF m 171 #[.val (.int p1), .val (.int p2), .val (.int p3), .val (.int p4), .val (.int p5), .val (.int (p1.toInt8.toInt32)), .val (.int (p2.toInt8.toInt32)), .val (.int (p3.toInt8.toInt32)), .val (.int (p4.toInt8.toInt32)), .val (.int (3 : Int32)), .val (.ref b25), .unset] [(.int (p3.toInt8.toInt32))]))
        obtain ⟨_, T39, L39, X39, ⟨rfl, N39q, e39⟩, st39⟩ := own_callS X36 hx hZ hown (own_w hw 5 rfl) (own_w hw 6 rfl) (own_w hw 7 rfl) (own_w hw 8 rfl) (by decide) (rm2 l Z a0 hw (p3.toInt8.toInt32) h31 n0 Z31) (by decide) (by decide) e36 (W := 0) (g := (mkF m 171 #[.val (.int p1), .val (.int p2), .val (.int p3), .val (.int p4), .val (.int p5), .val (.int (p1.toInt8.toInt32)), .val (.int (p2.toInt8.toInt32)), .val (.int (p3.toInt8.toInt32)), .val (.int (p4.toInt8.toInt32)), .val (.int (3 : Int32)), .val (.ref b25), .unset] [(.int (p3.toInt8.toInt32))])) rfl (by rw [hml]; rfl) (argsL := [(.int (p3.toInt8.toInt32))]) (rest := []) (lenOf pd_1 rfl) rfl rfl (by show 2 * 0 + _ ≤ _; exact Nat.le_of_eq rfl) (hb hby at_171) (by decide) (by decide)
        have N39 := Fr.app N36 N39q
        refine own_Fin.step st39 ?_
        show own_Fin p e below s _ _ _ (T39.setTop (mkF m 174 #[.val (.int p1), .val (.int p2), .val (.int p3), .val (.int p4), .val (.int p5), .val (.int (p1.toInt8.toInt32)), .val (.int (p2.toInt8.toInt32)), .val (.int (p3.toInt8.toInt32)), .val (.int (p4.toInt8.toInt32)), .val (.int (3 : Int32)), .val (.ref b25), .unset] [(.int (own_okb (p3.toInt8.toInt32)))]))
        by_cases hc174_40 : (own_okb (p3.toInt8.toInt32)) = (0 : Int32)
        ·
          refine own_Fin.step (fun _ => XS.ifYes X39.here hx rfl (pc0 := 174) (pc' := 195) rfl (hb hby at_174) rfl (XT.i0_eq_t hc174_40) (by decide) (by decide)) ?_
          show own_Fin p e below s _ _ _ (T39.setTop (mkF m 195 #[.val (.int p1), .val (.int p2), .val (.int p3), .val (.int p4), .val (.int p5), .val (.int (p1.toInt8.toInt32)), .val (.int (p2.toInt8.toInt32)), .val (.int (p3.toInt8.toInt32)), .val (.int (p4.toInt8.toInt32)), .val (.int (3 : Int32)), .val (.ref b25), .unset] []))
          refine own_Fin.step (fun _ => XS.iconst X39.here hx rfl (hb hby at_195)) ?_
          show own_Fin p e below s _ _ _ (T39.setTop (mkF m 196 #[.val (.int p1), .val (.int p2), .val (.int p3), .val (.int p4), .val (.int p5), .val (.int (p1.toInt8.toInt32)), .val (.int (p2.toInt8.toInt32)), .val (.int (p3.toInt8.toInt32)), .val (.int (p4.toInt8.toInt32)), .val (.int (3 : Int32)), .val (.ref b25), .unset] [(.int (0 : Int32))]))
          refine own_Fin.step (fun _ => XS.istore X39.here hx rfl (hb hby at_196) rfl (l' := #[.val (.int p1), .val (.int p2), .val (.int p3), .val (.int p4), .val (.int p5), .val (.int (p1.toInt8.toInt32)), .val (.int (p2.toInt8.toInt32)), .val (.int (p3.toInt8.toInt32)), .val (.int (p4.toInt8.toInt32)), .val (.int (3 : Int32)), .val (.ref b25), .val (.int (0 : Int32))]) rfl) ?_
          show own_Fin p e below s _ _ _ (T39.setTop (mkF m 198 #[.val (.int p1), .val (.int p2), .val (.int p3), .val (.int p4), .val (.int p5), .val (.int (p1.toInt8.toInt32)), .val (.int (p2.toInt8.toInt32)), .val (.int (p3.toInt8.toInt32)), .val (.int (p4.toInt8.toInt32)), .val (.int (3 : Int32)), .val (.ref b25), .val (.int (0 : Int32))] []))
          refine own_Fin.step (fun _ => XS.aload X39.here hx rfl (hb hby at_198) rfl rfl) ?_
          show own_Fin p e below s _ _ _ (T39.setTop (mkF m 200 #[.val (.int p1), .val (.int p2), .val (.int p3), .val (.int p4), .val (.int p5), .val (.int (p1.toInt8.toInt32)), .val (.int (p2.toInt8.toInt32)), .val (.int (p3.toInt8.toInt32)), .val (.int (p4.toInt8.toInt32)), .val (.int (3 : Int32)), .val (.ref b25), .val (.int (0 : Int32))] [(.ref b25)]))
          obtain ⟨_, T41, L41, X41, ⟨rfl, N41q, e41⟩, st41⟩ := own_callS X39 hx hZ hown (own_w hw 1 rfl) (own_w hw 2 rfl) (own_w hw 3 rfl) (own_w hw 4 rfl) (by decide) (rm1 l Z a0 hw b25 k25 (3 : Int32) [(p1.toInt8.toInt32), (p2.toInt8.toInt32), (p3.toInt8.toInt32)] (.int (0 : Int32)) h31 n0 Z31 V31' rfl) (by decide) (by decide) e39 (W := 0) (g := (mkF m 200 #[.val (.int p1), .val (.int p2), .val (.int p3), .val (.int p4), .val (.int p5), .val (.int (p1.toInt8.toInt32)), .val (.int (p2.toInt8.toInt32)), .val (.int (p3.toInt8.toInt32)), .val (.int (p4.toInt8.toInt32)), .val (.int (3 : Int32)), .val (.ref b25), .val (.int (0 : Int32))] [(.ref b25)])) rfl (by rw [hml]; rfl) (argsL := [(.ref b25)]) (rest := []) (lenOf pd_0 rfl) rfl rfl (by show 2 * 0 + _ ≤ _; exact Nat.le_of_eq rfl) (hb hby at_200) (by decide) (by decide)
          have N41 := Fr.app N39 N41q
          refine own_Fin.step st41 ?_
          show own_Fin p e below s _ _ _ (T41.setTop (mkF m 203 #[.val (.int p1), .val (.int p2), .val (.int p3), .val (.int p4), .val (.int p5), .val (.int (p1.toInt8.toInt32)), .val (.int (p2.toInt8.toInt32)), .val (.int (p3.toInt8.toInt32)), .val (.int (p4.toInt8.toInt32)), .val (.int (3 : Int32)), .val (.ref b25), .val (.int (0 : Int32))] [(.int (own_plain [(p1.toInt8.toInt32), (p2.toInt8.toInt32), (p3.toInt8.toInt32)]))]))
          refine own_Fin.step (fun _ => XS.iload X41.here hx rfl (hb hby at_203) rfl) ?_
          show own_Fin p e below s _ _ _ (T41.setTop (mkF m 205 #[.val (.int p1), .val (.int p2), .val (.int p3), .val (.int p4), .val (.int p5), .val (.int (p1.toInt8.toInt32)), .val (.int (p2.toInt8.toInt32)), .val (.int (p3.toInt8.toInt32)), .val (.int (p4.toInt8.toInt32)), .val (.int (3 : Int32)), .val (.ref b25), .val (.int (0 : Int32))] [(.int (0 : Int32)), (.int (own_plain [(p1.toInt8.toInt32), (p2.toInt8.toInt32), (p3.toInt8.toInt32)]))]))
          refine own_Fin.step (fun _ => XS.icmpNo X41.here hx rfl (hb hby at_205) rfl (XT.ii_ne_f (by rw [own_pl, if_neg hc146_34, own_pl, if_neg hc160_37, own_pl, if_pos hc174_40]))) ?_
          show own_Fin p e below s _ _ _ (T41.setTop (mkF m 208 #[.val (.int p1), .val (.int p2), .val (.int p3), .val (.int p4), .val (.int p5), .val (.int (p1.toInt8.toInt32)), .val (.int (p2.toInt8.toInt32)), .val (.int (p3.toInt8.toInt32)), .val (.int (p4.toInt8.toInt32)), .val (.int (3 : Int32)), .val (.ref b25), .val (.int (0 : Int32))] []))
          refine own_Fin.step (fun _ => XS.iconst X41.here hx rfl (hb hby at_208)) ?_
          show own_Fin p e below s _ _ _ (T41.setTop (mkF m 209 #[.val (.int p1), .val (.int p2), .val (.int p3), .val (.int p4), .val (.int p5), .val (.int (p1.toInt8.toInt32)), .val (.int (p2.toInt8.toInt32)), .val (.int (p3.toInt8.toInt32)), .val (.int (p4.toInt8.toInt32)), .val (.int (3 : Int32)), .val (.ref b25), .val (.int (0 : Int32))] [(.int (1 : Int32))]))
          refine own_Fin.step (fun _ => XS.goto X41.here hx rfl (pc0 := 209) (pc' := 213) rfl (hb hby at_209) (by decide) (by decide)) ?_
          show own_Fin p e below s _ _ _ (T41.setTop (mkF m 213 #[.val (.int p1), .val (.int p2), .val (.int p3), .val (.int p4), .val (.int p5), .val (.int (p1.toInt8.toInt32)), .val (.int (p2.toInt8.toInt32)), .val (.int (p3.toInt8.toInt32)), .val (.int (p4.toInt8.toInt32)), .val (.int (3 : Int32)), .val (.ref b25), .val (.int (0 : Int32))] [(.int (1 : Int32))]))
          exact own_retN X41 hx hlk (t := .boolean) hret (by simp) (hb hby at_213) ⟨rfl, N41⟩ (by decide) (by decide)
        ·
          refine own_Fin.step (fun _ => XS.ifNo X39.here hx rfl (hb hby at_174) rfl (XT.i0_eq_f hc174_40)) ?_
          show own_Fin p e below s _ _ _ (T39.setTop (mkF m 177 #[.val (.int p1), .val (.int p2), .val (.int p3), .val (.int p4), .val (.int p5), .val (.int (p1.toInt8.toInt32)), .val (.int (p2.toInt8.toInt32)), .val (.int (p3.toInt8.toInt32)), .val (.int (p4.toInt8.toInt32)), .val (.int (3 : Int32)), .val (.ref b25), .unset] []))
          refine own_Fin.step (fun _ => XS.iload X39.here hx rfl (hb hby at_177) rfl) ?_
          show own_Fin p e below s _ _ _ (T39.setTop (mkF m 179 #[.val (.int p1), .val (.int p2), .val (.int p3), .val (.int p4), .val (.int p5), .val (.int (p1.toInt8.toInt32)), .val (.int (p2.toInt8.toInt32)), .val (.int (p3.toInt8.toInt32)), .val (.int (p4.toInt8.toInt32)), .val (.int (3 : Int32)), .val (.ref b25), .unset] [(.int (3 : Int32))]))
          refine own_Fin.step (fun _ => XS.iconst X39.here hx rfl (hb hby at_179)) ?_
          show own_Fin p e below s _ _ _ (T39.setTop (mkF m 180 #[.val (.int p1), .val (.int p2), .val (.int p3), .val (.int p4), .val (.int p5), .val (.int (p1.toInt8.toInt32)), .val (.int (p2.toInt8.toInt32)), .val (.int (p3.toInt8.toInt32)), .val (.int (p4.toInt8.toInt32)), .val (.int (3 : Int32)), .val (.ref b25), .unset] [(.int (4 : Int32)), (.int (3 : Int32))]))
          refine own_Fin.step (fun _ => XS.icmpYes X39.here hx rfl (pc0 := 180) (pc' := 191) rfl (hb hby at_180) rfl (XT.ii_lt_t (by decide : (3 : Int32) < (4 : Int32))) (by decide) (by decide)) ?_
          show own_Fin p e below s _ _ _ (T39.setTop (mkF m 191 #[.val (.int p1), .val (.int p2), .val (.int p3), .val (.int p4), .val (.int p5), .val (.int (p1.toInt8.toInt32)), .val (.int (p2.toInt8.toInt32)), .val (.int (p3.toInt8.toInt32)), .val (.int (p4.toInt8.toInt32)), .val (.int (3 : Int32)), .val (.ref b25), .unset] []))
          refine own_Fin.step (fun _ => XS.iconst X39.here hx rfl (hb hby at_191)) ?_
          show own_Fin p e below s _ _ _ (T39.setTop (mkF m 192 #[.val (.int p1), .val (.int p2), .val (.int p3), .val (.int p4), .val (.int p5), .val (.int (p1.toInt8.toInt32)), .val (.int (p2.toInt8.toInt32)), .val (.int (p3.toInt8.toInt32)), .val (.int (p4.toInt8.toInt32)), .val (.int (3 : Int32)), .val (.ref b25), .unset] [(.int (1 : Int32))]))
          refine own_Fin.step (fun _ => XS.goto X39.here hx rfl (pc0 := 192) (pc' := 196) rfl (hb hby at_192) (by decide) (by decide)) ?_
          show own_Fin p e below s _ _ _ (T39.setTop (mkF m 196 #[.val (.int p1), .val (.int p2), .val (.int p3), .val (.int p4), .val (.int p5), .val (.int (p1.toInt8.toInt32)), .val (.int (p2.toInt8.toInt32)), .val (.int (p3.toInt8.toInt32)), .val (.int (p4.toInt8.toInt32)), .val (.int (3 : Int32)), .val (.ref b25), .unset] [(.int (1 : Int32))]))
          refine own_Fin.step (fun _ => XS.istore X39.here hx rfl (hb hby at_196) rfl (l' := #[.val (.int p1), .val (.int p2), .val (.int p3), .val (.int p4), .val (.int p5), .val (.int (p1.toInt8.toInt32)), .val (.int (p2.toInt8.toInt32)), .val (.int (p3.toInt8.toInt32)), .val (.int (p4.toInt8.toInt32)), .val (.int (3 : Int32)), .val (.ref b25), .val (.int (1 : Int32))]) rfl) ?_
          show own_Fin p e below s _ _ _ (T39.setTop (mkF m 198 #[.val (.int p1), .val (.int p2), .val (.int p3), .val (.int p4), .val (.int p5), .val (.int (p1.toInt8.toInt32)), .val (.int (p2.toInt8.toInt32)), .val (.int (p3.toInt8.toInt32)), .val (.int (p4.toInt8.toInt32)), .val (.int (3 : Int32)), .val (.ref b25), .val (.int (1 : Int32))] []))
          refine own_Fin.step (fun _ => XS.aload X39.here hx rfl (hb hby at_198) rfl rfl) ?_
          show own_Fin p e below s _ _ _ (T39.setTop (mkF m 200 #[.val (.int p1), .val (.int p2), .val (.int p3), .val (.int p4), .val (.int p5), .val (.int (p1.toInt8.toInt32)), .val (.int (p2.toInt8.toInt32)), .val (.int (p3.toInt8.toInt32)), .val (.int (p4.toInt8.toInt32)), .val (.int (3 : Int32)), .val (.ref b25), .val (.int (1 : Int32))] [(.ref b25)]))
          obtain ⟨_, T42, L42, X42, ⟨rfl, N42q, e42⟩, st42⟩ := own_callS X39 hx hZ hown (own_w hw 1 rfl) (own_w hw 2 rfl) (own_w hw 3 rfl) (own_w hw 4 rfl) (by decide) (rm1 l Z a0 hw b25 k25 (3 : Int32) [(p1.toInt8.toInt32), (p2.toInt8.toInt32), (p3.toInt8.toInt32)] (.int (0 : Int32)) h31 n0 Z31 V31' rfl) (by decide) (by decide) e39 (W := 0) (g := (mkF m 200 #[.val (.int p1), .val (.int p2), .val (.int p3), .val (.int p4), .val (.int p5), .val (.int (p1.toInt8.toInt32)), .val (.int (p2.toInt8.toInt32)), .val (.int (p3.toInt8.toInt32)), .val (.int (p4.toInt8.toInt32)), .val (.int (3 : Int32)), .val (.ref b25), .val (.int (1 : Int32))] [(.ref b25)])) rfl (by rw [hml]; rfl) (argsL := [(.ref b25)]) (rest := []) (lenOf pd_0 rfl) rfl rfl (by show 2 * 0 + _ ≤ _; exact Nat.le_of_eq rfl) (hb hby at_200) (by decide) (by decide)
          have N42 := Fr.app N39 N42q
          refine own_Fin.step st42 ?_
          show own_Fin p e below s _ _ _ (T42.setTop (mkF m 203 #[.val (.int p1), .val (.int p2), .val (.int p3), .val (.int p4), .val (.int p5), .val (.int (p1.toInt8.toInt32)), .val (.int (p2.toInt8.toInt32)), .val (.int (p3.toInt8.toInt32)), .val (.int (p4.toInt8.toInt32)), .val (.int (3 : Int32)), .val (.ref b25), .val (.int (1 : Int32))] [(.int (own_plain [(p1.toInt8.toInt32), (p2.toInt8.toInt32), (p3.toInt8.toInt32)]))]))
          refine own_Fin.step (fun _ => XS.iload X42.here hx rfl (hb hby at_203) rfl) ?_
          show own_Fin p e below s _ _ _ (T42.setTop (mkF m 205 #[.val (.int p1), .val (.int p2), .val (.int p3), .val (.int p4), .val (.int p5), .val (.int (p1.toInt8.toInt32)), .val (.int (p2.toInt8.toInt32)), .val (.int (p3.toInt8.toInt32)), .val (.int (p4.toInt8.toInt32)), .val (.int (3 : Int32)), .val (.ref b25), .val (.int (1 : Int32))] [(.int (1 : Int32)), (.int (own_plain [(p1.toInt8.toInt32), (p2.toInt8.toInt32), (p3.toInt8.toInt32)]))]))
          refine own_Fin.step (fun _ => XS.icmpNo X42.here hx rfl (hb hby at_205) rfl (XT.ii_ne_f (by rw [own_pl, if_neg hc146_34, own_pl, if_neg hc160_37, own_pl, if_neg hc174_40]; rfl))) ?_
          show own_Fin p e below s _ _ _ (T42.setTop (mkF m 208 #[.val (.int p1), .val (.int p2), .val (.int p3), .val (.int p4), .val (.int p5), .val (.int (p1.toInt8.toInt32)), .val (.int (p2.toInt8.toInt32)), .val (.int (p3.toInt8.toInt32)), .val (.int (p4.toInt8.toInt32)), .val (.int (3 : Int32)), .val (.ref b25), .val (.int (1 : Int32))] []))
          refine own_Fin.step (fun _ => XS.iconst X42.here hx rfl (hb hby at_208)) ?_
          show own_Fin p e below s _ _ _ (T42.setTop (mkF m 209 #[.val (.int p1), .val (.int p2), .val (.int p3), .val (.int p4), .val (.int p5), .val (.int (p1.toInt8.toInt32)), .val (.int (p2.toInt8.toInt32)), .val (.int (p3.toInt8.toInt32)), .val (.int (p4.toInt8.toInt32)), .val (.int (3 : Int32)), .val (.ref b25), .val (.int (1 : Int32))] [(.int (1 : Int32))]))
          refine own_Fin.step (fun _ => XS.goto X42.here hx rfl (pc0 := 209) (pc' := 213) rfl (hb hby at_209) (by decide) (by decide)) ?_
          show own_Fin p e below s _ _ _ (T42.setTop (mkF m 213 #[.val (.int p1), .val (.int p2), .val (.int p3), .val (.int p4), .val (.int p5), .val (.int (p1.toInt8.toInt32)), .val (.int (p2.toInt8.toInt32)), .val (.int (p3.toInt8.toInt32)), .val (.int (p4.toInt8.toInt32)), .val (.int (3 : Int32)), .val (.ref b25), .val (.int (1 : Int32))] [(.int (1 : Int32))]))
          exact own_retN X42 hx hlk (t := .boolean) hret (by simp) (hb hby at_213) ⟨rfl, N42⟩ (by decide) (by decide)
  ·
    show own_Fin p e below s _ _ _ (s₁.setTop (mkF m 23 #[.val (.int p1), .val (.int p2), .val (.int p3), .val (.int p4), .val (.int p5), .val (.int (p1.toInt8.toInt32)), .val (.int (p2.toInt8.toInt32)), .val (.int (p3.toInt8.toInt32)), .val (.int (p4.toInt8.toInt32)), .unset, .unset, .unset] [(.int (4 : Int32))]))
    refine own_Fin.step (fun _ => XS.istore X0.here hx rfl (hb hby at_23) rfl (l' := #[.val (.int p1), .val (.int p2), .val (.int p3), .val (.int p4), .val (.int p5), .val (.int (p1.toInt8.toInt32)), .val (.int (p2.toInt8.toInt32)), .val (.int (p3.toInt8.toInt32)), .val (.int (p4.toInt8.toInt32)), .val (.int (4 : Int32)), .unset, .unset]) rfl) ?_
    show own_Fin p e below s _ _ _ (s₁.setTop (mkF m 25 #[.val (.int p1), .val (.int p2), .val (.int p3), .val (.int p4), .val (.int p5), .val (.int (p1.toInt8.toInt32)), .val (.int (p2.toInt8.toInt32)), .val (.int (p3.toInt8.toInt32)), .val (.int (p4.toInt8.toInt32)), .val (.int (4 : Int32)), .unset, .unset] []))
    refine own_Fin.step (fun _ => XS.iload X0.here hx rfl (hb hby at_25) rfl) ?_
    show own_Fin p e below s _ _ _ (s₁.setTop (mkF m 27 #[.val (.int p1), .val (.int p2), .val (.int p3), .val (.int p4), .val (.int p5), .val (.int (p1.toInt8.toInt32)), .val (.int (p2.toInt8.toInt32)), .val (.int (p3.toInt8.toInt32)), .val (.int (p4.toInt8.toInt32)), .val (.int (4 : Int32)), .unset, .unset] [(.int (4 : Int32))]))
    refine own_Fin.step (fun _ => XS.ifYes X0.here hx rfl (pc0 := 27) (pc' := 38) rfl (hb hby at_27) rfl (XT.i0_ne_t (by decide : ¬ ((4 : Int32) = (0 : Int32)))) (by decide) (by decide)) ?_
    show own_Fin p e below s _ _ _ (s₁.setTop (mkF m 38 #[.val (.int p1), .val (.int p2), .val (.int p3), .val (.int p4), .val (.int p5), .val (.int (p1.toInt8.toInt32)), .val (.int (p2.toInt8.toInt32)), .val (.int (p3.toInt8.toInt32)), .val (.int (p4.toInt8.toInt32)), .val (.int (4 : Int32)), .unset, .unset] []))
    refine own_Fin.step (fun _ => XS.iload X0.here hx rfl (hb hby at_38) rfl) ?_
    show own_Fin p e below s _ _ _ (s₁.setTop (mkF m 40 #[.val (.int p1), .val (.int p2), .val (.int p3), .val (.int p4), .val (.int p5), .val (.int (p1.toInt8.toInt32)), .val (.int (p2.toInt8.toInt32)), .val (.int (p3.toInt8.toInt32)), .val (.int (p4.toInt8.toInt32)), .val (.int (4 : Int32)), .unset, .unset] [(.int (4 : Int32))]))
    refine own_Fin.step (fun _ => XS.iconst X0.here hx rfl (hb hby at_40)) ?_
    show own_Fin p e below s _ _ _ (s₁.setTop (mkF m 41 #[.val (.int p1), .val (.int p2), .val (.int p3), .val (.int p4), .val (.int p5), .val (.int (p1.toInt8.toInt32)), .val (.int (p2.toInt8.toInt32)), .val (.int (p3.toInt8.toInt32)), .val (.int (p4.toInt8.toInt32)), .val (.int (4 : Int32)), .unset, .unset] [(.int (1 : Int32)), (.int (4 : Int32))]))
    refine own_Fin.step (fun _ => XS.icmpYes X0.here hx rfl (pc0 := 41) (pc' := 57) rfl (hb hby at_41) rfl (XT.ii_ne_t (by decide : ¬ ((4 : Int32) = (1 : Int32)))) (by decide) (by decide)) ?_
    show own_Fin p e below s _ _ _ (s₁.setTop (mkF m 57 #[.val (.int p1), .val (.int p2), .val (.int p3), .val (.int p4), .val (.int p5), .val (.int (p1.toInt8.toInt32)), .val (.int (p2.toInt8.toInt32)), .val (.int (p3.toInt8.toInt32)), .val (.int (p4.toInt8.toInt32)), .val (.int (4 : Int32)), .unset, .unset] []))
    refine own_Fin.step (fun _ => XS.iload X0.here hx rfl (hb hby at_57) rfl) ?_
    show own_Fin p e below s _ _ _ (s₁.setTop (mkF m 59 #[.val (.int p1), .val (.int p2), .val (.int p3), .val (.int p4), .val (.int p5), .val (.int (p1.toInt8.toInt32)), .val (.int (p2.toInt8.toInt32)), .val (.int (p3.toInt8.toInt32)), .val (.int (p4.toInt8.toInt32)), .val (.int (4 : Int32)), .unset, .unset] [(.int (4 : Int32))]))
    refine own_Fin.step (fun _ => XS.iconst X0.here hx rfl (hb hby at_59)) ?_
    show own_Fin p e below s _ _ _ (s₁.setTop (mkF m 60 #[.val (.int p1), .val (.int p2), .val (.int p3), .val (.int p4), .val (.int p5), .val (.int (p1.toInt8.toInt32)), .val (.int (p2.toInt8.toInt32)), .val (.int (p3.toInt8.toInt32)), .val (.int (p4.toInt8.toInt32)), .val (.int (4 : Int32)), .unset, .unset] [(.int (2 : Int32)), (.int (4 : Int32))]))
    refine own_Fin.step (fun _ => XS.icmpYes X0.here hx rfl (pc0 := 60) (pc' := 81) rfl (hb hby at_60) rfl (XT.ii_ne_t (by decide : ¬ ((4 : Int32) = (2 : Int32)))) (by decide) (by decide)) ?_
    show own_Fin p e below s _ _ _ (s₁.setTop (mkF m 81 #[.val (.int p1), .val (.int p2), .val (.int p3), .val (.int p4), .val (.int p5), .val (.int (p1.toInt8.toInt32)), .val (.int (p2.toInt8.toInt32)), .val (.int (p3.toInt8.toInt32)), .val (.int (p4.toInt8.toInt32)), .val (.int (4 : Int32)), .unset, .unset] []))
    refine own_Fin.step (fun _ => XS.iload X0.here hx rfl (hb hby at_81) rfl) ?_
    show own_Fin p e below s _ _ _ (s₁.setTop (mkF m 83 #[.val (.int p1), .val (.int p2), .val (.int p3), .val (.int p4), .val (.int p5), .val (.int (p1.toInt8.toInt32)), .val (.int (p2.toInt8.toInt32)), .val (.int (p3.toInt8.toInt32)), .val (.int (p4.toInt8.toInt32)), .val (.int (4 : Int32)), .unset, .unset] [(.int (4 : Int32))]))
    refine own_Fin.step (fun _ => XS.iconst X0.here hx rfl (hb hby at_83)) ?_
    show own_Fin p e below s _ _ _ (s₁.setTop (mkF m 84 #[.val (.int p1), .val (.int p2), .val (.int p3), .val (.int p4), .val (.int p5), .val (.int (p1.toInt8.toInt32)), .val (.int (p2.toInt8.toInt32)), .val (.int (p3.toInt8.toInt32)), .val (.int (p4.toInt8.toInt32)), .val (.int (4 : Int32)), .unset, .unset] [(.int (3 : Int32)), (.int (4 : Int32))]))
    refine own_Fin.step (fun _ => XS.icmpYes X0.here hx rfl (pc0 := 84) (pc' := 110) rfl (hb hby at_84) rfl (XT.ii_ne_t (by decide : ¬ ((4 : Int32) = (3 : Int32)))) (by decide) (by decide)) ?_
    show own_Fin p e below s _ _ _ (s₁.setTop (mkF m 110 #[.val (.int p1), .val (.int p2), .val (.int p3), .val (.int p4), .val (.int p5), .val (.int (p1.toInt8.toInt32)), .val (.int (p2.toInt8.toInt32)), .val (.int (p3.toInt8.toInt32)), .val (.int (p4.toInt8.toInt32)), .val (.int (4 : Int32)), .unset, .unset] []))
    refine own_Fin.step (fun _ => XS.iconst X0.here hx rfl (hb hby at_110)) ?_
    show own_Fin p e below s _ _ _ (s₁.setTop (mkF m 111 #[.val (.int p1), .val (.int p2), .val (.int p3), .val (.int p4), .val (.int p5), .val (.int (p1.toInt8.toInt32)), .val (.int (p2.toInt8.toInt32)), .val (.int (p3.toInt8.toInt32)), .val (.int (p4.toInt8.toInt32)), .val (.int (4 : Int32)), .unset, .unset] [(.int (4 : Int32))]))
    obtain ⟨T43, h43, k43, b43, X43, e43, E43, g43, V43, st43⟩ := own_newA X0 hx hZ (own_w hw 0 rfl) e0 (ty := .byte) (dv := (.int (0 : Int32))) rfl rfl (g := (mkF m 111 #[.val (.int p1), .val (.int p2), .val (.int p3), .val (.int p4), .val (.int p5), .val (.int (p1.toInt8.toInt32)), .val (.int (p2.toInt8.toInt32)), .val (.int (p3.toInt8.toInt32)), .val (.int (p4.toInt8.toInt32)), .val (.int (4 : Int32)), .unset, .unset] [(.int (4 : Int32))])) rfl (hb hby at_111) rfl (by decide) (cap := 4) (by decide) (by decide) (by decide) (by decide) (4)
    have ge44 : n0 ≤ b43 := Nat.le_trans Z0 (Nat.le_of_eq g43.symm)
    have Z43 : n0 ≤ h43.size := Nat.le_trans Z0 E43.1
    have V43' : Arv Z h43 b43 k43 .byte (4 : Int32) [(.int (0 : Int32)), (.int (0 : Int32)), (.int (0 : Int32)), (.int (0 : Int32))] (.int (0 : Int32)) := V43
    refine own_Fin.step st43 ?_
    show own_Fin p e below s _ _ _ (T43.setTop (mkF m 113 #[.val (.int p1), .val (.int p2), .val (.int p3), .val (.int p4), .val (.int p5), .val (.int (p1.toInt8.toInt32)), .val (.int (p2.toInt8.toInt32)), .val (.int (p3.toInt8.toInt32)), .val (.int (p4.toInt8.toInt32)), .val (.int (4 : Int32)), .unset, .unset] [(.ref b43)]))
    refine own_Fin.step (fun _ => XS.dup X43.here hx rfl (hb hby at_113) rfl rfl) ?_
    show own_Fin p e below s _ _ _ (T43.setTop (mkF m 114 #[.val (.int p1), .val (.int p2), .val (.int p3), .val (.int p4), .val (.int p5), .val (.int (p1.toInt8.toInt32)), .val (.int (p2.toInt8.toInt32)), .val (.int (p3.toInt8.toInt32)), .val (.int (p4.toInt8.toInt32)), .val (.int (4 : Int32)), .unset, .unset] [(.ref b43), (.ref b43)]))
    refine own_Fin.step (fun _ => XS.iconst X43.here hx rfl (hb hby at_114)) ?_
    show own_Fin p e below s _ _ _ (T43.setTop (mkF m 115 #[.val (.int p1), .val (.int p2), .val (.int p3), .val (.int p4), .val (.int p5), .val (.int (p1.toInt8.toInt32)), .val (.int (p2.toInt8.toInt32)), .val (.int (p3.toInt8.toInt32)), .val (.int (p4.toInt8.toInt32)), .val (.int (4 : Int32)), .unset, .unset] [(.int (0 : Int32)), (.ref b43), (.ref b43)]))
    refine own_Fin.step (fun _ => XS.iload X43.here hx rfl (hb hby at_115) rfl) ?_
    show own_Fin p e below s _ _ _ (T43.setTop (mkF m 117 #[.val (.int p1), .val (.int p2), .val (.int p3), .val (.int p4), .val (.int p5), .val (.int (p1.toInt8.toInt32)), .val (.int (p2.toInt8.toInt32)), .val (.int (p3.toInt8.toInt32)), .val (.int (p4.toInt8.toInt32)), .val (.int (4 : Int32)), .unset, .unset] [(.int (p1.toInt8.toInt32)), (.int (0 : Int32)), (.ref b43), (.ref b43)]))
    obtain ⟨T45, h45, X45, e45, V45, W45, st45⟩ := own_stBn X43 hx hZ e43 V43' (j := (0 : Int32)) ⟨by decide, by decide⟩ (0) rfl (Nat.le_of_ble_eq_true rfl) (g := (mkF m 117 #[.val (.int p1), .val (.int p2), .val (.int p3), .val (.int p4), .val (.int p5), .val (.int (p1.toInt8.toInt32)), .val (.int (p2.toInt8.toInt32)), .val (.int (p3.toInt8.toInt32)), .val (.int (p4.toInt8.toInt32)), .val (.int (4 : Int32)), .unset, .unset] [(.int (p1.toInt8.toInt32)), (.int (0 : Int32)), (.ref b43), (.ref b43)])) rfl rfl (hb hby at_117)
    have V45' : Arv Z h45 b43 k43 .byte (4 : Int32) [(.int (p1.toInt8.toInt32)), (.int (0 : Int32)), (.int (0 : Int32)), (.int (0 : Int32))] (.int (0 : Int32)) := V45
    have N45 := Fr.snoc X45 N0 ge44
    have Z45 : n0 ≤ h45.size := Nat.le_trans Z43 (Nat.le_of_eq W45.size.symm)
    refine own_Fin.step st45 ?_
    show own_Fin p e below s _ _ _ (T45.setTop (mkF m 118 #[.val (.int p1), .val (.int p2), .val (.int p3), .val (.int p4), .val (.int p5), .val (.int (p1.toInt8.toInt32)), .val (.int (p2.toInt8.toInt32)), .val (.int (p3.toInt8.toInt32)), .val (.int (p4.toInt8.toInt32)), .val (.int (4 : Int32)), .unset, .unset] [(.ref b43)]))
    refine own_Fin.step (fun _ => XS.dup X45.here hx rfl (hb hby at_118) rfl rfl) ?_
    show own_Fin p e below s _ _ _ (T45.setTop (mkF m 119 #[.val (.int p1), .val (.int p2), .val (.int p3), .val (.int p4), .val (.int p5), .val (.int (p1.toInt8.toInt32)), .val (.int (p2.toInt8.toInt32)), .val (.int (p3.toInt8.toInt32)), .val (.int (p4.toInt8.toInt32)), .val (.int (4 : Int32)), .unset, .unset] [(.ref b43), (.ref b43)]))
    refine own_Fin.step (fun _ => XS.iconst X45.here hx rfl (hb hby at_119)) ?_
    show own_Fin p e below s _ _ _ (T45.setTop (mkF m 120 #[.val (.int p1), .val (.int p2), .val (.int p3), .val (.int p4), .val (.int p5), .val (.int (p1.toInt8.toInt32)), .val (.int (p2.toInt8.toInt32)), .val (.int (p3.toInt8.toInt32)), .val (.int (p4.toInt8.toInt32)), .val (.int (4 : Int32)), .unset, .unset] [(.int (1 : Int32)), (.ref b43), (.ref b43)]))
    refine own_Fin.step (fun _ => XS.iload X45.here hx rfl (hb hby at_120) rfl) ?_
    show own_Fin p e below s _ _ _ (T45.setTop (mkF m 122 #[.val (.int p1), .val (.int p2), .val (.int p3), .val (.int p4), .val (.int p5), .val (.int (p1.toInt8.toInt32)), .val (.int (p2.toInt8.toInt32)), .val (.int (p3.toInt8.toInt32)), .val (.int (p4.toInt8.toInt32)), .val (.int (4 : Int32)), .unset, .unset] [(.int (p2.toInt8.toInt32)), (.int (1 : Int32)), (.ref b43), (.ref b43)]))
    obtain ⟨T47, h47, X47, e47, V47, W47, st47⟩ := own_stBn X45 hx hZ e45 V45' (j := (1 : Int32)) ⟨by decide, by decide⟩ (1) rfl (Nat.le_of_ble_eq_true rfl) (g := (mkF m 122 #[.val (.int p1), .val (.int p2), .val (.int p3), .val (.int p4), .val (.int p5), .val (.int (p1.toInt8.toInt32)), .val (.int (p2.toInt8.toInt32)), .val (.int (p3.toInt8.toInt32)), .val (.int (p4.toInt8.toInt32)), .val (.int (4 : Int32)), .unset, .unset] [(.int (p2.toInt8.toInt32)), (.int (1 : Int32)), (.ref b43), (.ref b43)])) rfl rfl (hb hby at_122)
    have V47' : Arv Z h47 b43 k43 .byte (4 : Int32) [(.int (p1.toInt8.toInt32)), (.int (p2.toInt8.toInt32)), (.int (0 : Int32)), (.int (0 : Int32))] (.int (0 : Int32)) := V47
    have N47 := Fr.snoc X47 N45 ge44
    have Z47 : n0 ≤ h47.size := Nat.le_trans Z45 (Nat.le_of_eq W47.size.symm)
    refine own_Fin.step st47 ?_
    show own_Fin p e below s _ _ _ (T47.setTop (mkF m 123 #[.val (.int p1), .val (.int p2), .val (.int p3), .val (.int p4), .val (.int p5), .val (.int (p1.toInt8.toInt32)), .val (.int (p2.toInt8.toInt32)), .val (.int (p3.toInt8.toInt32)), .val (.int (p4.toInt8.toInt32)), .val (.int (4 : Int32)), .unset, .unset] [(.ref b43)]))
    refine own_Fin.step (fun _ => XS.dup X47.here hx rfl (hb hby at_123) rfl rfl) ?_
    show own_Fin p e below s _ _ _ (T47.setTop (mkF m 124 #[.val (.int p1), .val (.int p2), .val (.int p3), .val (.int p4), .val (.int p5), .val (.int (p1.toInt8.toInt32)), .val (.int (p2.toInt8.toInt32)), .val (.int (p3.toInt8.toInt32)), .val (.int (p4.toInt8.toInt32)), .val (.int (4 : Int32)), .unset, .unset] [(.ref b43), (.ref b43)]))
    refine own_Fin.step (fun _ => XS.iconst X47.here hx rfl (hb hby at_124)) ?_
    show own_Fin p e below s _ _ _ (T47.setTop (mkF m 125 #[.val (.int p1), .val (.int p2), .val (.int p3), .val (.int p4), .val (.int p5), .val (.int (p1.toInt8.toInt32)), .val (.int (p2.toInt8.toInt32)), .val (.int (p3.toInt8.toInt32)), .val (.int (p4.toInt8.toInt32)), .val (.int (4 : Int32)), .unset, .unset] [(.int (2 : Int32)), (.ref b43), (.ref b43)]))
    refine own_Fin.step (fun _ => XS.iload X47.here hx rfl (hb hby at_125) rfl) ?_
    show own_Fin p e below s _ _ _ (T47.setTop (mkF m 127 #[.val (.int p1), .val (.int p2), .val (.int p3), .val (.int p4), .val (.int p5), .val (.int (p1.toInt8.toInt32)), .val (.int (p2.toInt8.toInt32)), .val (.int (p3.toInt8.toInt32)), .val (.int (p4.toInt8.toInt32)), .val (.int (4 : Int32)), .unset, .unset] [(.int (p3.toInt8.toInt32)), (.int (2 : Int32)), (.ref b43), (.ref b43)]))
    obtain ⟨T49, h49, X49, e49, V49, W49, st49⟩ := own_stBn X47 hx hZ e47 V47' (j := (2 : Int32)) ⟨by decide, by decide⟩ (2) rfl (Nat.le_of_ble_eq_true rfl) (g := (mkF m 127 #[.val (.int p1), .val (.int p2), .val (.int p3), .val (.int p4), .val (.int p5), .val (.int (p1.toInt8.toInt32)), .val (.int (p2.toInt8.toInt32)), .val (.int (p3.toInt8.toInt32)), .val (.int (p4.toInt8.toInt32)), .val (.int (4 : Int32)), .unset, .unset] [(.int (p3.toInt8.toInt32)), (.int (2 : Int32)), (.ref b43), (.ref b43)])) rfl rfl (hb hby at_127)
    have V49' : Arv Z h49 b43 k43 .byte (4 : Int32) [(.int (p1.toInt8.toInt32)), (.int (p2.toInt8.toInt32)), (.int (p3.toInt8.toInt32)), (.int (0 : Int32))] (.int (0 : Int32)) := V49
    have N49 := Fr.snoc X49 N47 ge44
    have Z49 : n0 ≤ h49.size := Nat.le_trans Z47 (Nat.le_of_eq W49.size.symm)
    refine own_Fin.step st49 ?_
    show own_Fin p e below s _ _ _ (T49.setTop (mkF m 128 #[.val (.int p1), .val (.int p2), .val (.int p3), .val (.int p4), .val (.int p5), .val (.int (p1.toInt8.toInt32)), .val (.int (p2.toInt8.toInt32)), .val (.int (p3.toInt8.toInt32)), .val (.int (p4.toInt8.toInt32)), .val (.int (4 : Int32)), .unset, .unset] [(.ref b43)]))
    refine own_Fin.step (fun _ => XS.dup X49.here hx rfl (hb hby at_128) rfl rfl) ?_
    show own_Fin p e below s _ _ _ (T49.setTop (mkF m 129 #[.val (.int p1), .val (.int p2), .val (.int p3), .val (.int p4), .val (.int p5), .val (.int (p1.toInt8.toInt32)), .val (.int (p2.toInt8.toInt32)), .val (.int (p3.toInt8.toInt32)), .val (.int (p4.toInt8.toInt32)), .val (.int (4 : Int32)), .unset, .unset] [(.ref b43), (.ref b43)]))
    refine own_Fin.step (fun _ => XS.iconst X49.here hx rfl (hb hby at_129)) ?_
    show own_Fin p e below s _ _ _ (T49.setTop (mkF m 130 #[.val (.int p1), .val (.int p2), .val (.int p3), .val (.int p4), .val (.int p5), .val (.int (p1.toInt8.toInt32)), .val (.int (p2.toInt8.toInt32)), .val (.int (p3.toInt8.toInt32)), .val (.int (p4.toInt8.toInt32)), .val (.int (4 : Int32)), .unset, .unset] [(.int (3 : Int32)), (.ref b43), (.ref b43)]))
    refine own_Fin.step (fun _ => XS.iload X49.here hx rfl (hb hby at_130) rfl) ?_
    show own_Fin p e below s _ _ _ (T49.setTop (mkF m 132 #[.val (.int p1), .val (.int p2), .val (.int p3), .val (.int p4), .val (.int p5), .val (.int (p1.toInt8.toInt32)), .val (.int (p2.toInt8.toInt32)), .val (.int (p3.toInt8.toInt32)), .val (.int (p4.toInt8.toInt32)), .val (.int (4 : Int32)), .unset, .unset] [(.int (p4.toInt8.toInt32)), (.int (3 : Int32)), (.ref b43), (.ref b43)]))
    obtain ⟨T51, h51, X51, e51, V51, W51, st51⟩ := own_stBn X49 hx hZ e49 V49' (j := (3 : Int32)) ⟨by decide, by decide⟩ (3) rfl (Nat.le_of_ble_eq_true rfl) (g := (mkF m 132 #[.val (.int p1), .val (.int p2), .val (.int p3), .val (.int p4), .val (.int p5), .val (.int (p1.toInt8.toInt32)), .val (.int (p2.toInt8.toInt32)), .val (.int (p3.toInt8.toInt32)), .val (.int (p4.toInt8.toInt32)), .val (.int (4 : Int32)), .unset, .unset] [(.int (p4.toInt8.toInt32)), (.int (3 : Int32)), (.ref b43), (.ref b43)])) rfl rfl (hb hby at_132)
    have V51' : Arv Z h51 b43 k43 .byte (4 : Int32) [(.int (p1.toInt8.toInt32)), (.int (p2.toInt8.toInt32)), (.int (p3.toInt8.toInt32)), (.int (p4.toInt8.toInt32))] (.int (0 : Int32)) := V51
    have N51 := Fr.snoc X51 N49 ge44
    have Z51 : n0 ≤ h51.size := Nat.le_trans Z49 (Nat.le_of_eq W51.size.symm)
    refine own_Fin.step st51 ?_
    show own_Fin p e below s _ _ _ (T51.setTop (mkF m 133 #[.val (.int p1), .val (.int p2), .val (.int p3), .val (.int p4), .val (.int p5), .val (.int (p1.toInt8.toInt32)), .val (.int (p2.toInt8.toInt32)), .val (.int (p3.toInt8.toInt32)), .val (.int (p4.toInt8.toInt32)), .val (.int (4 : Int32)), .unset, .unset] [(.ref b43)]))
    refine own_Fin.step (fun _ => XS.astore X51.here hx rfl (hb hby at_133) rfl rfl (l' := #[.val (.int p1), .val (.int p2), .val (.int p3), .val (.int p4), .val (.int p5), .val (.int (p1.toInt8.toInt32)), .val (.int (p2.toInt8.toInt32)), .val (.int (p3.toInt8.toInt32)), .val (.int (p4.toInt8.toInt32)), .val (.int (4 : Int32)), .val (.ref b43), .unset]) rfl) ?_
    show own_Fin p e below s _ _ _ (T51.setTop (mkF m 135 #[.val (.int p1), .val (.int p2), .val (.int p3), .val (.int p4), .val (.int p5), .val (.int (p1.toInt8.toInt32)), .val (.int (p2.toInt8.toInt32)), .val (.int (p3.toInt8.toInt32)), .val (.int (p4.toInt8.toInt32)), .val (.int (4 : Int32)), .val (.ref b43), .unset] []))
    refine own_Fin.step (fun _ => XS.iload X51.here hx rfl (hb hby at_135) rfl) ?_
    show own_Fin p e below s _ _ _ (T51.setTop (mkF m 137 #[.val (.int p1), .val (.int p2), .val (.int p3), .val (.int p4), .val (.int p5), .val (.int (p1.toInt8.toInt32)), .val (.int (p2.toInt8.toInt32)), .val (.int (p3.toInt8.toInt32)), .val (.int (p4.toInt8.toInt32)), .val (.int (4 : Int32)), .val (.ref b43), .unset] [(.int (4 : Int32))]))
    refine own_Fin.step (fun _ => XS.iconst X51.here hx rfl (hb hby at_137)) ?_
    show own_Fin p e below s _ _ _ (T51.setTop (mkF m 138 #[.val (.int p1), .val (.int p2), .val (.int p3), .val (.int p4), .val (.int p5), .val (.int (p1.toInt8.toInt32)), .val (.int (p2.toInt8.toInt32)), .val (.int (p3.toInt8.toInt32)), .val (.int (p4.toInt8.toInt32)), .val (.int (4 : Int32)), .val (.ref b43), .unset] [(.int (1 : Int32)), (.int (4 : Int32))]))
    refine own_Fin.step (fun _ => XS.icmpNo X51.here hx rfl (hb hby at_138) rfl (XT.ii_lt_f (by decide : ¬ ((4 : Int32) < (1 : Int32))))) ?_
    show own_Fin p e below s _ _ _ (T51.setTop (mkF m 141 #[.val (.int p1), .val (.int p2), .val (.int p3), .val (.int p4), .val (.int p5), .val (.int (p1.toInt8.toInt32)), .val (.int (p2.toInt8.toInt32)), .val (.int (p3.toInt8.toInt32)), .val (.int (p4.toInt8.toInt32)), .val (.int (4 : Int32)), .val (.ref b43), .unset] []))
    refine own_Fin.step (fun _ => XS.iload X51.here hx rfl (hb hby at_141) rfl) ?_
    show own_Fin p e below s _ _ _ (T51.setTop (mkF m 143 #[.val (.int p1), .val (.int p2), .val (.int p3), .val (.int p4), .val (.int p5), .val (.int (p1.toInt8.toInt32)), .val (.int (p2.toInt8.toInt32)), .val (.int (p3.toInt8.toInt32)), .val (.int (p4.toInt8.toInt32)), .val (.int (4 : Int32)), .val (.ref b43), .unset] [(.int (p1.toInt8.toInt32))]))
    obtain ⟨_, T53, L53, X53, ⟨rfl, N53q, e53⟩, st53⟩ := own_callS X51 hx hZ hown (own_w hw 5 rfl) (own_w hw 6 rfl) (own_w hw 7 rfl) (own_w hw 8 rfl) (by decide) (rm2 l Z a0 hw (p1.toInt8.toInt32) h51 n0 Z51) (by decide) (by decide) e51 (W := 0) (g := (mkF m 143 #[.val (.int p1), .val (.int p2), .val (.int p3), .val (.int p4), .val (.int p5), .val (.int (p1.toInt8.toInt32)), .val (.int (p2.toInt8.toInt32)), .val (.int (p3.toInt8.toInt32)), .val (.int (p4.toInt8.toInt32)), .val (.int (4 : Int32)), .val (.ref b43), .unset] [(.int (p1.toInt8.toInt32))])) rfl (by rw [hml]; rfl) (argsL := [(.int (p1.toInt8.toInt32))]) (rest := []) (lenOf pd_1 rfl) rfl rfl (by show 2 * 0 + _ ≤ _; exact Nat.le_of_eq rfl) (hb hby at_143) (by decide) (by decide)
    have N53 := Fr.app N51 N53q
    refine own_Fin.step st53 ?_
    show own_Fin p e below s _ _ _ (T53.setTop (mkF m 146 #[.val (.int p1), .val (.int p2), .val (.int p3), .val (.int p4), .val (.int p5), .val (.int (p1.toInt8.toInt32)), .val (.int (p2.toInt8.toInt32)), .val (.int (p3.toInt8.toInt32)), .val (.int (p4.toInt8.toInt32)), .val (.int (4 : Int32)), .val (.ref b43), .unset] [(.int (own_okb (p1.toInt8.toInt32)))]))
    by_cases hc146_54 : (own_okb (p1.toInt8.toInt32)) = (0 : Int32)
    ·
      refine own_Fin.step (fun _ => XS.ifYes X53.here hx rfl (pc0 := 146) (pc' := 195) rfl (hb hby at_146) rfl (XT.i0_eq_t hc146_54) (by decide) (by decide)) ?_
      show own_Fin p e below s _ _ _ (T53.setTop (mkF m 195 #[.val (.int p1), .val (.int p2), .val (.int p3), .val (.int p4), .val (.int p5), .val (.int (p1.toInt8.toInt32)), .val (.int (p2.toInt8.toInt32)), .val (.int (p3.toInt8.toInt32)), .val (.int (p4.toInt8.toInt32)), .val (.int (4 : Int32)), .val (.ref b43), .unset] []))
      refine own_Fin.step (fun _ => XS.iconst X53.here hx rfl (hb hby at_195)) ?_
      show own_Fin p e below s _ _ _ (T53.setTop (mkF m 196 #[.val (.int p1), .val (.int p2), .val (.int p3), .val (.int p4), .val (.int p5), .val (.int (p1.toInt8.toInt32)), .val (.int (p2.toInt8.toInt32)), .val (.int (p3.toInt8.toInt32)), .val (.int (p4.toInt8.toInt32)), .val (.int (4 : Int32)), .val (.ref b43), .unset] [(.int (0 : Int32))]))
      refine own_Fin.step (fun _ => XS.istore X53.here hx rfl (hb hby at_196) rfl (l' := #[.val (.int p1), .val (.int p2), .val (.int p3), .val (.int p4), .val (.int p5), .val (.int (p1.toInt8.toInt32)), .val (.int (p2.toInt8.toInt32)), .val (.int (p3.toInt8.toInt32)), .val (.int (p4.toInt8.toInt32)), .val (.int (4 : Int32)), .val (.ref b43), .val (.int (0 : Int32))]) rfl) ?_
      show own_Fin p e below s _ _ _ (T53.setTop (mkF m 198 #[.val (.int p1), .val (.int p2), .val (.int p3), .val (.int p4), .val (.int p5), .val (.int (p1.toInt8.toInt32)), .val (.int (p2.toInt8.toInt32)), .val (.int (p3.toInt8.toInt32)), .val (.int (p4.toInt8.toInt32)), .val (.int (4 : Int32)), .val (.ref b43), .val (.int (0 : Int32))] []))
      refine own_Fin.step (fun _ => XS.aload X53.here hx rfl (hb hby at_198) rfl rfl) ?_
      show own_Fin p e below s _ _ _ (T53.setTop (mkF m 200 #[.val (.int p1), .val (.int p2), .val (.int p3), .val (.int p4), .val (.int p5), .val (.int (p1.toInt8.toInt32)), .val (.int (p2.toInt8.toInt32)), .val (.int (p3.toInt8.toInt32)), .val (.int (p4.toInt8.toInt32)), .val (.int (4 : Int32)), .val (.ref b43), .val (.int (0 : Int32))] [(.ref b43)]))
      obtain ⟨_, T55, L55, X55, ⟨rfl, N55q, e55⟩, st55⟩ := own_callS X53 hx hZ hown (own_w hw 1 rfl) (own_w hw 2 rfl) (own_w hw 3 rfl) (own_w hw 4 rfl) (by decide) (rm1 l Z a0 hw b43 k43 (4 : Int32) [(p1.toInt8.toInt32), (p2.toInt8.toInt32), (p3.toInt8.toInt32), (p4.toInt8.toInt32)] (.int (0 : Int32)) h51 n0 Z51 V51' rfl) (by decide) (by decide) e53 (W := 0) (g := (mkF m 200 #[.val (.int p1), .val (.int p2), .val (.int p3), .val (.int p4), .val (.int p5), .val (.int (p1.toInt8.toInt32)), .val (.int (p2.toInt8.toInt32)), .val (.int (p3.toInt8.toInt32)), .val (.int (p4.toInt8.toInt32)), .val (.int (4 : Int32)), .val (.ref b43), .val (.int (0 : Int32))] [(.ref b43)])) rfl (by rw [hml]; rfl) (argsL := [(.ref b43)]) (rest := []) (lenOf pd_0 rfl) rfl rfl (by show 2 * 0 + _ ≤ _; exact Nat.le_of_eq rfl) (hb hby at_200) (by decide) (by decide)
      have N55 := Fr.app N53 N55q
      refine own_Fin.step st55 ?_
      show own_Fin p e below s _ _ _ (T55.setTop (mkF m 203 #[.val (.int p1), .val (.int p2), .val (.int p3), .val (.int p4), .val (.int p5), .val (.int (p1.toInt8.toInt32)), .val (.int (p2.toInt8.toInt32)), .val (.int (p3.toInt8.toInt32)), .val (.int (p4.toInt8.toInt32)), .val (.int (4 : Int32)), .val (.ref b43), .val (.int (0 : Int32))] [(.int (own_plain [(p1.toInt8.toInt32), (p2.toInt8.toInt32), (p3.toInt8.toInt32), (p4.toInt8.toInt32)]))]))
      refine own_Fin.step (fun _ => XS.iload X55.here hx rfl (hb hby at_203) rfl) ?_
      show own_Fin p e below s _ _ _ (T55.setTop (mkF m 205 #[.val (.int p1), .val (.int p2), .val (.int p3), .val (.int p4), .val (.int p5), .val (.int (p1.toInt8.toInt32)), .val (.int (p2.toInt8.toInt32)), .val (.int (p3.toInt8.toInt32)), .val (.int (p4.toInt8.toInt32)), .val (.int (4 : Int32)), .val (.ref b43), .val (.int (0 : Int32))] [(.int (0 : Int32)), (.int (own_plain [(p1.toInt8.toInt32), (p2.toInt8.toInt32), (p3.toInt8.toInt32), (p4.toInt8.toInt32)]))]))
      refine own_Fin.step (fun _ => XS.icmpNo X55.here hx rfl (hb hby at_205) rfl (XT.ii_ne_f (by rw [own_pl, if_pos hc146_54]))) ?_
      show own_Fin p e below s _ _ _ (T55.setTop (mkF m 208 #[.val (.int p1), .val (.int p2), .val (.int p3), .val (.int p4), .val (.int p5), .val (.int (p1.toInt8.toInt32)), .val (.int (p2.toInt8.toInt32)), .val (.int (p3.toInt8.toInt32)), .val (.int (p4.toInt8.toInt32)), .val (.int (4 : Int32)), .val (.ref b43), .val (.int (0 : Int32))] []))
      refine own_Fin.step (fun _ => XS.iconst X55.here hx rfl (hb hby at_208)) ?_
      show own_Fin p e below s _ _ _ (T55.setTop (mkF m 209 #[.val (.int p1), .val (.int p2), .val (.int p3), .val (.int p4), .val (.int p5), .val (.int (p1.toInt8.toInt32)), .val (.int (p2.toInt8.toInt32)), .val (.int (p3.toInt8.toInt32)), .val (.int (p4.toInt8.toInt32)), .val (.int (4 : Int32)), .val (.ref b43), .val (.int (0 : Int32))] [(.int (1 : Int32))]))
      refine own_Fin.step (fun _ => XS.goto X55.here hx rfl (pc0 := 209) (pc' := 213) rfl (hb hby at_209) (by decide) (by decide)) ?_
      show own_Fin p e below s _ _ _ (T55.setTop (mkF m 213 #[.val (.int p1), .val (.int p2), .val (.int p3), .val (.int p4), .val (.int p5), .val (.int (p1.toInt8.toInt32)), .val (.int (p2.toInt8.toInt32)), .val (.int (p3.toInt8.toInt32)), .val (.int (p4.toInt8.toInt32)), .val (.int (4 : Int32)), .val (.ref b43), .val (.int (0 : Int32))] [(.int (1 : Int32))]))
      exact own_retN X55 hx hlk (t := .boolean) hret (by simp) (hb hby at_213) ⟨rfl, N55⟩ (by decide) (by decide)
    ·
      refine own_Fin.step (fun _ => XS.ifNo X53.here hx rfl (hb hby at_146) rfl (XT.i0_eq_f hc146_54)) ?_
      show own_Fin p e below s _ _ _ (T53.setTop (mkF m 149 #[.val (.int p1), .val (.int p2), .val (.int p3), .val (.int p4), .val (.int p5), .val (.int (p1.toInt8.toInt32)), .val (.int (p2.toInt8.toInt32)), .val (.int (p3.toInt8.toInt32)), .val (.int (p4.toInt8.toInt32)), .val (.int (4 : Int32)), .val (.ref b43), .unset] []))
      refine own_Fin.step (fun _ => XS.iload X53.here hx rfl (hb hby at_149) rfl) ?_
      show own_Fin p e below s _ _ _ (T53.setTop (mkF m 151 #[.val (.int p1), .val (.int p2), .val (.int p3), .val (.int p4), .val (.int p5), .val (.int (p1.toInt8.toInt32)), .val (.int (p2.toInt8.toInt32)), .val (.int (p3.toInt8.toInt32)), .val (.int (p4.toInt8.toInt32)), .val (.int (4 : Int32)), .val (.ref b43), .unset] [(.int (4 : Int32))]))
      refine own_Fin.step (fun _ => XS.iconst X53.here hx rfl (hb hby at_151)) ?_
      show own_Fin p e below s _ _ _ (T53.setTop (mkF m 152 #[.val (.int p1), .val (.int p2), .val (.int p3), .val (.int p4), .val (.int p5), .val (.int (p1.toInt8.toInt32)), .val (.int (p2.toInt8.toInt32)), .val (.int (p3.toInt8.toInt32)), .val (.int (p4.toInt8.toInt32)), .val (.int (4 : Int32)), .val (.ref b43), .unset] [(.int (2 : Int32)), (.int (4 : Int32))]))
      refine own_Fin.step (fun _ => XS.icmpNo X53.here hx rfl (hb hby at_152) rfl (XT.ii_lt_f (by decide : ¬ ((4 : Int32) < (2 : Int32))))) ?_
      show own_Fin p e below s _ _ _ (T53.setTop (mkF m 155 #[.val (.int p1), .val (.int p2), .val (.int p3), .val (.int p4), .val (.int p5), .val (.int (p1.toInt8.toInt32)), .val (.int (p2.toInt8.toInt32)), .val (.int (p3.toInt8.toInt32)), .val (.int (p4.toInt8.toInt32)), .val (.int (4 : Int32)), .val (.ref b43), .unset] []))
      refine own_Fin.step (fun _ => XS.iload X53.here hx rfl (hb hby at_155) rfl) ?_
      show own_Fin p e below s _ _ _ (T53.setTop (mkF m 157 #[.val (.int p1), .val (.int p2), .val (.int p3), .val (.int p4), .val (.int p5), .val (.int (p1.toInt8.toInt32)), .val (.int (p2.toInt8.toInt32)), .val (.int (p3.toInt8.toInt32)), .val (.int (p4.toInt8.toInt32)), .val (.int (4 : Int32)), .val (.ref b43), .unset] [(.int (p2.toInt8.toInt32))]))
      obtain ⟨_, T56, L56, X56, ⟨rfl, N56q, e56⟩, st56⟩ := own_callS X53 hx hZ hown (own_w hw 5 rfl) (own_w hw 6 rfl) (own_w hw 7 rfl) (own_w hw 8 rfl) (by decide) (rm2 l Z a0 hw (p2.toInt8.toInt32) h51 n0 Z51) (by decide) (by decide) e53 (W := 0) (g := (mkF m 157 #[.val (.int p1), .val (.int p2), .val (.int p3), .val (.int p4), .val (.int p5), .val (.int (p1.toInt8.toInt32)), .val (.int (p2.toInt8.toInt32)), .val (.int (p3.toInt8.toInt32)), .val (.int (p4.toInt8.toInt32)), .val (.int (4 : Int32)), .val (.ref b43), .unset] [(.int (p2.toInt8.toInt32))])) rfl (by rw [hml]; rfl) (argsL := [(.int (p2.toInt8.toInt32))]) (rest := []) (lenOf pd_1 rfl) rfl rfl (by show 2 * 0 + _ ≤ _; exact Nat.le_of_eq rfl) (hb hby at_157) (by decide) (by decide)
      have N56 := Fr.app N53 N56q
      refine own_Fin.step st56 ?_
      show own_Fin p e below s _ _ _ (T56.setTop (mkF m 160 #[.val (.int p1), .val (.int p2), .val (.int p3), .val (.int p4), .val (.int p5), .val (.int (p1.toInt8.toInt32)), .val (.int (p2.toInt8.toInt32)), .val (.int (p3.toInt8.toInt32)), .val (.int (p4.toInt8.toInt32)), .val (.int (4 : Int32)), .val (.ref b43), .unset] [(.int (own_okb (p2.toInt8.toInt32)))]))
      by_cases hc160_57 : (own_okb (p2.toInt8.toInt32)) = (0 : Int32)
      ·
        refine own_Fin.step (fun _ => XS.ifYes X56.here hx rfl (pc0 := 160) (pc' := 195) rfl (hb hby at_160) rfl (XT.i0_eq_t hc160_57) (by decide) (by decide)) ?_
        show own_Fin p e below s _ _ _ (T56.setTop (mkF m 195 #[.val (.int p1), .val (.int p2), .val (.int p3), .val (.int p4), .val (.int p5), .val (.int (p1.toInt8.toInt32)), .val (.int (p2.toInt8.toInt32)), .val (.int (p3.toInt8.toInt32)), .val (.int (p4.toInt8.toInt32)), .val (.int (4 : Int32)), .val (.ref b43), .unset] []))
        refine own_Fin.step (fun _ => XS.iconst X56.here hx rfl (hb hby at_195)) ?_
        show own_Fin p e below s _ _ _ (T56.setTop (mkF m 196 #[.val (.int p1), .val (.int p2), .val (.int p3), .val (.int p4), .val (.int p5), .val (.int (p1.toInt8.toInt32)), .val (.int (p2.toInt8.toInt32)), .val (.int (p3.toInt8.toInt32)), .val (.int (p4.toInt8.toInt32)), .val (.int (4 : Int32)), .val (.ref b43), .unset] [(.int (0 : Int32))]))
        refine own_Fin.step (fun _ => XS.istore X56.here hx rfl (hb hby at_196) rfl (l' := #[.val (.int p1), .val (.int p2), .val (.int p3), .val (.int p4), .val (.int p5), .val (.int (p1.toInt8.toInt32)), .val (.int (p2.toInt8.toInt32)), .val (.int (p3.toInt8.toInt32)), .val (.int (p4.toInt8.toInt32)), .val (.int (4 : Int32)), .val (.ref b43), .val (.int (0 : Int32))]) rfl) ?_
        show own_Fin p e below s _ _ _ (T56.setTop (mkF m 198 #[.val (.int p1), .val (.int p2), .val (.int p3), .val (.int p4), .val (.int p5), .val (.int (p1.toInt8.toInt32)), .val (.int (p2.toInt8.toInt32)), .val (.int (p3.toInt8.toInt32)), .val (.int (p4.toInt8.toInt32)), .val (.int (4 : Int32)), .val (.ref b43), .val (.int (0 : Int32))] []))
        refine own_Fin.step (fun _ => XS.aload X56.here hx rfl (hb hby at_198) rfl rfl) ?_
        show own_Fin p e below s _ _ _ (T56.setTop (mkF m 200 #[.val (.int p1), .val (.int p2), .val (.int p3), .val (.int p4), .val (.int p5), .val (.int (p1.toInt8.toInt32)), .val (.int (p2.toInt8.toInt32)), .val (.int (p3.toInt8.toInt32)), .val (.int (p4.toInt8.toInt32)), .val (.int (4 : Int32)), .val (.ref b43), .val (.int (0 : Int32))] [(.ref b43)]))
        obtain ⟨_, T58, L58, X58, ⟨rfl, N58q, e58⟩, st58⟩ := own_callS X56 hx hZ hown (own_w hw 1 rfl) (own_w hw 2 rfl) (own_w hw 3 rfl) (own_w hw 4 rfl) (by decide) (rm1 l Z a0 hw b43 k43 (4 : Int32) [(p1.toInt8.toInt32), (p2.toInt8.toInt32), (p3.toInt8.toInt32), (p4.toInt8.toInt32)] (.int (0 : Int32)) h51 n0 Z51 V51' rfl) (by decide) (by decide) e56 (W := 0) (g := (mkF m 200 #[.val (.int p1), .val (.int p2), .val (.int p3), .val (.int p4), .val (.int p5), .val (.int (p1.toInt8.toInt32)), .val (.int (p2.toInt8.toInt32)), .val (.int (p3.toInt8.toInt32)), .val (.int (p4.toInt8.toInt32)), .val (.int (4 : Int32)), .val (.ref b43), .val (.int (0 : Int32))] [(.ref b43)])) rfl (by rw [hml]; rfl) (argsL := [(.ref b43)]) (rest := []) (lenOf pd_0 rfl) rfl rfl (by show 2 * 0 + _ ≤ _; exact Nat.le_of_eq rfl) (hb hby at_200) (by decide) (by decide)
        have N58 := Fr.app N56 N58q
        refine own_Fin.step st58 ?_
        show own_Fin p e below s _ _ _ (T58.setTop (mkF m 203 #[.val (.int p1), .val (.int p2), .val (.int p3), .val (.int p4), .val (.int p5), .val (.int (p1.toInt8.toInt32)), .val (.int (p2.toInt8.toInt32)), .val (.int (p3.toInt8.toInt32)), .val (.int (p4.toInt8.toInt32)), .val (.int (4 : Int32)), .val (.ref b43), .val (.int (0 : Int32))] [(.int (own_plain [(p1.toInt8.toInt32), (p2.toInt8.toInt32), (p3.toInt8.toInt32), (p4.toInt8.toInt32)]))]))
        refine own_Fin.step (fun _ => XS.iload X58.here hx rfl (hb hby at_203) rfl) ?_
        show own_Fin p e below s _ _ _ (T58.setTop (mkF m 205 #[.val (.int p1), .val (.int p2), .val (.int p3), .val (.int p4), .val (.int p5), .val (.int (p1.toInt8.toInt32)), .val (.int (p2.toInt8.toInt32)), .val (.int (p3.toInt8.toInt32)), .val (.int (p4.toInt8.toInt32)), .val (.int (4 : Int32)), .val (.ref b43), .val (.int (0 : Int32))] [(.int (0 : Int32)), (.int (own_plain [(p1.toInt8.toInt32), (p2.toInt8.toInt32), (p3.toInt8.toInt32), (p4.toInt8.toInt32)]))]))
        refine own_Fin.step (fun _ => XS.icmpNo X58.here hx rfl (hb hby at_205) rfl (XT.ii_ne_f (by rw [own_pl, if_neg hc146_54, own_pl, if_pos hc160_57]))) ?_
        show own_Fin p e below s _ _ _ (T58.setTop (mkF m 208 #[.val (.int p1), .val (.int p2), .val (.int p3), .val (.int p4), .val (.int p5), .val (.int (p1.toInt8.toInt32)), .val (.int (p2.toInt8.toInt32)), .val (.int (p3.toInt8.toInt32)), .val (.int (p4.toInt8.toInt32)), .val (.int (4 : Int32)), .val (.ref b43), .val (.int (0 : Int32))] []))
        refine own_Fin.step (fun _ => XS.iconst X58.here hx rfl (hb hby at_208)) ?_
        show own_Fin p e below s _ _ _ (T58.setTop (mkF m 209 #[.val (.int p1), .val (.int p2), .val (.int p3), .val (.int p4), .val (.int p5), .val (.int (p1.toInt8.toInt32)), .val (.int (p2.toInt8.toInt32)), .val (.int (p3.toInt8.toInt32)), .val (.int (p4.toInt8.toInt32)), .val (.int (4 : Int32)), .val (.ref b43), .val (.int (0 : Int32))] [(.int (1 : Int32))]))
        refine own_Fin.step (fun _ => XS.goto X58.here hx rfl (pc0 := 209) (pc' := 213) rfl (hb hby at_209) (by decide) (by decide)) ?_
        show own_Fin p e below s _ _ _ (T58.setTop (mkF m 213 #[.val (.int p1), .val (.int p2), .val (.int p3), .val (.int p4), .val (.int p5), .val (.int (p1.toInt8.toInt32)), .val (.int (p2.toInt8.toInt32)), .val (.int (p3.toInt8.toInt32)), .val (.int (p4.toInt8.toInt32)), .val (.int (4 : Int32)), .val (.ref b43), .val (.int (0 : Int32))] [(.int (1 : Int32))]))
        exact own_retN X58 hx hlk (t := .boolean) hret (by simp) (hb hby at_213) ⟨rfl, N58⟩ (by decide) (by decide)
      ·
        refine own_Fin.step (fun _ => XS.ifNo X56.here hx rfl (hb hby at_160) rfl (XT.i0_eq_f hc160_57)) ?_
        show own_Fin p e below s _ _ _ (T56.setTop (mkF m 163 #[.val (.int p1), .val (.int p2), .val (.int p3), .val (.int p4), .val (.int p5), .val (.int (p1.toInt8.toInt32)), .val (.int (p2.toInt8.toInt32)), .val (.int (p3.toInt8.toInt32)), .val (.int (p4.toInt8.toInt32)), .val (.int (4 : Int32)), .val (.ref b43), .unset] []))
        refine own_Fin.step (fun _ => XS.iload X56.here hx rfl (hb hby at_163) rfl) ?_
        show own_Fin p e below s _ _ _ (T56.setTop (mkF m 165 #[.val (.int p1), .val (.int p2), .val (.int p3), .val (.int p4), .val (.int p5), .val (.int (p1.toInt8.toInt32)), .val (.int (p2.toInt8.toInt32)), .val (.int (p3.toInt8.toInt32)), .val (.int (p4.toInt8.toInt32)), .val (.int (4 : Int32)), .val (.ref b43), .unset] [(.int (4 : Int32))]))
        refine own_Fin.step (fun _ => XS.iconst X56.here hx rfl (hb hby at_165)) ?_
        show own_Fin p e below s _ _ _ (T56.setTop (mkF m 166 #[.val (.int p1), .val (.int p2), .val (.int p3), .val (.int p4), .val (.int p5), .val (.int (p1.toInt8.toInt32)), .val (.int (p2.toInt8.toInt32)), .val (.int (p3.toInt8.toInt32)), .val (.int (p4.toInt8.toInt32)), .val (.int (4 : Int32)), .val (.ref b43), .unset] [(.int (3 : Int32)), (.int (4 : Int32))]))
        refine own_Fin.step (fun _ => XS.icmpNo X56.here hx rfl (hb hby at_166) rfl (XT.ii_lt_f (by decide : ¬ ((4 : Int32) < (3 : Int32))))) ?_
        show own_Fin p e below s _ _ _ (T56.setTop (mkF m 169 #[.val (.int p1), .val (.int p2), .val (.int p3), .val (.int p4), .val (.int p5), .val (.int (p1.toInt8.toInt32)), .val (.int (p2.toInt8.toInt32)), .val (.int (p3.toInt8.toInt32)), .val (.int (p4.toInt8.toInt32)), .val (.int (4 : Int32)), .val (.ref b43), .unset] []))
        refine own_Fin.step (fun _ => XS.iload X56.here hx rfl (hb hby at_169) rfl) ?_
        show own_Fin p e below s _ _ _ (T56.setTop (mkF m 171 #[.val (.int p1), .val (.int p2), .val (.int p3), .val (.int p4), .val (.int p5), .val (.int (p1.toInt8.toInt32)), .val (.int (p2.toInt8.toInt32)), .val (.int (p3.toInt8.toInt32)), .val (.int (p4.toInt8.toInt32)), .val (.int (4 : Int32)), .val (.ref b43), .unset] [(.int (p3.toInt8.toInt32))]))
        obtain ⟨_, T59, L59, X59, ⟨rfl, N59q, e59⟩, st59⟩ := own_callS X56 hx hZ hown (own_w hw 5 rfl) (own_w hw 6 rfl) (own_w hw 7 rfl) (own_w hw 8 rfl) (by decide) (rm2 l Z a0 hw (p3.toInt8.toInt32) h51 n0 Z51) (by decide) (by decide) e56 (W := 0) (g := (mkF m 171 #[.val (.int p1), .val (.int p2), .val (.int p3), .val (.int p4), .val (.int p5), .val (.int (p1.toInt8.toInt32)), .val (.int (p2.toInt8.toInt32)), .val (.int (p3.toInt8.toInt32)), .val (.int (p4.toInt8.toInt32)), .val (.int (4 : Int32)), .val (.ref b43), .unset] [(.int (p3.toInt8.toInt32))])) rfl (by rw [hml]; rfl) (argsL := [(.int (p3.toInt8.toInt32))]) (rest := []) (lenOf pd_1 rfl) rfl rfl (by show 2 * 0 + _ ≤ _; exact Nat.le_of_eq rfl) (hb hby at_171) (by decide) (by decide)
        have N59 := Fr.app N56 N59q
        refine own_Fin.step st59 ?_
        show own_Fin p e below s _ _ _ (T59.setTop (mkF m 174 #[.val (.int p1), .val (.int p2), .val (.int p3), .val (.int p4), .val (.int p5), .val (.int (p1.toInt8.toInt32)), .val (.int (p2.toInt8.toInt32)), .val (.int (p3.toInt8.toInt32)), .val (.int (p4.toInt8.toInt32)), .val (.int (4 : Int32)), .val (.ref b43), .unset] [(.int (own_okb (p3.toInt8.toInt32)))]))
        by_cases hc174_60 : (own_okb (p3.toInt8.toInt32)) = (0 : Int32)
        ·
          refine own_Fin.step (fun _ => XS.ifYes X59.here hx rfl (pc0 := 174) (pc' := 195) rfl (hb hby at_174) rfl (XT.i0_eq_t hc174_60) (by decide) (by decide)) ?_
          show own_Fin p e below s _ _ _ (T59.setTop (mkF m 195 #[.val (.int p1), .val (.int p2), .val (.int p3), .val (.int p4), .val (.int p5), .val (.int (p1.toInt8.toInt32)), .val (.int (p2.toInt8.toInt32)), .val (.int (p3.toInt8.toInt32)), .val (.int (p4.toInt8.toInt32)), .val (.int (4 : Int32)), .val (.ref b43), .unset] []))
          refine own_Fin.step (fun _ => XS.iconst X59.here hx rfl (hb hby at_195)) ?_
          show own_Fin p e below s _ _ _ (T59.setTop (mkF m 196 #[.val (.int p1), .val (.int p2), .val (.int p3), .val (.int p4), .val (.int p5), .val (.int (p1.toInt8.toInt32)), .val (.int (p2.toInt8.toInt32)), .val (.int (p3.toInt8.toInt32)), .val (.int (p4.toInt8.toInt32)), .val (.int (4 : Int32)), .val (.ref b43), .unset] [(.int (0 : Int32))]))
          refine own_Fin.step (fun _ => XS.istore X59.here hx rfl (hb hby at_196) rfl (l' := #[.val (.int p1), .val (.int p2), .val (.int p3), .val (.int p4), .val (.int p5), .val (.int (p1.toInt8.toInt32)), .val (.int (p2.toInt8.toInt32)), .val (.int (p3.toInt8.toInt32)), .val (.int (p4.toInt8.toInt32)), .val (.int (4 : Int32)), .val (.ref b43), .val (.int (0 : Int32))]) rfl) ?_
          show own_Fin p e below s _ _ _ (T59.setTop (mkF m 198 #[.val (.int p1), .val (.int p2), .val (.int p3), .val (.int p4), .val (.int p5), .val (.int (p1.toInt8.toInt32)), .val (.int (p2.toInt8.toInt32)), .val (.int (p3.toInt8.toInt32)), .val (.int (p4.toInt8.toInt32)), .val (.int (4 : Int32)), .val (.ref b43), .val (.int (0 : Int32))] []))
          refine own_Fin.step (fun _ => XS.aload X59.here hx rfl (hb hby at_198) rfl rfl) ?_
          show own_Fin p e below s _ _ _ (T59.setTop (mkF m 200 #[.val (.int p1), .val (.int p2), .val (.int p3), .val (.int p4), .val (.int p5), .val (.int (p1.toInt8.toInt32)), .val (.int (p2.toInt8.toInt32)), .val (.int (p3.toInt8.toInt32)), .val (.int (p4.toInt8.toInt32)), .val (.int (4 : Int32)), .val (.ref b43), .val (.int (0 : Int32))] [(.ref b43)]))
          obtain ⟨_, T61, L61, X61, ⟨rfl, N61q, e61⟩, st61⟩ := own_callS X59 hx hZ hown (own_w hw 1 rfl) (own_w hw 2 rfl) (own_w hw 3 rfl) (own_w hw 4 rfl) (by decide) (rm1 l Z a0 hw b43 k43 (4 : Int32) [(p1.toInt8.toInt32), (p2.toInt8.toInt32), (p3.toInt8.toInt32), (p4.toInt8.toInt32)] (.int (0 : Int32)) h51 n0 Z51 V51' rfl) (by decide) (by decide) e59 (W := 0) (g := (mkF m 200 #[.val (.int p1), .val (.int p2), .val (.int p3), .val (.int p4), .val (.int p5), .val (.int (p1.toInt8.toInt32)), .val (.int (p2.toInt8.toInt32)), .val (.int (p3.toInt8.toInt32)), .val (.int (p4.toInt8.toInt32)), .val (.int (4 : Int32)), .val (.ref b43), .val (.int (0 : Int32))] [(.ref b43)])) rfl (by rw [hml]; rfl) (argsL := [(.ref b43)]) (rest := []) (lenOf pd_0 rfl) rfl rfl (by show 2 * 0 + _ ≤ _; exact Nat.le_of_eq rfl) (hb hby at_200) (by decide) (by decide)
          have N61 := Fr.app N59 N61q
          refine own_Fin.step st61 ?_
          show own_Fin p e below s _ _ _ (T61.setTop (mkF m 203 #[.val (.int p1), .val (.int p2), .val (.int p3), .val (.int p4), .val (.int p5), .val (.int (p1.toInt8.toInt32)), .val (.int (p2.toInt8.toInt32)), .val (.int (p3.toInt8.toInt32)), .val (.int (p4.toInt8.toInt32)), .val (.int (4 : Int32)), .val (.ref b43), .val (.int (0 : Int32))] [(.int (own_plain [(p1.toInt8.toInt32), (p2.toInt8.toInt32), (p3.toInt8.toInt32), (p4.toInt8.toInt32)]))]))
          refine own_Fin.step (fun _ => XS.iload X61.here hx rfl (hb hby at_203) rfl) ?_
          show own_Fin p e below s _ _ _ (T61.setTop (mkF m 205 #[.val (.int p1), .val (.int p2), .val (.int p3), .val (.int p4), .val (.int p5), .val (.int (p1.toInt8.toInt32)), .val (.int (p2.toInt8.toInt32)), .val (.int (p3.toInt8.toInt32)), .val (.int (p4.toInt8.toInt32)), .val (.int (4 : Int32)), .val (.ref b43), .val (.int (0 : Int32))] [(.int (0 : Int32)), (.int (own_plain [(p1.toInt8.toInt32), (p2.toInt8.toInt32), (p3.toInt8.toInt32), (p4.toInt8.toInt32)]))]))
          refine own_Fin.step (fun _ => XS.icmpNo X61.here hx rfl (hb hby at_205) rfl (XT.ii_ne_f (by rw [own_pl, if_neg hc146_54, own_pl, if_neg hc160_57, own_pl, if_pos hc174_60]))) ?_
          show own_Fin p e below s _ _ _ (T61.setTop (mkF m 208 #[.val (.int p1), .val (.int p2), .val (.int p3), .val (.int p4), .val (.int p5), .val (.int (p1.toInt8.toInt32)), .val (.int (p2.toInt8.toInt32)), .val (.int (p3.toInt8.toInt32)), .val (.int (p4.toInt8.toInt32)), .val (.int (4 : Int32)), .val (.ref b43), .val (.int (0 : Int32))] []))
          refine own_Fin.step (fun _ => XS.iconst X61.here hx rfl (hb hby at_208)) ?_
          show own_Fin p e below s _ _ _ (T61.setTop (mkF m 209 #[.val (.int p1), .val (.int p2), .val (.int p3), .val (.int p4), .val (.int p5), .val (.int (p1.toInt8.toInt32)), .val (.int (p2.toInt8.toInt32)), .val (.int (p3.toInt8.toInt32)), .val (.int (p4.toInt8.toInt32)), .val (.int (4 : Int32)), .val (.ref b43), .val (.int (0 : Int32))] [(.int (1 : Int32))]))
          refine own_Fin.step (fun _ => XS.goto X61.here hx rfl (pc0 := 209) (pc' := 213) rfl (hb hby at_209) (by decide) (by decide)) ?_
          show own_Fin p e below s _ _ _ (T61.setTop (mkF m 213 #[.val (.int p1), .val (.int p2), .val (.int p3), .val (.int p4), .val (.int p5), .val (.int (p1.toInt8.toInt32)), .val (.int (p2.toInt8.toInt32)), .val (.int (p3.toInt8.toInt32)), .val (.int (p4.toInt8.toInt32)), .val (.int (4 : Int32)), .val (.ref b43), .val (.int (0 : Int32))] [(.int (1 : Int32))]))
          exact own_retN X61 hx hlk (t := .boolean) hret (by simp) (hb hby at_213) ⟨rfl, N61⟩ (by decide) (by decide)
        ·
          refine own_Fin.step (fun _ => XS.ifNo X59.here hx rfl (hb hby at_174) rfl (XT.i0_eq_f hc174_60)) ?_
          show own_Fin p e below s _ _ _ (T59.setTop (mkF m 177 #[.val (.int p1), .val (.int p2), .val (.int p3), .val (.int p4), .val (.int p5), .val (.int (p1.toInt8.toInt32)), .val (.int (p2.toInt8.toInt32)), .val (.int (p3.toInt8.toInt32)), .val (.int (p4.toInt8.toInt32)), .val (.int (4 : Int32)), .val (.ref b43), .unset] []))
          refine own_Fin.step (fun _ => XS.iload X59.here hx rfl (hb hby at_177) rfl) ?_
          show own_Fin p e below s _ _ _ (T59.setTop (mkF m 179 #[.val (.int p1), .val (.int p2), .val (.int p3), .val (.int p4), .val (.int p5), .val (.int (p1.toInt8.toInt32)), .val (.int (p2.toInt8.toInt32)), .val (.int (p3.toInt8.toInt32)), .val (.int (p4.toInt8.toInt32)), .val (.int (4 : Int32)), .val (.ref b43), .unset] [(.int (4 : Int32))]))
          refine own_Fin.step (fun _ => XS.iconst X59.here hx rfl (hb hby at_179)) ?_
          show own_Fin p e below s _ _ _ (T59.setTop (mkF m 180 #[.val (.int p1), .val (.int p2), .val (.int p3), .val (.int p4), .val (.int p5), .val (.int (p1.toInt8.toInt32)), .val (.int (p2.toInt8.toInt32)), .val (.int (p3.toInt8.toInt32)), .val (.int (p4.toInt8.toInt32)), .val (.int (4 : Int32)), .val (.ref b43), .unset] [(.int (4 : Int32)), (.int (4 : Int32))]))
          refine own_Fin.step (fun _ => XS.icmpNo X59.here hx rfl (hb hby at_180) rfl (XT.ii_lt_f (by decide : ¬ ((4 : Int32) < (4 : Int32))))) ?_
          show own_Fin p e below s _ _ _ (T59.setTop (mkF m 183 #[.val (.int p1), .val (.int p2), .val (.int p3), .val (.int p4), .val (.int p5), .val (.int (p1.toInt8.toInt32)), .val (.int (p2.toInt8.toInt32)), .val (.int (p3.toInt8.toInt32)), .val (.int (p4.toInt8.toInt32)), .val (.int (4 : Int32)), .val (.ref b43), .unset] []))
          refine own_Fin.step (fun _ => XS.iload X59.here hx rfl (hb hby at_183) rfl) ?_
          show own_Fin p e below s _ _ _ (T59.setTop (mkF m 185 #[.val (.int p1), .val (.int p2), .val (.int p3), .val (.int p4), .val (.int p5), .val (.int (p1.toInt8.toInt32)), .val (.int (p2.toInt8.toInt32)), .val (.int (p3.toInt8.toInt32)), .val (.int (p4.toInt8.toInt32)), .val (.int (4 : Int32)), .val (.ref b43), .unset] [(.int (p4.toInt8.toInt32))]))
          obtain ⟨_, T62, L62, X62, ⟨rfl, N62q, e62⟩, st62⟩ := own_callS X59 hx hZ hown (own_w hw 5 rfl) (own_w hw 6 rfl) (own_w hw 7 rfl) (own_w hw 8 rfl) (by decide) (rm2 l Z a0 hw (p4.toInt8.toInt32) h51 n0 Z51) (by decide) (by decide) e59 (W := 0) (g := (mkF m 185 #[.val (.int p1), .val (.int p2), .val (.int p3), .val (.int p4), .val (.int p5), .val (.int (p1.toInt8.toInt32)), .val (.int (p2.toInt8.toInt32)), .val (.int (p3.toInt8.toInt32)), .val (.int (p4.toInt8.toInt32)), .val (.int (4 : Int32)), .val (.ref b43), .unset] [(.int (p4.toInt8.toInt32))])) rfl (by rw [hml]; rfl) (argsL := [(.int (p4.toInt8.toInt32))]) (rest := []) (lenOf pd_1 rfl) rfl rfl (by show 2 * 0 + _ ≤ _; exact Nat.le_of_eq rfl) (hb hby at_185) (by decide) (by decide)
          have N62 := Fr.app N59 N62q
          refine own_Fin.step st62 ?_
          show own_Fin p e below s _ _ _ (T62.setTop (mkF m 188 #[.val (.int p1), .val (.int p2), .val (.int p3), .val (.int p4), .val (.int p5), .val (.int (p1.toInt8.toInt32)), .val (.int (p2.toInt8.toInt32)), .val (.int (p3.toInt8.toInt32)), .val (.int (p4.toInt8.toInt32)), .val (.int (4 : Int32)), .val (.ref b43), .unset] [(.int (own_okb (p4.toInt8.toInt32)))]))
          by_cases hc188_63 : (own_okb (p4.toInt8.toInt32)) = (0 : Int32)
          ·
            refine own_Fin.step (fun _ => XS.ifYes X62.here hx rfl (pc0 := 188) (pc' := 195) rfl (hb hby at_188) rfl (XT.i0_eq_t hc188_63) (by decide) (by decide)) ?_
            show own_Fin p e below s _ _ _ (T62.setTop (mkF m 195 #[.val (.int p1), .val (.int p2), .val (.int p3), .val (.int p4), .val (.int p5), .val (.int (p1.toInt8.toInt32)), .val (.int (p2.toInt8.toInt32)), .val (.int (p3.toInt8.toInt32)), .val (.int (p4.toInt8.toInt32)), .val (.int (4 : Int32)), .val (.ref b43), .unset] []))
            refine own_Fin.step (fun _ => XS.iconst X62.here hx rfl (hb hby at_195)) ?_
            show own_Fin p e below s _ _ _ (T62.setTop (mkF m 196 #[.val (.int p1), .val (.int p2), .val (.int p3), .val (.int p4), .val (.int p5), .val (.int (p1.toInt8.toInt32)), .val (.int (p2.toInt8.toInt32)), .val (.int (p3.toInt8.toInt32)), .val (.int (p4.toInt8.toInt32)), .val (.int (4 : Int32)), .val (.ref b43), .unset] [(.int (0 : Int32))]))
            refine own_Fin.step (fun _ => XS.istore X62.here hx rfl (hb hby at_196) rfl (l' := #[.val (.int p1), .val (.int p2), .val (.int p3), .val (.int p4), .val (.int p5), .val (.int (p1.toInt8.toInt32)), .val (.int (p2.toInt8.toInt32)), .val (.int (p3.toInt8.toInt32)), .val (.int (p4.toInt8.toInt32)), .val (.int (4 : Int32)), .val (.ref b43), .val (.int (0 : Int32))]) rfl) ?_
            show own_Fin p e below s _ _ _ (T62.setTop (mkF m 198 #[.val (.int p1), .val (.int p2), .val (.int p3), .val (.int p4), .val (.int p5), .val (.int (p1.toInt8.toInt32)), .val (.int (p2.toInt8.toInt32)), .val (.int (p3.toInt8.toInt32)), .val (.int (p4.toInt8.toInt32)), .val (.int (4 : Int32)), .val (.ref b43), .val (.int (0 : Int32))] []))
            refine own_Fin.step (fun _ => XS.aload X62.here hx rfl (hb hby at_198) rfl rfl) ?_
            show own_Fin p e below s _ _ _ (T62.setTop (mkF m 200 #[.val (.int p1), .val (.int p2), .val (.int p3), .val (.int p4), .val (.int p5), .val (.int (p1.toInt8.toInt32)), .val (.int (p2.toInt8.toInt32)), .val (.int (p3.toInt8.toInt32)), .val (.int (p4.toInt8.toInt32)), .val (.int (4 : Int32)), .val (.ref b43), .val (.int (0 : Int32))] [(.ref b43)]))
            obtain ⟨_, T64, L64, X64, ⟨rfl, N64q, e64⟩, st64⟩ := own_callS X62 hx hZ hown (own_w hw 1 rfl) (own_w hw 2 rfl) (own_w hw 3 rfl) (own_w hw 4 rfl) (by decide) (rm1 l Z a0 hw b43 k43 (4 : Int32) [(p1.toInt8.toInt32), (p2.toInt8.toInt32), (p3.toInt8.toInt32), (p4.toInt8.toInt32)] (.int (0 : Int32)) h51 n0 Z51 V51' rfl) (by decide) (by decide) e62 (W := 0) (g := (mkF m 200 #[.val (.int p1), .val (.int p2), .val (.int p3), .val (.int p4), .val (.int p5), .val (.int (p1.toInt8.toInt32)), .val (.int (p2.toInt8.toInt32)), .val (.int (p3.toInt8.toInt32)), .val (.int (p4.toInt8.toInt32)), .val (.int (4 : Int32)), .val (.ref b43), .val (.int (0 : Int32))] [(.ref b43)])) rfl (by rw [hml]; rfl) (argsL := [(.ref b43)]) (rest := []) (lenOf pd_0 rfl) rfl rfl (by show 2 * 0 + _ ≤ _; exact Nat.le_of_eq rfl) (hb hby at_200) (by decide) (by decide)
            have N64 := Fr.app N62 N64q
            refine own_Fin.step st64 ?_
            show own_Fin p e below s _ _ _ (T64.setTop (mkF m 203 #[.val (.int p1), .val (.int p2), .val (.int p3), .val (.int p4), .val (.int p5), .val (.int (p1.toInt8.toInt32)), .val (.int (p2.toInt8.toInt32)), .val (.int (p3.toInt8.toInt32)), .val (.int (p4.toInt8.toInt32)), .val (.int (4 : Int32)), .val (.ref b43), .val (.int (0 : Int32))] [(.int (own_plain [(p1.toInt8.toInt32), (p2.toInt8.toInt32), (p3.toInt8.toInt32), (p4.toInt8.toInt32)]))]))
            refine own_Fin.step (fun _ => XS.iload X64.here hx rfl (hb hby at_203) rfl) ?_
            show own_Fin p e below s _ _ _ (T64.setTop (mkF m 205 #[.val (.int p1), .val (.int p2), .val (.int p3), .val (.int p4), .val (.int p5), .val (.int (p1.toInt8.toInt32)), .val (.int (p2.toInt8.toInt32)), .val (.int (p3.toInt8.toInt32)), .val (.int (p4.toInt8.toInt32)), .val (.int (4 : Int32)), .val (.ref b43), .val (.int (0 : Int32))] [(.int (0 : Int32)), (.int (own_plain [(p1.toInt8.toInt32), (p2.toInt8.toInt32), (p3.toInt8.toInt32), (p4.toInt8.toInt32)]))]))
            refine own_Fin.step (fun _ => XS.icmpNo X64.here hx rfl (hb hby at_205) rfl (XT.ii_ne_f (by rw [own_pl, if_neg hc146_54, own_pl, if_neg hc160_57, own_pl, if_neg hc174_60, own_pl, if_pos hc188_63]))) ?_
            show own_Fin p e below s _ _ _ (T64.setTop (mkF m 208 #[.val (.int p1), .val (.int p2), .val (.int p3), .val (.int p4), .val (.int p5), .val (.int (p1.toInt8.toInt32)), .val (.int (p2.toInt8.toInt32)), .val (.int (p3.toInt8.toInt32)), .val (.int (p4.toInt8.toInt32)), .val (.int (4 : Int32)), .val (.ref b43), .val (.int (0 : Int32))] []))
            refine own_Fin.step (fun _ => XS.iconst X64.here hx rfl (hb hby at_208)) ?_
            show own_Fin p e below s _ _ _ (T64.setTop (mkF m 209 #[.val (.int p1), .val (.int p2), .val (.int p3), .val (.int p4), .val (.int p5), .val (.int (p1.toInt8.toInt32)), .val (.int (p2.toInt8.toInt32)), .val (.int (p3.toInt8.toInt32)), .val (.int (p4.toInt8.toInt32)), .val (.int (4 : Int32)), .val (.ref b43), .val (.int (0 : Int32))] [(.int (1 : Int32))]))
            refine own_Fin.step (fun _ => XS.goto X64.here hx rfl (pc0 := 209) (pc' := 213) rfl (hb hby at_209) (by decide) (by decide)) ?_
            show own_Fin p e below s _ _ _ (T64.setTop (mkF m 213 #[.val (.int p1), .val (.int p2), .val (.int p3), .val (.int p4), .val (.int p5), .val (.int (p1.toInt8.toInt32)), .val (.int (p2.toInt8.toInt32)), .val (.int (p3.toInt8.toInt32)), .val (.int (p4.toInt8.toInt32)), .val (.int (4 : Int32)), .val (.ref b43), .val (.int (0 : Int32))] [(.int (1 : Int32))]))
            exact own_retN X64 hx hlk (t := .boolean) hret (by simp) (hb hby at_213) ⟨rfl, N64⟩ (by decide) (by decide)
          ·
            refine own_Fin.step (fun _ => XS.ifNo X62.here hx rfl (hb hby at_188) rfl (XT.i0_eq_f hc188_63)) ?_
            show own_Fin p e below s _ _ _ (T62.setTop (mkF m 191 #[.val (.int p1), .val (.int p2), .val (.int p3), .val (.int p4), .val (.int p5), .val (.int (p1.toInt8.toInt32)), .val (.int (p2.toInt8.toInt32)), .val (.int (p3.toInt8.toInt32)), .val (.int (p4.toInt8.toInt32)), .val (.int (4 : Int32)), .val (.ref b43), .unset] []))
            refine own_Fin.step (fun _ => XS.iconst X62.here hx rfl (hb hby at_191)) ?_
            show own_Fin p e below s _ _ _ (T62.setTop (mkF m 192 #[.val (.int p1), .val (.int p2), .val (.int p3), .val (.int p4), .val (.int p5), .val (.int (p1.toInt8.toInt32)), .val (.int (p2.toInt8.toInt32)), .val (.int (p3.toInt8.toInt32)), .val (.int (p4.toInt8.toInt32)), .val (.int (4 : Int32)), .val (.ref b43), .unset] [(.int (1 : Int32))]))
            refine own_Fin.step (fun _ => XS.goto X62.here hx rfl (pc0 := 192) (pc' := 196) rfl (hb hby at_192) (by decide) (by decide)) ?_
            show own_Fin p e below s _ _ _ (T62.setTop (mkF m 196 #[.val (.int p1), .val (.int p2), .val (.int p3), .val (.int p4), .val (.int p5), .val (.int (p1.toInt8.toInt32)), .val (.int (p2.toInt8.toInt32)), .val (.int (p3.toInt8.toInt32)), .val (.int (p4.toInt8.toInt32)), .val (.int (4 : Int32)), .val (.ref b43), .unset] [(.int (1 : Int32))]))
            refine own_Fin.step (fun _ => XS.istore X62.here hx rfl (hb hby at_196) rfl (l' := #[.val (.int p1), .val (.int p2), .val (.int p3), .val (.int p4), .val (.int p5), .val (.int (p1.toInt8.toInt32)), .val (.int (p2.toInt8.toInt32)), .val (.int (p3.toInt8.toInt32)), .val (.int (p4.toInt8.toInt32)), .val (.int (4 : Int32)), .val (.ref b43), .val (.int (1 : Int32))]) rfl) ?_
            show own_Fin p e below s _ _ _ (T62.setTop (mkF m 198 #[.val (.int p1), .val (.int p2), .val (.int p3), .val (.int p4), .val (.int p5), .val (.int (p1.toInt8.toInt32)), .val (.int (p2.toInt8.toInt32)), .val (.int (p3.toInt8.toInt32)), .val (.int (p4.toInt8.toInt32)), .val (.int (4 : Int32)), .val (.ref b43), .val (.int (1 : Int32))] []))
            refine own_Fin.step (fun _ => XS.aload X62.here hx rfl (hb hby at_198) rfl rfl) ?_
            show own_Fin p e below s _ _ _ (T62.setTop (mkF m 200 #[.val (.int p1), .val (.int p2), .val (.int p3), .val (.int p4), .val (.int p5), .val (.int (p1.toInt8.toInt32)), .val (.int (p2.toInt8.toInt32)), .val (.int (p3.toInt8.toInt32)), .val (.int (p4.toInt8.toInt32)), .val (.int (4 : Int32)), .val (.ref b43), .val (.int (1 : Int32))] [(.ref b43)]))
            obtain ⟨_, T65, L65, X65, ⟨rfl, N65q, e65⟩, st65⟩ := own_callS X62 hx hZ hown (own_w hw 1 rfl) (own_w hw 2 rfl) (own_w hw 3 rfl) (own_w hw 4 rfl) (by decide) (rm1 l Z a0 hw b43 k43 (4 : Int32) [(p1.toInt8.toInt32), (p2.toInt8.toInt32), (p3.toInt8.toInt32), (p4.toInt8.toInt32)] (.int (0 : Int32)) h51 n0 Z51 V51' rfl) (by decide) (by decide) e62 (W := 0) (g := (mkF m 200 #[.val (.int p1), .val (.int p2), .val (.int p3), .val (.int p4), .val (.int p5), .val (.int (p1.toInt8.toInt32)), .val (.int (p2.toInt8.toInt32)), .val (.int (p3.toInt8.toInt32)), .val (.int (p4.toInt8.toInt32)), .val (.int (4 : Int32)), .val (.ref b43), .val (.int (1 : Int32))] [(.ref b43)])) rfl (by rw [hml]; rfl) (argsL := [(.ref b43)]) (rest := []) (lenOf pd_0 rfl) rfl rfl (by show 2 * 0 + _ ≤ _; exact Nat.le_of_eq rfl) (hb hby at_200) (by decide) (by decide)
            have N65 := Fr.app N62 N65q
            refine own_Fin.step st65 ?_
            show own_Fin p e below s _ _ _ (T65.setTop (mkF m 203 #[.val (.int p1), .val (.int p2), .val (.int p3), .val (.int p4), .val (.int p5), .val (.int (p1.toInt8.toInt32)), .val (.int (p2.toInt8.toInt32)), .val (.int (p3.toInt8.toInt32)), .val (.int (p4.toInt8.toInt32)), .val (.int (4 : Int32)), .val (.ref b43), .val (.int (1 : Int32))] [(.int (own_plain [(p1.toInt8.toInt32), (p2.toInt8.toInt32), (p3.toInt8.toInt32), (p4.toInt8.toInt32)]))]))
            refine own_Fin.step (fun _ => XS.iload X65.here hx rfl (hb hby at_203) rfl) ?_
            show own_Fin p e below s _ _ _ (T65.setTop (mkF m 205 #[.val (.int p1), .val (.int p2), .val (.int p3), .val (.int p4), .val (.int p5), .val (.int (p1.toInt8.toInt32)), .val (.int (p2.toInt8.toInt32)), .val (.int (p3.toInt8.toInt32)), .val (.int (p4.toInt8.toInt32)), .val (.int (4 : Int32)), .val (.ref b43), .val (.int (1 : Int32))] [(.int (1 : Int32)), (.int (own_plain [(p1.toInt8.toInt32), (p2.toInt8.toInt32), (p3.toInt8.toInt32), (p4.toInt8.toInt32)]))]))
            refine own_Fin.step (fun _ => XS.icmpNo X65.here hx rfl (hb hby at_205) rfl (XT.ii_ne_f (by rw [own_pl, if_neg hc146_54, own_pl, if_neg hc160_57, own_pl, if_neg hc174_60, own_pl, if_neg hc188_63]; rfl))) ?_
            show own_Fin p e below s _ _ _ (T65.setTop (mkF m 208 #[.val (.int p1), .val (.int p2), .val (.int p3), .val (.int p4), .val (.int p5), .val (.int (p1.toInt8.toInt32)), .val (.int (p2.toInt8.toInt32)), .val (.int (p3.toInt8.toInt32)), .val (.int (p4.toInt8.toInt32)), .val (.int (4 : Int32)), .val (.ref b43), .val (.int (1 : Int32))] []))
            refine own_Fin.step (fun _ => XS.iconst X65.here hx rfl (hb hby at_208)) ?_
            show own_Fin p e below s _ _ _ (T65.setTop (mkF m 209 #[.val (.int p1), .val (.int p2), .val (.int p3), .val (.int p4), .val (.int p5), .val (.int (p1.toInt8.toInt32)), .val (.int (p2.toInt8.toInt32)), .val (.int (p3.toInt8.toInt32)), .val (.int (p4.toInt8.toInt32)), .val (.int (4 : Int32)), .val (.ref b43), .val (.int (1 : Int32))] [(.int (1 : Int32))]))
            refine own_Fin.step (fun _ => XS.goto X65.here hx rfl (pc0 := 209) (pc' := 213) rfl (hb hby at_209) (by decide) (by decide)) ?_
            show own_Fin p e below s _ _ _ (T65.setTop (mkF m 213 #[.val (.int p1), .val (.int p2), .val (.int p3), .val (.int p4), .val (.int p5), .val (.int (p1.toInt8.toInt32)), .val (.int (p2.toInt8.toInt32)), .val (.int (p3.toInt8.toInt32)), .val (.int (p4.toInt8.toInt32)), .val (.int (4 : Int32)), .val (.ref b43), .val (.int (1 : Int32))] [(.int (1 : Int32))]))
            exact own_retN X65 hx hlk (t := .boolean) hret (by simp) (hb hby at_213) ⟨rfl, N65⟩ (by decide) (by decide)
set_option maxRecDepth 65536 in
set_option maxHeartbeats 40000000 in
theorem comes_1 {Post : Tables → Env → Array Value → State → Outcome → State → Prop} (hpost : ∀ tb e args s v u, (limb_1_1.after args s (.returned v) u = true ∧ limb_1_2.after args s (.returned v) u = true ∧ True) → FrameEnd s (.returned v) u (Jvm.fieldLocs frame_1_writes args s ++ Jvm.arrayLocs frame_1_arrays args s ++ Jvm.staticLocs frame_1_statics s) 16 128 → Post tb e args s (.returned v) u) :
    ArmFor flags0 classFile x code maxLocals ret World_1 tables_1 room_1 Calls_1 rest_1 Pre_1 Post := by
  intro l hfl _ _ p e ha hc hk s m args below hf hA hF happ hP
  obtain ⟨hcalls, hrest, hpre⟩ := hP
  obtain ⟨-, -, -, hnamed, -, -, -, hat⟩ := (Spec.applies_iff hf).mp happ
  obtain ⟨hg, hn⟩ := and_e (Cond.before_iff.mp (show (Jvm.Cond.and given_1 narrow_1).before args s = true from hpre))
  obtain ⟨hcount, g0⟩ := and_e hg
  obtain ⟨a0, g1⟩ := and_e g0
  obtain ⟨a1, g2⟩ := and_e g1
  obtain ⟨a2, g3⟩ := and_e g2
  obtain ⟨a3, g4⟩ := and_e g3
  have a4 := g4
  obtain ⟨w0, w1, w2, w3, w4, rfl⟩ : ∃ w0 w1 w2 w3 w4 : Value, args = #[w0, w1, w2, w3, w4] := by
    have hs : args.size = 5 := by simpa [Cond.value, given_1] using hcount
    obtain ⟨L⟩ := args
    match L, hs with
    | [w0, w1, w2, w3, w4], _ => exact ⟨w0, w1, w2, w3, w4, rfl⟩
  have hw := fun d (hd : d ∈ tables_1) => atoms_spec (ws := Jvm.Cond.code x code maxLocals ret :: tables_1) hat d (List.mem_cons_of_mem _ hd)
  obtain ⟨i0, ei0⟩ := is_v a0
  obtain rfl : w0 = (.int i0) := Option.some.inj ei0
  obtain ⟨i1, ei1⟩ := is_v a1
  obtain rfl : w1 = (.int i1) := Option.some.inj ei1
  obtain ⟨i2, ei2⟩ := is_v a2
  obtain rfl : w2 = (.int i2) := Option.some.inj ei2
  obtain ⟨i3, ei3⟩ := is_v a3
  obtain rfl : w3 = (.int i3) := Option.some.inj ei3
  obtain ⟨i4, ei4⟩ := is_v a4
  obtain rfl : w4 = (.int i4) := Option.some.inj ei4
  obtain ⟨n, o, h1, h2, h3, _, L, rfl, ⟨rfl, N⟩, hq⟩ := rm0 l s _ hw i0 i1 i2 i3 i4 s.heap s.heap.size (Nat.le_refl _)  p e ha hc hk s m _ below hf ((Spec.applies_iff_loose hf).mp happ).1 ⟨rfl, State.Warmed39.refl s, rfl⟩ trivial
  refine ⟨n, _, h1, h2, h3, hpost _ _ _ _ _ _ ⟨Cond.after_iff.mpr rfl, Cond.after_iff.mpr (eq_i res_at (Term.int_eval (1)) rfl), trivial⟩ ⟨hq.1, hq.2.1, (hq.2.2.sift fun y hy => Or.inr (N y hy)).mono (by decide) (by decide)⟩⟩
theorem main_1_1 : Claimed_1_1 := comes_1 fun _ _ _ _ _ _ h hF => ⟨h.1, hF⟩
theorem main_1_2 : Claimed_1_2 := comes_1 fun _ _ _ _ _ _ h hF => ⟨h.2.1, hF⟩
end Jvm.Pilot.@@N@@
namespace Jvm.Pilot.@@N@@
open Jvm Jvm.ClassFile Sem Op Lib Jvm.Free Jvm.Stand Jvm.Pilot.@@N@@.Jvm.D
/-! MADE BY PROGRAM (witnessworld.py) out of the Statement's table words and the real class files: 9 classes; the members and pool entries that the words name. The judged class is class 1, her method 1. -/
namespace start1
open Jvm.ClassFile
def u (s : String) : CpInfo := .utf8 (stringToUtf16 s)
/-- a pool by its gaps: so many unusable entries, then the entry; so many at the end -/
def gap : Nat → List CpInfo → List CpInfo
  | 0, r => r
  | n + 1, r => .unusable :: gap n r
def poolList (es : List (Nat × CpInfo)) (last : Nat) : List CpInfo := es.foldr (fun e r => gap e.1 (e.2 :: r)) (gap last [])
def pool (es : List (Nat × CpInfo)) (last : Nat) : Array CpInfo := ⟨poolList es last⟩
def fileOf (pool : Array CpInfo) (this : Nat) (attrs : Array Attribute := #[]) (ms : Array MethodInfo := #[]) (fl : Nat := 33) (sup : Nat := 0) (ifs : Array Nat := #[]) (fds : Array FieldInfo := #[]) : ClassFile where
  minorVersion := 0
  majorVersion := 65
  constantPool := pool
  accessFlags := fl
  thisClass := this
  superClass := sup
  interfaces := ifs
  fields := fds
  methods := ms
  attributes := attrs
def plain (name : String) (sup : Option ClassId) : Class where
  name := name
  kind := .ordinary
  loader := none
  accessFlags := 33
  super := sup
  interfaces := #[]
  cf := none
  fields := #[]
  methods := #[]
  instanceTypes := #[]
  staticTypes := #[]
  resolved := #[]
  callSites := []
  init := .initialized
  statics := none
  mirror := none

def pool0 : Array CpInfo := pool [(5, u "<init>"), (0, u "()V"), (1, .class_ 10), (1, u "java/lang/Object")] 113

def k0m0 : Method := { name := "<init>", desc := "()V", sig := { parameters := [], returnType := none }, accessFlags := 1, code := none }
/-- java/lang/Object -/
def k0 : Class := { plain "java/lang/Object" none with
  accessFlags := 33
  interfaces := #[]
  cf := some (fileOf pool0 8 #[] #[{ accessFlags := 1, nameIndex := 5, descriptorIndex := 6, attributes := #[] }] 33 0 #[] #[])
  fields := #[]
  methods := #[k0m0]
  instanceTypes := #[]
  staticTypes := #[]
  resolved := Array.replicate 124 none
  statics := none }

def pool1 : Array CpInfo := pool [(2, .class_ 4), (1, u "java/lang/Object"), (0, u "<init>"), (0, u "()V"), (0, .methodref 8 9), (0, .class_ 10), (0, .nameAndType 11 12), (0, u "com/example/covenantry/covenantry/input/CsvRecordIsPlainPinLaw"), (0, u "ok"), (0, u "(B)Z"), (0, .methodref 14 15), (0, .class_ 16), (0, .nameAndType 17 18), (0, u "com/example/covenantry/covenantry/input/CsvRecord"), (0, u "isPlain"), (0, u "([B)Z"), (2, u "law"), (0, u "(IIIII)Z")] 5

def k1m0 : Method := { name := "<init>", desc := "()V", sig := { parameters := [], returnType := none }, accessFlags := 2, code := none }
def k1c1 : Code := { maxStack := 4, maxLocals := 12, code := code, exceptionTable := #[], attributes := #[] }
def k1m1 : Method := { name := "law", desc := "(IIIII)Z", sig := { parameters := [.int, .int, .int, .int, .int], returnType := some .boolean }, accessFlags := 9, code := some k1c1 }
def k1c2 : Code := { maxStack := 2, maxLocals := 1, code := method_3_code, exceptionTable := #[], attributes := #[] }
def k1m2 : Method := { name := "ok", desc := "(B)Z", sig := { parameters := [.byte], returnType := some .boolean }, accessFlags := 10, code := some k1c2 }
/-- com/example/covenantry/covenantry/input/CsvRecordIsPlainPinLaw -/
def k1 : Class := { plain "com/example/covenantry/covenantry/input/CsvRecordIsPlainPinLaw" (some 0) with
  accessFlags := 49
  interfaces := #[]
  cf := some (fileOf pool1 8 #[] #[{ accessFlags := 2, nameIndex := 5, descriptorIndex := 6, attributes := #[] }, { accessFlags := 9, nameIndex := 21, descriptorIndex := 22, attributes := #[] }, { accessFlags := 10, nameIndex := 11, descriptorIndex := 12, attributes := #[] }] 49 2 #[] #[])
  fields := #[]
  methods := #[k1m0, k1m1, k1m2]
  instanceTypes := #[]
  staticTypes := #[]
  resolved := Array.replicate 28 none
  statics := none }

def pool2 : Array CpInfo := pool [(2, .class_ 4), (1, u "java/lang/Object"), (0, u "<init>"), (0, u "()V"), (1, .class_ 10), (1, u "com/example/covenantry/covenantry/input/CsvRecord"), (0, u "line"), (0, u "[B"), (2, u "starts"), (0, u "[I"), (2, u "ends"), (2, u "quoted"), (0, u "[Z"), (2, u "unquoted"), (9, u "size"), (31, u "lineFrom"), (0, u "I"), (2, u "lineTo"), (4, u "unquotedLength"), (121, u "COMMA"), (0, u "B"), (2, u "QUOTE"), (1, u "INITIAL_FIELDS"), (1, u "INITIAL_UNQUOTED"), (15, u "isPlain"), (0, u "([B)Z")] 30

def k2m0 : Method := { name := "<init>", desc := "()V", sig := { parameters := [], returnType := none }, accessFlags := 1, code := none }
def k2c1 : Code := { maxStack := 2, maxLocals := 5, code := prog_122_method_8_code, exceptionTable := #[], attributes := #[] }
def k2m1 : Method := { name := "isPlain", desc := "([B)Z", sig := { parameters := [(.array .byte)], returnType := some .boolean }, accessFlags := 8, code := some k2c1 }
/-- com/example/covenantry/covenantry/input/CsvRecord -/
def k2 : Class := { plain "com/example/covenantry/covenantry/input/CsvRecord" (some 0) with
  accessFlags := 49
  interfaces := #[]
  cf := some (fileOf pool2 8 #[] #[{ accessFlags := 1, nameIndex := 5, descriptorIndex := 6, attributes := #[] }, { accessFlags := 8, nameIndex := 223, descriptorIndex := 224, attributes := #[] }] 49 2 #[] #[{ accessFlags := 26, nameIndex := 199, descriptorIndex := 200, attributes := #[] }, { accessFlags := 26, nameIndex := 203, descriptorIndex := 200, attributes := #[] }, { accessFlags := 26, nameIndex := 205, descriptorIndex := 69, attributes := #[] }, { accessFlags := 26, nameIndex := 207, descriptorIndex := 69, attributes := #[] }, { accessFlags := 2, nameIndex := 11, descriptorIndex := 12, attributes := #[] }, { accessFlags := 2, nameIndex := 68, descriptorIndex := 69, attributes := #[] }, { accessFlags := 2, nameIndex := 72, descriptorIndex := 69, attributes := #[] }, { accessFlags := 2, nameIndex := 36, descriptorIndex := 69, attributes := #[] }, { accessFlags := 2, nameIndex := 15, descriptorIndex := 16, attributes := #[] }, { accessFlags := 2, nameIndex := 19, descriptorIndex := 16, attributes := #[] }, { accessFlags := 2, nameIndex := 22, descriptorIndex := 23, attributes := #[] }, { accessFlags := 2, nameIndex := 26, descriptorIndex := 12, attributes := #[] }, { accessFlags := 2, nameIndex := 77, descriptorIndex := 69, attributes := #[] }])
  fields := #[{ name := "COMMA", type := .byte, accessFlags := 26, slot := 0, constantValue := 0 }, { name := "QUOTE", type := .byte, accessFlags := 26, slot := 1, constantValue := 0 }, { name := "INITIAL_FIELDS", type := .int, accessFlags := 26, slot := 2, constantValue := 0 }, { name := "INITIAL_UNQUOTED", type := .int, accessFlags := 26, slot := 3, constantValue := 0 }, { name := "line", type := (.array .byte), accessFlags := 2, slot := 0, constantValue := 0 }, { name := "lineFrom", type := .int, accessFlags := 2, slot := 1, constantValue := 0 }, { name := "lineTo", type := .int, accessFlags := 2, slot := 2, constantValue := 0 }, { name := "size", type := .int, accessFlags := 2, slot := 3, constantValue := 0 }, { name := "starts", type := (.array .int), accessFlags := 2, slot := 4, constantValue := 0 }, { name := "ends", type := (.array .int), accessFlags := 2, slot := 5, constantValue := 0 }, { name := "quoted", type := (.array .boolean), accessFlags := 2, slot := 6, constantValue := 0 }, { name := "unquoted", type := (.array .byte), accessFlags := 2, slot := 7, constantValue := 0 }, { name := "unquotedLength", type := .int, accessFlags := 2, slot := 8, constantValue := 0 }]
  methods := #[k2m0, k2m1]
  instanceTypes := #[(.array .byte), .int, .int, .int, (.array .int), (.array .int), (.array .boolean), (.array .byte), .int]
  staticTypes := #[.byte, .byte, .int, .int]
  resolved := Array.replicate 255 none
  statics := none }

def pool3 : Array CpInfo := pool [(1, u "java/lang/Cloneable"), (0, .class_ 1), (0, u "java/lang/Object"), (0, .class_ 3)] 3

/-- java/lang/Cloneable -/
def k3 : Class := { plain "java/lang/Cloneable" (some 0) with
  accessFlags := 1537
  interfaces := #[]
  cf := some (fileOf pool3 2 #[] #[] 1537 4 #[] #[])
  fields := #[]
  methods := #[]
  instanceTypes := #[]
  staticTypes := #[]
  resolved := Array.replicate 8 none
  statics := none }

def pool4 : Array CpInfo := pool [(1, u "java/io/Serializable"), (0, .class_ 1), (0, u "java/lang/Object"), (0, .class_ 3)] 3

/-- java/io/Serializable -/
def k4 : Class := { plain "java/io/Serializable" (some 0) with
  accessFlags := 1537
  interfaces := #[]
  cf := some (fileOf pool4 2 #[] #[] 1537 4 #[] #[])
  fields := #[]
  methods := #[]
  instanceTypes := #[]
  staticTypes := #[]
  resolved := Array.replicate 8 none
  statics := none }

/-- the primitive byte -/
def k5 : Class := { plain "byte" none with kind := .primitive 'B', accessFlags := 0x411 }
/-- [B -/
def k6 : Class := { plain "[B" (some 0) with kind := .array 5 .byte, interfaces := #[3, 4], accessFlags := 1041 }

/-- the primitive int -/
def k7 : Class := { plain "int" none with kind := .primitive 'I', accessFlags := 0x411 }
/-- [I -/
def k8 : Class := { plain "[I" (some 0) with kind := .array 7 .int, interfaces := #[3, 4], accessFlags := 1041 }

def heap : Heap := #[]
def classes : Array Class := #[k0, k1, k2, k3, k4, k5, k6, k7, k8]
def interned : List (Array UInt16 × Addr) := []
def slotsUsed : Nat := 0
def theMethod : MethodId := ⟨1, 1⟩
def args0 : Array Value := #[.int 5, .int 44, .int 77, .int 1, .int 3]
def aboutOver (below : List Frame) : State where
  vm := { classes := classes, interned := interned.toArray }
  heap := heap
  slotsUsed := slotsUsed
  threads := #[{ frames := .invoking theMethod args0 :: below }]
def below0 : List Frame := [.native { method := ⟨0, 0⟩, args := #[] }]
def about1 : State := aboutOver below0
def p0 : Program := .bare "" "" ""
def e0 : Env := launch0.env 0 0 0
theorem w_frames : about1.frames = Frame.invoking theMethod args0 :: below0 := rfl
set_option maxRecDepth 65536 in
theorem w_args : argsFit about1.vm theMethod args0 = true := by decide +kernel
set_option maxRecDepth 65536 in
theorem w_heap : heapFits about1 = true := by decide +kernel
set_option maxRecDepth 65536 in
theorem w_runnable : about1.curStatus? = some .runnable := by decide +kernel
set_option maxRecDepth 65536 in
theorem w_alone : about1.alone = true := by decide +kernel
set_option maxRecDepth 65536 in
theorem w_named : about1.methodNamed? x = some theMethod := by decide +kernel
set_option maxRecDepth 65536 in
theorem w_hears : about1.hears theMethod below0 = true := by decide +kernel
set_option maxRecDepth 65536 in
theorem w_ripe : about1.ripe theMethod args0 below0 = true := by decide +kernel
theorem w_running : about1.status = .running := rfl
set_option maxRecDepth 65536 in
theorem w_room : about1.hasRoom e0.platform room_1 = true :=
  launch0.hasRoom_least _ room_1 (by decide +kernel) (by decide +kernel) (by decide +kernel) (by decide +kernel) (by decide +kernel) (by decide +kernel)
theorem allAtoms_all (ts : List Jvm.Cond) (a : Array Jvm.Value) (st : Jvm.State) : (allAtoms ts).before a st = ts.all (fun c => c.before a st) := by
  induction ts with
  | nil => rfl
  | cons c t ih =>
    show (Jvm.Cond.and c (allAtoms t)).before a st = _
    rw [Jvm.Cond.before_and, ih, List.all_cons]
def words1 : List Jvm.Cond := Jvm.Cond.code x code maxLocals ret :: tables_1
/-- a 'code' word, met by the world's own term for the bytes: nothing is compared byte by byte -/
theorem code_word {y : MethodName} {bytes : ByteArray} {mx : Nat} {rt : Option FieldType} {a : Array Value} {s : State} {m : MethodId} {meth : Method} {c : Code} (h1 : s.methodNamed? y = some m) (h2 : s.vm.method? m = some meth) (h3 : meth.code = some c) (h4 : c.code = bytes)
    (h5 : (c.maxLocals == mx && c.exceptionTable.isEmpty && decide (c.maxStack ≤ mostOperands) && decide (meth.sig.returnType = rt) && !meth.locks && decide (parseMethodDescriptor y.desc = some meth.sig)) = true) : (Jvm.Cond.code y bytes mx rt).before a s = true := by
  simp only [Bool.and_eq_true, beq_iff_eq, Bool.not_eq_true', decide_eq_true_eq] at h5
  obtain ⟨⟨⟨⟨⟨g1, g2⟩, g3⟩, g4⟩, g5⟩, g6⟩ := h5
  simp [Cond.before, Cond.holds, Cond.value, h1, h2, h3, h4, g1, g2, g3, g4, g5, g6]
def isCode : Jvm.Cond → Bool
  | .code _ _ _ _ => true
  | _ => false
theorem all_split {L : List Jvm.Cond} {P : Jvm.Cond → Bool} (h1 : L.all (fun c => isCode c || P c) = true) (h2 : ∀ c ∈ L.filter isCode, P c = true) : L.all P = true := by
  refine List.all_eq_true.mpr fun c hc => ?_
  have h := List.all_eq_true.mp h1 c hc
  rcases Bool.eq_false_or_eq_true (isCode c) with hi | hi
  · exact h2 c (List.mem_filter.mpr ⟨hc, hi⟩)
  · simpa [hi] using h
set_option maxRecDepth 65536 in
theorem w_c0 : (Jvm.Cond.code x code maxLocals ret).before args0 about1 = true := code_word (m := ⟨1, 1⟩) (meth := k1m1) (c := k1c1) (by decide +kernel) rfl rfl rfl (by decide +kernel)
set_option maxRecDepth 65536 in
theorem w_c1 : (Jvm.Cond.code ({ cls := "com/example/covenantry/covenantry/input/CsvRecord", name := "isPlain", desc := "([B)Z" } : Jvm.MethodName) prog_122_method_8_code (5 : Nat) (Option.some Jvm.ClassFile.FieldType.boolean)).before args0 about1 = true := code_word (m := ⟨2, 1⟩) (meth := k2m1) (c := k2c1) (by decide +kernel) rfl rfl rfl (by decide +kernel)
set_option maxRecDepth 65536 in
theorem w_c2 : (Jvm.Cond.code ({ cls := "com/example/covenantry/covenantry/input/CsvRecordIsPlainPinLaw", name := "ok", desc := "(B)Z" } : Jvm.MethodName) method_3_code (1 : Nat) (Option.some Jvm.ClassFile.FieldType.boolean)).before args0 about1 = true := code_word (m := ⟨1, 2⟩) (meth := k1m2) (c := k1c2) (by decide +kernel) rfl rfl rfl (by decide +kernel)
def codes1 : List Jvm.Cond := [Jvm.Cond.code x code maxLocals ret, Jvm.Cond.code ({ cls := "com/example/covenantry/covenantry/input/CsvRecord", name := "isPlain", desc := "([B)Z" } : Jvm.MethodName) prog_122_method_8_code (5 : Nat) (Option.some Jvm.ClassFile.FieldType.boolean), Jvm.Cond.code ({ cls := "com/example/covenantry/covenantry/input/CsvRecordIsPlainPinLaw", name := "ok", desc := "(B)Z" } : Jvm.MethodName) method_3_code (1 : Nat) (Option.some Jvm.ClassFile.FieldType.boolean)]
set_option maxRecDepth 65536 in
theorem codes_eq : words1.filter isCode = codes1 := rfl
theorem w_codes : ∀ c ∈ words1.filter isCode, c.before args0 about1 = true := by
  rw [codes_eq]
  intro c hc
  simp only [codes1, List.mem_cons, List.not_mem_nil, or_false] at hc
  rcases hc with rfl | rfl | rfl
  · exact w_c0
  · exact w_c1
  · exact w_c2
set_option maxRecDepth 65536 in
theorem w_t1 : words1.all (fun c => isCode c || c.before args0 about1) = true := by decide +kernel
theorem w_tables : (allAtoms (Jvm.Cond.code x code maxLocals ret :: tables_1)).before args0 about1 = true := by
  rw [allAtoms_all]
  show words1.all (fun c => c.before args0 about1) = true
  refine all_split ?_ w_codes
  rw [w_t1]
set_option maxRecDepth 65536 in
theorem w_case : (Jvm.Cond.and given_1 narrow_1).before args0 about1 = true := by decide +kernel
theorem w_applies : (headSpec (Jvm.Cond.code x code maxLocals ret :: tables_1) room_1).applies x e0.platform about1 = true :=
  (Spec.applies_iff w_frames).mpr ⟨w_running, w_runnable, w_alone, w_named, w_hears, w_ripe, w_room, w_tables⟩
theorem atStart : AtStart classFile x code maxLocals ret World_1 tables_1 room_1 Calls_1 rest_1 Pre_1 launch0 p0 e0 about1 theMethod args0 below0 :=
  ⟨lists_1, trivial, launch0.admits_env _ _ _, launch0.least_env, fairChoices_fair.cas, fairChoices_fair.clock, w_frames, w_args, w_heap, w_applies, trivial, trivial, w_case⟩
end start1
theorem witness_1 : WitnessClaimed_1 := ⟨start1.p0, start1.e0, start1.about1, start1.theMethod, start1.args0, start1.below0, start1.atStart⟩
end Jvm.Pilot.@@N@@
