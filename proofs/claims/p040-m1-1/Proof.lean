import JvmDerived
import JvmDerived.Pilot.@@N@@Statement
import JvmDerived.Pilot.@@N@@Code
set_option linter.unusedVariables false
set_option linter.unusedSimpArgs false
namespace Jvm.Pilot.@@N@@
open Jvm Jvm.ClassFile Sem Op Lib Jvm.Free Jvm.Stand Jvm.LawKit Jvm.RoadKit Bundle Jvm.Pilot.@@N@@.Jvm.D

section OwnKit
variable {p : Program} {l : Launch} {e : Env} {R : Room} {s : State} {m : MethodId} {args : Array Value} {below : List Frame} {meth : Method} {c : Code} {T : State} {locs : List Loc} {cells slots : Nat} {Z : State} {a0 : Array Value} {h : Heap}
/-- from T at frame F the walk reaches a state that P holds of -/
def own_R (tb : Tables) (e : Env) (below : List Frame) (P : State → Prop) (T : State) (F : JFrame) : Prop := ∃ t, Steps tb e below (T.setTop F) t ∧ P t
theorem own_go {tb : Tables} {e : Env} {below : List Frame} {P : State → Prop} {T T' : State} {F F' : JFrame} (h : ∀ t, Steps tb e below (T'.setTop F') t → Steps tb e below (T.setTop F) t) (r : own_R tb e below P T' F') : own_R tb e below P T F := by
  obtain ⟨t, a, b⟩ := r
  exact ⟨t, h t a, b⟩
/-- what a body's end must meet -/
def own_E (s : State) (below : List Frame) (Q : Option Value → Heap → List Loc → Prop) (C N : Nat) (t : State) : Prop := ∃ v L, t.status = .running ∧ Ended t below (.returned v) ∧ Q v t.heap L ∧ FrameEnd s (.returned v) t L C N
/-- a body's contract -/
abbrev own_C (l : Launch) (Z : State) (y : MethodName) (bytes : ByteArray) (ml : Nat) (ret : Option FieldType) (ws : List Jvm.Cond) (rm : Room) (as : Array Value) (h0 : Heap) (Q : Option Value → Heap → List Loc → Prop) : Prop :=
  MetFree l y (head1 (Jvm.Cond.code y bytes ml ret :: ws) rm) (fun a U => a = as ∧ Z.Warmed39 U.vm ∧ U.heap = h0) (fun _ _ _ _ _ => True) (fun _ U o U' => ∃ v L, o = .returned v ∧ Q v U'.heap L ∧ FrameEnd U o U' L rm.cells rm.slots)
theorem own_body {y : MethodName} {bytes : ByteArray} {ml : Nat} {ret : Option FieldType} {ws : List Jvm.Cond} {rm : Room} {as : Array Value} {h0 : Heap} {Q : Option Value → Heap → List Loc → Prop} {ls : Array Slot}
    (hy : plainFor y = true) (hef : ∀ m, entryFrame m as ml = mkF m 0 ls [])
    (H : ∀ (p : Program) (e : Env) (s : State) (m : MethodId) (below : List Frame) (meth : Method) (c : Code) (T : State), Z.Warmed39 s.vm → p.tables.exec = Jvm.exec → c.code = bytes → c.maxLocals = ml → s.vm.findClass y.cls = some m.cls → meth.name = y.name → meth.sig.returnType = ret → meth.locks = false →
      Stand p l e rm s m as below meth c T [] 0 0 → T.heap = h0 → own_R p.tables e below (own_E s below Q rm.cells rm.slots) T (mkF m 0 ls [])) :
    own_C l Z y bytes ml ret ws rm as h0 Q := by
  refine MetFree.of_bodySF hy hisR ?_
  intro p e s m args below meth c s₁ Bd hml0 hP hK
  obtain ⟨rfl, hZ, hh⟩ := hP
  obtain ⟨t, st, v, L, h1, h2, h3, h4⟩ := H p e s m below meth c s₁ hZ Bd.exec Bd.bytes hml0 (findClass_of_methodNamed Bd.named) (name_of_methodNamed Bd.named Bd.method).1 Bd.returns Bd.notSynchronized (Stand.of_body Bd) (by rw [← hh, Bd.state]; rfl)
  exact ⟨t, _, castTop (hef m) st, h1, h2, v, L, rfl, h3, h4⟩
theorem own_end {Q : Option Value → Heap → List Loc → Prop} {C N : Nat} {F : JFrame} (X : Stand p l e R s m args below meth c T locs cells slots) (v : Option Value) (hv : meth.sig.returnType = none → v = none) (hlk : meth.locks = false)
    (hst : ∀ fs, (∀ (f : JFrame) (acts : List Action), f.method = m → f.locked = none → f.entered = [] → (doReturn e (T.setTop f) acts v).1 = T.setFrames fs) → Steps p.tables e below (T.setTop F) (T.setFrames fs))
    (hQ : Q v T.heap locs) (hc : cells ≤ C) (hn : slots ≤ N) : own_R p.tables e below (own_E s below Q C N) T F := by
  obtain ⟨fs, hr, hrun, hended, hW, hsame⟩ := X.leave (v := v) hv hlk
  exact ⟨_, hst fs hr, v, locs, hrun, hended, hQ, ⟨_, rfl⟩, hW, hsame.mono hc hn⟩
theorem own_retI (X : Stand p l e R s m args below meth c T locs cells slots) (hx : p.tables.exec = Jvm.exec) {pc : Nat} {Ls : Array Slot} {z : Int32} {rest : List Value} (hret : meth.sig.returnType = some .int) (hd : decode c.code pc = .ok (.ireturn, 1)) {fs : List Frame}
    (hl : ∀ (f : JFrame) (acts : List Action), f.method = m → f.locked = none → f.entered = [] → (doReturn e (T.setTop f) acts (some (.int z))).1 = T.setFrames fs) : Steps p.tables e below (T.setTop (mkF m pc Ls (.int z :: rest))) (T.setFrames fs) := by
  have hm' : T.vm.method? m = some meth := X.method'
  have hn : narrow .int (.int z) = .int z := rfl
  show Steps p.tables e below (T.setTop { method := m, pc := pc, locals := Ls, stack := _ :: rest, locked := none }) _
  jvm_step X.here [X.here.top, hx, hd, hm', hret, hn]
  first | (intro acts; rw [hl _ acts rfl rfl rfl]) | rw [hl _ _ rfl rfl rfl]
  exact Steps.refl _
theorem own_retJ (X : Stand p l e R s m args below meth c T locs cells slots) (hx : p.tables.exec = Jvm.exec) {pc : Nat} {Ls : Array Slot} {z : Int64} {rest : List Value} (hret : meth.sig.returnType = some .long) (hd : decode c.code pc = .ok (.lreturn, 1)) {fs : List Frame}
    (hl : ∀ (f : JFrame) (acts : List Action), f.method = m → f.locked = none → f.entered = [] → (doReturn e (T.setTop f) acts (some (.long z))).1 = T.setFrames fs) : Steps p.tables e below (T.setTop (mkF m pc Ls (.long z :: rest))) (T.setFrames fs) := by
  have hm' : T.vm.method? m = some meth := X.method'
  have hn : narrow .long (.long z) = .long z := rfl
  show Steps p.tables e below (T.setTop { method := m, pc := pc, locals := Ls, stack := _ :: rest, locked := none }) _
  jvm_step X.here [X.here.top, hx, hd, hm', hret, hn]
  first | (intro acts; rw [hl _ acts rfl rfl rfl]) | rw [hl _ _ rfl rfl rfl]
  exact Steps.refl _
theorem own_retD (X : Stand p l e R s m args below meth c T locs cells slots) (hx : p.tables.exec = Jvm.exec) {pc : Nat} {Ls : Array Slot} {z : UInt64} {rest : List Value} (hret : meth.sig.returnType = some .double) (hd : decode c.code pc = .ok (.dreturn, 1)) {fs : List Frame}
    (hl : ∀ (f : JFrame) (acts : List Action), f.method = m → f.locked = none → f.entered = [] → (doReturn e (T.setTop f) acts (some (.double z))).1 = T.setFrames fs) : Steps p.tables e below (T.setTop (mkF m pc Ls (.double z :: rest))) (T.setFrames fs) := by
  have hm' : T.vm.method? m = some meth := X.method'
  have hn : narrow .double (.double z) = .double z := rfl
  show Steps p.tables e below (T.setTop { method := m, pc := pc, locals := Ls, stack := _ :: rest, locked := none }) _
  jvm_step X.here [X.here.top, hx, hd, hm', hret, hn]
  first | (intro acts; rw [hl _ acts rfl rfl rfl]) | rw [hl _ _ rfl rfl rfl]
  exact Steps.refl _
theorem own_retA (X : Stand p l e R s m args below meth c T locs cells slots) (hx : p.tables.exec = Jvm.exec) {pc : Nat} {Ls : Array Slot} {z : Value} {t : FieldType} {rest : List Value} (hret : meth.sig.returnType = some t) (ht : t.isReference = true) (hz : z.isRef = true) (hd : decode c.code pc = .ok (.areturn, 1)) {fs : List Frame}
    (hl : ∀ (f : JFrame) (acts : List Action), f.method = m → f.locked = none → f.entered = [] → (doReturn e (T.setTop f) acts (some z)).1 = T.setFrames fs) : Steps p.tables e below (T.setTop (mkF m pc Ls (z :: rest))) (T.setFrames fs) := by
  have hm' : T.vm.method? m = some meth := X.method'
  show Steps p.tables e below (T.setTop { method := m, pc := pc, locals := Ls, stack := _ :: rest, locked := none }) _
  jvm_step X.here [X.here.top, hx, hd, hm', hret, ht, hz]
  first | (intro acts; rw [hl _ acts rfl rfl rfl]) | rw [hl _ _ rfl rfl rfl]
  exact Steps.refl _
theorem own_len {a : Addr} {k : ClassId} {ty : FieldType} {n : Int32} {vs : List Value} {d : Value} (X : Stand p l e R s m args below meth c T locs cells slots) (hx : p.tables.exec = Jvm.exec) (hZ : Z.Warmed39 s.vm) (eT : T.heap = h) (V : Arv Z h a k ty n vs d)
    {g : JFrame} (hg : g.method = m) {rest : List Value} (hs : g.stack = .ref a :: rest) (hd : decode c.code g.pc = .ok (.arraylength, 1)) :
    ∀ t, Steps p.tables e below (T.setTop { g with pc := g.pc + 1, stack := .int n :: rest }) t → Steps p.tables e below (T.setTop g) t := by
  obtain ⟨cl, Ar, -, S, N, -, -⟩ := V
  intro t st
  refine X.arraylength hx (by rw [eT]; exact Ar.1) (State.isArrayOf_alike hZ.alike Ar.2.1) hg hs hd t ?_
  rw [len_of S N]
  exact st
theorem own_ldD {a : Addr} {k : ClassId} {n j : Int32} {vs : List Value} {d v : Value} (X : Stand p l e R s m args below meth c T locs cells slots) (hx : p.tables.exec = Jvm.exec) (hZ : Z.Warmed39 s.vm) (eT : T.heap = h) (V : Arv Z h a k .double n vs d) (hj : ¬ j < 0 ∧ j < n) (hv : vs.getD j.toNatClampNeg d = v)
    {g : JFrame} (hg : g.method = m) {rest : List Value} (hs : g.stack = .int j :: .ref a :: rest) (hd : decode c.code g.pc = .ok (.daload, 1)) :
    ∀ t, Steps p.tables e below (T.setTop { g with pc := g.pc + 1, stack := v :: rest }) t → Steps p.tables e below (T.setTop g) t := by
  obtain ⟨cl, Ar, -, S, N, H, -⟩ := V
  intro t st
  exact X.daload hx (by rw [eT]; exact Ar.1) (State.isArrayOf_alike hZ.alike Ar.2.1) Ar.2.2 (inb_of S hj) (H.at (inb_of S hj) hv) hg hs hd t st
theorem own_ldZ {a : Addr} {k : ClassId} {n j : Int32} {vs : List Value} {d v : Value} (X : Stand p l e R s m args below meth c T locs cells slots) (hx : p.tables.exec = Jvm.exec) (hZ : Z.Warmed39 s.vm) (eT : T.heap = h) (V : Arv Z h a k .boolean n vs d) (hj : ¬ j < 0 ∧ j < n) (hv : vs.getD j.toNatClampNeg d = v)
    {g : JFrame} (hg : g.method = m) {rest : List Value} (hs : g.stack = .int j :: .ref a :: rest) (hd : decode c.code g.pc = .ok (.baload, 1)) :
    ∀ t, Steps p.tables e below (T.setTop { g with pc := g.pc + 1, stack := v :: rest }) t → Steps p.tables e below (T.setTop g) t := by
  obtain ⟨cl, Ar, -, S, N, H, -⟩ := V
  intro t st
  exact X.baloadBooleans hx (by rw [eT]; exact Ar.1) (State.isArrayOf_alike hZ.alike Ar.2.1) Ar.2.2 (inb_of S hj) (H.at (inb_of S hj) hv) hg hs hd t st
theorem own_stD {a : Addr} {k : ClassId} {n j : Int32} {vs : List Value} {d : Value} {x : UInt64} (X : Stand p l e R s m args below meth c T locs cells slots) (hx : p.tables.exec = Jvm.exec) (hZ : Z.Warmed39 s.vm) (eT : T.heap = h) (V : Arv Z h a k .double n vs d) (hj : ¬ j < 0 ∧ j < n) (i : Nat) (hji : j.toNatClampNeg = i) (hi : i < vs.length)
    {g : JFrame} (hg : g.method = m) {rest : List Value} (hs : g.stack = .double x :: .int j :: .ref a :: rest) (hd : decode c.code g.pc = .ok (.dastore, 1)) :
    ∃ T' h', Stand p l e R s m args below meth c T' (locs ++ [⟨a, j.toNatClampNeg⟩]) cells slots ∧ T'.heap = h' ∧ Wr h h' a j.toNatClampNeg (.double x) ∧ Arv Z h' a k .double n (vs.set i (.double x)) d ∧ ∀ t, Steps p.tables e below (T'.setTop { g with pc := g.pc + 1, stack := rest }) t → Steps p.tables e below (T.setTop g) t := by
  obtain ⟨cl, Ar, q, S, N, H, G⟩ := V
  obtain ⟨T', h', X', e', W, st⟩ := stD X hx hZ eT Ar (inb_of S hj) hg hs hd
  exact ⟨T', h', X', e', W, Arv.set Ar q S N H G rfl W i hji hi, st⟩
theorem own_stZ {a : Addr} {k : ClassId} {n j : Int32} {vs : List Value} {d : Value} {x : Int32} (X : Stand p l e R s m args below meth c T locs cells slots) (hx : p.tables.exec = Jvm.exec) (hZ : Z.Warmed39 s.vm) (eT : T.heap = h) (V : Arv Z h a k .boolean n vs d) (hj : ¬ j < 0 ∧ j < n) (i : Nat) (hji : j.toNatClampNeg = i) (hi : i < vs.length) (h01 : x = 0 ∨ x = 1)
    {g : JFrame} (hg : g.method = m) {rest : List Value} (hs : g.stack = .int x :: .int j :: .ref a :: rest) (hd : decode c.code g.pc = .ok (.bastore, 1)) :
    ∃ T' h', Stand p l e R s m args below meth c T' (locs ++ [⟨a, j.toNatClampNeg⟩]) cells slots ∧ T'.heap = h' ∧ Wr h h' a j.toNatClampNeg (.int x) ∧ Arv Z h' a k .boolean n (vs.set i (.int x)) d ∧ ∀ t, Steps p.tables e below (T'.setTop { g with pc := g.pc + 1, stack := rest }) t → Steps p.tables e below (T.setTop g) t := by
  obtain ⟨cl, Ar, q, S, N, H, G⟩ := V
  obtain ⟨T', h', X', e', W, st⟩ := stZ X hx hZ eT Ar (inb_of S hj) hg hs hd
  have en : nar .boolean x = x := by rcases h01 with rfl | rfl <;> rfl
  rw [en] at W
  exact ⟨T', h', X', e', W, Arv.set Ar q S N H G (by rcases h01 with rfl | rfl <;> rfl) W i hji hi, st⟩
/-- a payer's form: what the three calls ask -/
abbrev own_B (l : Launch) (R : Room) (p : Program) (e : Env) (below : List Frame) (s : State) (args : Array Value) (y : MethodName) (W : Nat) (as : Array Value) (h : Heap) (kc ks : Nat) (Q : Option Value → Heap → List Loc → Prop) : Prop :=
  Back l R p e below s args y 3 W (fun A a => a = as ∧ A.U.heap = h ∧ A.cells + kc ≤ R.cells ∧ A.slots + ks ≤ R.slots) (fun A _ v B => ∃ L, Q v B.U.heap L ∧ B.locs = A.locs ++ L ∧ B.cells = A.cells + kc ∧ B.slots = A.slots + ks)
theorem own_backS (X : Stand p l e R s m args below meth c T locs cells slots) (hx : p.tables.exec = Jvm.exec) (hZ : Z.Warmed39 s.vm) {own : String} (hown : s.vm.findClass own = some m.cls) {index : Nat} {y : MethodName} {bytes : ByteArray} {maxL : Nat} {ret : Option FieldType}
    (w1 : (Jvm.Cond.methodLink own index y).before a0 Z = true) (w2 : (Jvm.Cond.static y).before a0 Z = true) (w3 : (Jvm.Cond.initialized y.cls).before a0 Z = true) (w4 : (Jvm.Cond.code y bytes maxL ret).before a0 Z = true) (hy : y.cls ≠ "java/lang/invoke/MethodHandle" ∧ y.cls ≠ "java/lang/invoke/VarHandle")
    {W kc ks : Nat} {as : Array Value} {Q : Option Value → Heap → List Loc → Prop} (hK : own_B l R p e below s args y W as h kc ks Q) 
    {g : JFrame} (hg : g.method = m) (hsize : g.locals.size = c.maxLocals) {argsL rest : List Value} (hlen : ∀ sig, parseMethodDescriptor y.desc = some sig → argsL.length = sig.parameters.length)
    (hst : g.stack = argsL.reverse ++ rest) (has : argsL.toArray = as) (hW : 2 * g.monitorRoom + (rest.map fun v => v.category).sum ≤ W) (hd : decode c.code g.pc = .ok (.invokestatic index, 3)) (eT : T.heap = h)
    (hc : cells + kc ≤ R.cells) (hs : slots + ks ≤ R.slots) :
    ∃ v T' L, Stand p l e R s m args below meth c T' (locs ++ L) (cells + kc) (slots + ks) ∧ Q v T'.heap L ∧ ∀ t, Steps p.tables e below (T'.setTop { g with pc := g.pc + 3, stack := v.toList ++ rest }) t → Steps p.tables e below (T.setTop g) t := by
  obtain ⟨v, vm1, ⟨T1, L1, k1, n1⟩, -, X1, ⟨Lc, hQ, l1, y1, z1⟩, st⟩ := Jvm.LawKit.callS X hx (y := y) hown (mvT hZ w1) (mvT hZ w2) (mvT hZ w3) (mvT hZ w4) hy hK hg hsize (argsL := argsL) (rest := rest) hlen hst hW hd (fun _ _ => ⟨has, eT, hc, hs⟩)
  dsimp only [Pt.U, Pt.locs, Pt.cells, Pt.slots] at X1 l1 y1 z1 st hQ
  subst l1 y1 z1
  exact ⟨v, T1, Lc, X1, hQ, st⟩
theorem own_callS (X : Stand p l e R s m args below meth c T locs cells slots) (hx : p.tables.exec = Jvm.exec) (hZ : Z.Warmed39 s.vm) {own : String} (hown : s.vm.findClass own = some m.cls) {index : Nat} {y : MethodName} {bytes : ByteArray} {maxL : Nat} {ret : Option FieldType}
    (w1 : (Jvm.Cond.methodLink own index y).before a0 Z = true) (w2 : (Jvm.Cond.static y).before a0 Z = true) (w3 : (Jvm.Cond.initialized y.cls).before a0 Z = true) (w4 : (Jvm.Cond.code y bytes maxL ret).before a0 Z = true) (hy : y.cls ≠ "java/lang/invoke/MethodHandle" ∧ y.cls ≠ "java/lang/invoke/VarHandle")
    {rm : Room} {as : Array Value} {Q : Option Value → Heap → List Loc → Prop} (hM : own_C l Z y bytes maxL ret [] rm as h Q) {W : Nat}
    {g : JFrame} (hg : g.method = m) (hsize : g.locals.size = c.maxLocals) {argsL rest : List Value} (hlen : ∀ sig, parseMethodDescriptor y.desc = some sig → argsL.length = sig.parameters.length)
    (hst : g.stack = argsL.reverse ++ rest) (has : argsL.toArray = as) (hW : 2 * g.monitorRoom + (rest.map fun v => v.category).sum ≤ W) (hd : decode c.code g.pc = .ok (.invokestatic index, 3)) (eT : T.heap = h)
    (hf : rm.frames + 1 ≤ R.frames) (hl : W + (maxL + 11) + rm.locals ≤ R.locals) (hc : cells + rm.cells ≤ R.cells) (hs : slots + rm.slots ≤ R.slots) :
    ∃ v T' L, Stand p l e R s m args below meth c T' (locs ++ L) (cells + rm.cells) (slots + rm.slots) ∧ Q v T'.heap L ∧ ∀ t, Steps p.tables e below (T'.setTop { g with pc := g.pc + 3, stack := v.toList ++ rest }) t → Steps p.tables e below (T.setTop g) t :=
  own_backS X hx hZ hown w1 w2 w3 w4 hy (backOf (W := W) hM hZ w4 w3 hf hl) hg hsize hlen hst has hW hd eT hc hs
theorem own_backI (X : Stand p l e R s m args below meth c T locs cells slots) (hx : p.tables.exec = Jvm.exec) (hZ : Z.Warmed39 s.vm) {own : String} (hown : s.vm.findClass own = some m.cls) {index : Nat} {y : MethodName} {bytes : ByteArray} {maxL : Nat} 
    (hy1 : y.name = "<init>") (w1 : (Jvm.Cond.methodLink own index y).before a0 Z = true) (w2 : (Jvm.Cond.instanceMethod y).before a0 Z = true) (w4 : (Jvm.Cond.code y bytes maxL none).before a0 Z = true) (w3 : (Jvm.Cond.initialized y.cls).before a0 Z = true) (hy : y.cls ≠ "java/lang/invoke/MethodHandle" ∧ y.cls ≠ "java/lang/invoke/VarHandle")
    {W kc ks : Nat} {as : Array Value} {Q : Option Value → Heap → List Loc → Prop} (hK : own_B l R p e below s args y W as h kc ks Q) 
    {g : JFrame} (hg : g.method = m) (hsize : g.locals.size = c.maxLocals) {a : Addr} {argsL rest : List Value} (hlen : ∀ sig, parseMethodDescriptor y.desc = some sig → argsL.length = sig.parameters.length)
    (hst : g.stack = argsL.reverse ++ .ref a :: rest) (has : (.ref a :: argsL).toArray = as) (hW : 2 * g.monitorRoom + (rest.map fun v => v.category).sum ≤ W) (hd : decode c.code g.pc = .ok (.invokespecial index, 3)) (eT : T.heap = h)
    (hc : cells + kc ≤ R.cells) (hs : slots + ks ≤ R.slots) :
    ∃ v T' L, Stand p l e R s m args below meth c T' (locs ++ L) (cells + kc) (slots + ks) ∧ Q v T'.heap L ∧ ∀ t, Steps p.tables e below (T'.setTop { g with pc := g.pc + 3, stack := v.toList ++ rest }) t → Steps p.tables e below (T.setTop g) t := by
  obtain ⟨v, vm1, ⟨T1, L1, k1, n1⟩, -, X1, ⟨Lc, hQ, l1, y1, z1⟩, st⟩ := X.specialBack hx (y := y) hy1 hown (mvT hZ w1) (mvT hZ w2) (mvT hZ w4) hy hK hg hsize (Steps.refl _) (a := a) (argsL := argsL) (rest := rest) hlen hst hW hd (fun _ _ => ⟨has, eT, hc, hs⟩)
  dsimp only [Pt.U, Pt.locs, Pt.cells, Pt.slots] at X1 l1 y1 z1 st hQ
  subst l1 y1 z1
  exact ⟨v, T1, Lc, X1, hQ, fun _ k => st.trans k⟩
theorem own_callI (X : Stand p l e R s m args below meth c T locs cells slots) (hx : p.tables.exec = Jvm.exec) (hZ : Z.Warmed39 s.vm) {own : String} (hown : s.vm.findClass own = some m.cls) {index : Nat} {y : MethodName} {bytes : ByteArray} {maxL : Nat} 
    (hy1 : y.name = "<init>") (w1 : (Jvm.Cond.methodLink own index y).before a0 Z = true) (w2 : (Jvm.Cond.instanceMethod y).before a0 Z = true) (w4 : (Jvm.Cond.code y bytes maxL none).before a0 Z = true) (w3 : (Jvm.Cond.initialized y.cls).before a0 Z = true) (hy : y.cls ≠ "java/lang/invoke/MethodHandle" ∧ y.cls ≠ "java/lang/invoke/VarHandle")
    {rm : Room} {as : Array Value} {Q : Option Value → Heap → List Loc → Prop} (hM : own_C l Z y bytes maxL none [] rm as h Q) {W : Nat}
    {g : JFrame} (hg : g.method = m) (hsize : g.locals.size = c.maxLocals) {a : Addr} {argsL rest : List Value} (hlen : ∀ sig, parseMethodDescriptor y.desc = some sig → argsL.length = sig.parameters.length)
    (hst : g.stack = argsL.reverse ++ .ref a :: rest) (has : (.ref a :: argsL).toArray = as) (hW : 2 * g.monitorRoom + (rest.map fun v => v.category).sum ≤ W) (hd : decode c.code g.pc = .ok (.invokespecial index, 3)) (eT : T.heap = h)
    (hf : rm.frames + 1 ≤ R.frames) (hl : W + (maxL + 11) + rm.locals ≤ R.locals) (hc : cells + rm.cells ≤ R.cells) (hs : slots + rm.slots ≤ R.slots) :
    ∃ v T' L, Stand p l e R s m args below meth c T' (locs ++ L) (cells + rm.cells) (slots + rm.slots) ∧ Q v T'.heap L ∧ ∀ t, Steps p.tables e below (T'.setTop { g with pc := g.pc + 3, stack := v.toList ++ rest }) t → Steps p.tables e below (T.setTop g) t :=
  own_backI X hx hZ hown hy1 w1 w2 w4 w3 hy (backOf (W := W) hM hZ w4 w3 hf hl) hg hsize hlen hst has hW hd eT hc hs
theorem own_backV (X : Stand p l e R s m args below meth c T locs cells slots) (hx : p.tables.exec = Jvm.exec) (hZ : Z.Warmed39 s.vm) {own C : String} (hown : s.vm.findClass own = some m.cls) {index : Nat} {y : MethodName} {bytes : ByteArray} {maxL : Nat} {ret : Option FieldType}
    (w1 : (Jvm.Cond.methodLink own index y).before a0 Z = true) (w2 : (Jvm.Cond.declares y).before a0 Z = true) (w5 : (Jvm.Cond.selects C y y).before a0 Z = true) (w6 : (Jvm.Cond.instanceMethod y).before a0 Z = true) (w4 : (Jvm.Cond.code y bytes maxL ret).before a0 Z = true) (w3 : (Jvm.Cond.initialized y.cls).before a0 Z = true) (hy : y.cls ≠ "java/lang/invoke/MethodHandle" ∧ y.cls ≠ "java/lang/invoke/VarHandle")
    {W kc ks : Nat} {as : Array Value} {Q : Option Value → Heap → List Loc → Prop} (hK : own_B l R p e below s args y W as h kc ks Q) {b : Addr} (hE : Exa Z h b C) 
    {g : JFrame} (hg : g.method = m) (hsize : g.locals.size = c.maxLocals) {argsL rest : List Value} (hlen : ∀ sig, parseMethodDescriptor y.desc = some sig → argsL.length = sig.parameters.length)
    (hst : g.stack = argsL.reverse ++ .ref b :: rest) (has : (.ref b :: argsL).toArray = as) (hW : 2 * g.monitorRoom + (rest.map fun v => v.category).sum ≤ W) (hd : decode c.code g.pc = .ok (.invokevirtual index, 3)) (eT : T.heap = h)
    (hc : cells + kc ≤ R.cells) (hs : slots + ks ≤ R.slots) :
    ∃ v T' L, Stand p l e R s m args below meth c T' (locs ++ L) (cells + kc) (slots + ks) ∧ Q v T'.heap L ∧ ∀ t, Steps p.tables e below (T'.setTop { g with pc := g.pc + 3, stack := v.toList ++ rest }) t → Steps p.tables e below (T.setTop g) t := by
  obtain ⟨cq, kq, qa, qb, qc⟩ := isOf hZ eT hE
  obtain ⟨v, vm1, ⟨T1, L1, k1, n1⟩, -, X1, ⟨Lc, hQ, l1, y1, z1⟩, st⟩ := X.virtualBack hx (y := y) (z := y) hown (mvT hZ w1) (mvT hZ w2) (notFace_of_selects (args := #[]) (mvT hZ w5)) (mvT hZ w5) (mvT hZ w6) hy hK qa qc hg hsize (Steps.refl _) (argsL := argsL) (rest := rest) hlen hst hW hd (fun _ _ => ⟨has, eT, hc, hs⟩)
  dsimp only [Pt.U, Pt.locs, Pt.cells, Pt.slots] at X1 l1 y1 z1 st hQ
  subst l1 y1 z1
  exact ⟨v, T1, Lc, X1, hQ, fun _ k => st.trans k⟩
theorem own_callV (X : Stand p l e R s m args below meth c T locs cells slots) (hx : p.tables.exec = Jvm.exec) (hZ : Z.Warmed39 s.vm) {own C : String} (hown : s.vm.findClass own = some m.cls) {index : Nat} {y : MethodName} {bytes : ByteArray} {maxL : Nat} {ret : Option FieldType}
    (w1 : (Jvm.Cond.methodLink own index y).before a0 Z = true) (w2 : (Jvm.Cond.declares y).before a0 Z = true) (w5 : (Jvm.Cond.selects C y y).before a0 Z = true) (w6 : (Jvm.Cond.instanceMethod y).before a0 Z = true) (w4 : (Jvm.Cond.code y bytes maxL ret).before a0 Z = true) (w3 : (Jvm.Cond.initialized y.cls).before a0 Z = true) (hy : y.cls ≠ "java/lang/invoke/MethodHandle" ∧ y.cls ≠ "java/lang/invoke/VarHandle")
    {rm : Room} {as : Array Value} {Q : Option Value → Heap → List Loc → Prop} (hM : own_C l Z y bytes maxL ret [] rm as h Q) {b : Addr} (hE : Exa Z h b C) {W : Nat}
    {g : JFrame} (hg : g.method = m) (hsize : g.locals.size = c.maxLocals) {argsL rest : List Value} (hlen : ∀ sig, parseMethodDescriptor y.desc = some sig → argsL.length = sig.parameters.length)
    (hst : g.stack = argsL.reverse ++ .ref b :: rest) (has : (.ref b :: argsL).toArray = as) (hW : 2 * g.monitorRoom + (rest.map fun v => v.category).sum ≤ W) (hd : decode c.code g.pc = .ok (.invokevirtual index, 3)) (eT : T.heap = h)
    (hf : rm.frames + 1 ≤ R.frames) (hl : W + (maxL + 11) + rm.locals ≤ R.locals) (hc : cells + rm.cells ≤ R.cells) (hs : slots + rm.slots ≤ R.slots) :
    ∃ v T' L, Stand p l e R s m args below meth c T' (locs ++ L) (cells + rm.cells) (slots + rm.slots) ∧ Q v T'.heap L ∧ ∀ t, Steps p.tables e below (T'.setTop { g with pc := g.pc + 3, stack := v.toList ++ rest }) t → Steps p.tables e below (T.setTop g) t :=
  own_backV X hx hZ hown w1 w2 w5 w6 w4 w3 hy (backOf (W := W) hM hZ w4 w3 hf hl) hE hg hsize hlen hst has hW hd eT hc hs
end OwnKit

section OwnFP
open Jvm.FP.Core
/-- a double's value in units of 2^-1074 -/
def own_z (x : UInt64) : Int := zval b64 (val64 x)
theorem own_zfin {x V : UInt64} (hx : val64 x ≠ .nan) (hV : DFin V) (h : own_z x = own_z V) : DFin x := by
  have h1 := hV.zval_lt
  unfold own_z zval at h
  have hm : zmag b64 (val64 x) = zmag b64 (val64 V) := by
    have := congrArg Int.natAbs h
    rwa [natAbs_signed, natAbs_signed] at this
  unfold DFin
  cases hv : val64 x with
  | nan => exact absurd hv hx
  | inf s =>
    rw [hv] at hm
    have : zmag b64 (.inf s) = b64.tails * 2 ^ (b64.exps - 2) := rfl
    rw [this] at hm
    omega
  | fin s c q => exact ⟨s, c, q, rfl⟩
theorem own_zadd {x y V : UInt64} (hx : DFin x) (hy : DFin y) (hV : DFin V) (h : own_z x + own_z y = own_z V) : DFin (dadd x y) ∧ own_z (dadd x y) = own_z V := by
  have e : own_z (dadd x y) = own_z V := by
    unfold own_z at *
    rw [val64_dadd]
    have a := sum_le good_b64 hx hy (val64_fits x) (val64_fits y) (val64_fits V) hV.ne_nan (Int.le_of_eq h)
    have b := sum_ge good_b64 hx hy (val64_fits x) (val64_fits y) (val64_fits V) hV.ne_nan (Int.le_of_eq h.symm)
    omega
  exact ⟨own_zfin ((notNaN_iff _).mp (dadd_out hx.notNaN hy)) hV e, e⟩
theorem own_zsub {x y V : UInt64} (hx : DFin x) (hy : DFin y) (hV : DFin V) (h : own_z x - own_z y = own_z V) : DFin (dsub x y) ∧ own_z (dsub x y) = own_z V := by
  have e : own_z (dsub x y) = own_z V := by
    unfold own_z at *
    rw [val64_dsub]
    obtain ⟨s, c, q, hq⟩ := hy
    have hn : ∃ s c q, negate (val64 y) = .fin s c q := ⟨!s, c, q, by rw [hq]; rfl⟩
    have a := sum_le good_b64 hx hn (val64_fits x) (negate_fits (val64_fits y)) (val64_fits V) hV.ne_nan (by rw [zval_negate]; omega)
    have b := sum_ge good_b64 hx hn (val64_fits x) (negate_fits (val64_fits y)) (val64_fits V) hV.ne_nan (by rw [zval_negate]; omega)
    omega
  exact ⟨own_zfin ((notNaN_iff _).mp (dsub_out hx.notNaN hy)) hV e, e⟩
theorem own_zmul {x y V : UInt64} (hx : DFin x) (hy : DFin y) (hV : DFin V) (h : own_z x * own_z y = own_z V * (one64 : Int)) : DFin (dmul x y) ∧ own_z (dmul x y) = own_z V := by
  have e : own_z (dmul x y) = own_z V := by
    unfold own_z at *
    rw [val64_dmul]
    have fx := val64_fits x
    have fy := val64_fits y
    obtain ⟨s, c, q, h1⟩ := hx
    obtain ⟨t, d, r, h2⟩ := hy
    rw [h1] at h fx ⊢
    rw [h2] at h fy ⊢
    obtain ⟨p1, p2, p3⟩ := product_units fx fy
    have hq : b64.qmin < 0 := qmin_neg good_b64
    have hs : signed (s != t) (inUnits (c * d) (q + r) (2 * b64.qmin)) = zval b64 (val64 V) * ((2 ^ (b64.qmin - 2 * b64.qmin).toNat : Nat) : Int) := by
      rw [p3, signed_xor, show (b64.qmin - 2 * b64.qmin).toNat = (-b64.qmin).toNat by omega, pow_qmin64]
      exact h
    rw [p1]
    have a := zval_round_le good_b64 (s := (s != t)) (c := c * d) (q := q + r) (e0 := 2 * b64.qmin) (val64_fits V) hV.ne_nan (by omega) p2 (Int.le_of_eq hs)
    have b := zval_round_ge good_b64 (s := (s != t)) (c := c * d) (q := q + r) (e0 := 2 * b64.qmin) (val64_fits V) hV.ne_nan (by omega) p2 (Int.le_of_eq hs.symm)
    omega
  exact ⟨own_zfin ((notNaN_iff _).mp (dmul_out hx hy)) hV e, e⟩
theorem own_zcmp {x y : UInt64} (hx : DFin x) (hy : DFin y) : dcmp x y = some (compare (own_z x) (own_z y)) := dcmp_zval hx.ne_nan hy.ne_nan
/-- n / 2^k is a double, for |n| up to 2^53 and k up to 1000 -/
theorem own_frac (n : Int) (k : Nat) (hk : k ≤ 1000) (hn : n.natAbs ≤ 2 ^ 53) : ∃ V : UInt64, DFin V ∧ ((2 ^ k : Nat) : Int) * own_z V = n * (one64 : Int) := by
  by_cases h0 : n = 0
  · refine ⟨0, ⟨_, _, _, val64_zero⟩, ?_⟩
    unfold own_z
    rw [zval64_zero, h0, Int.mul_zero, Int.zero_mul]
  obtain ⟨c, q, hfit, hv⟩ := natFit good_b64 wide_b64 (decide (n < 0)) (n := n.natAbs) hn
  have hp : b64.p = 53 := rfl
  have hqm : b64.qmin = -1074 := qmin_b64
  have hqM : b64.qmax = 971 := by decide
  have hT : b64.tails = 2 ^ 52 := tails_b64
  obtain ⟨c1, c2, c3, c4⟩ := hfit
  rw [hp] at c1
  have hq : -52 ≤ q := by
    refine Int.le_of_not_gt fun hlt => ?_
    rw [show (q - 0).toNat = 0 by omega, Nat.pow_zero, Nat.mul_one, Nat.mul_one] at hv
    have h1 : 2 ^ 53 ≤ 2 ^ (0 - q).toNat := Nat.pow_le_pow_right (by decide) (by omega)
    have h2 : 1 * 2 ^ (0 - q).toNat ≤ n.natAbs * 2 ^ (0 - q).toNat := Nat.mul_le_mul_right _ (by omega)
    omega
  have fit : FP.Core.fits b64 (.fin (decide (n < 0)) c (q - k)) := ⟨by rw [hp]; exact c1, by omega, by omega, Or.inr (by rcases c4 with c4 | c4 <;> omega)⟩
  refine ⟨of64 (.fin (decide (n < 0)) c (q - k)), ⟨_, _, _, val64_of64 fit⟩, ?_⟩
  unfold own_z
  rw [val64_of64 fit]
  show ((2 ^ k : Nat) : Int) * signed (decide (n < 0)) (inUnits c (q - k) b64.qmin) = _
  have e : 2 ^ k * inUnits c (q - k) b64.qmin = n.natAbs * one64 := by
    unfold inUnits
    rw [hqm, ← pow_qmin64, hqm]
    rw [show (- (-1074 : Int)).toNat = 1074 by decide]
    have h3 : n.natAbs * 2 ^ 1074 * 2 ^ (0 - q).toNat = 2 ^ k * (c * 2 ^ (q - k - -1074).toNat) * 2 ^ (0 - q).toNat := by
      generalize hE : (1074 : Nat) = E1
      have hE' : (E1 : Int) = 1074 := by omega
      calc n.natAbs * 2 ^ E1 * 2 ^ (0 - q).toNat = (n.natAbs * 2 ^ (0 - q).toNat) * 2 ^ E1 := by ac_rfl
        _ = (c * 1 * 2 ^ (q - 0).toNat) * 2 ^ E1 := by rw [hv]
        _ = c * (2 ^ ((q - 0).toNat + E1)) := by rw [Nat.mul_one, Nat.mul_assoc, ← Nat.pow_add]
        _ = c * (2 ^ (k + (q - k - -1074).toNat + (0 - q).toNat)) := by rw [show (q - 0).toNat + E1 = k + (q - k - -1074).toNat + (0 - q).toNat by omega]
        _ = 2 ^ k * (c * 2 ^ (q - k - -1074).toNat) * 2 ^ (0 - q).toNat := by rw [Nat.pow_add, Nat.pow_add]; ac_rfl
    exact (Nat.eq_of_mul_eq_mul_right (Nat.two_pow_pos _) h3).symm
  have e' : ((2 ^ k : Nat) : Int) * ((inUnits c (q - k) b64.qmin : Nat) : Int) = (n.natAbs : Int) * (one64 : Int) := by
    rw [← Int.natCast_mul, e, Int.natCast_mul]
  unfold signed
  by_cases hneg : n < 0
  · simp only [hneg, decide_true, if_true]
    have : (n.natAbs : Int) = -n := by omega
    rw [this, Int.neg_mul] at e'
    rw [Int.mul_neg]
    omega
  · simp only [hneg, decide_false, Bool.false_eq_true, if_false]
    have : (n.natAbs : Int) = n := by omega
    rw [this] at e'
    exact e'
theorem own_half (n : Int) (hn : n.natAbs ≤ 2 ^ 53) : ∃ V : UInt64, DFin V ∧ 2 * own_z V = n * (one64 : Int) := own_frac n 1 (by decide) hn
theorem own_conv {c d mV i b a j u : Nat} (h : i + b = a + j + u) : (c * 2 ^ i ≤ mV * 2 ^ j * d) ↔ (c * 2 ^ a * 2 ^ u ≤ mV * (d * 2 ^ b)) := by
  have h1 : c * 2 ^ i * 2 ^ b = c * 2 ^ a * 2 ^ u * 2 ^ j := by
    rw [Nat.mul_assoc, ← Nat.pow_add, h, Nat.pow_add, Nat.pow_add]; ac_rfl
  have h2 : mV * 2 ^ j * d * 2 ^ b = mV * (d * 2 ^ b) * 2 ^ j := by ac_rfl
  constructor
  · intro q
    have := Nat.mul_le_mul_right (2 ^ b) q
    rw [h1, h2] at this
    exact Nat.le_of_mul_le_mul_right this (Nat.two_pow_pos _)
  · intro q
    have := Nat.mul_le_mul_right (2 ^ j) q
    rw [← h1, ← h2] at this
    exact Nat.le_of_mul_le_mul_right this (Nat.two_pow_pos _)
theorem own_conv' {c d mV i b a j u : Nat} (h : i + b = a + j + u) : (mV * 2 ^ j * d ≤ c * 2 ^ i) ↔ (mV * (d * 2 ^ b) ≤ c * 2 ^ a * 2 ^ u) := by
  have h1 : c * 2 ^ i * 2 ^ b = c * 2 ^ a * 2 ^ u * 2 ^ j := by
    rw [Nat.mul_assoc, ← Nat.pow_add, h, Nat.pow_add, Nat.pow_add]; ac_rfl
  have h2 : mV * 2 ^ j * d * 2 ^ b = mV * (d * 2 ^ b) * 2 ^ j := by ac_rfl
  constructor
  · intro q
    have := Nat.mul_le_mul_right (2 ^ b) q
    rw [h1, h2] at this
    exact Nat.le_of_mul_le_mul_right this (Nat.two_pow_pos _)
  · intro q
    have := Nat.mul_le_mul_right (2 ^ j) q
    rw [← h1, ← h2] at this
    exact Nat.le_of_mul_le_mul_right this (Nat.two_pow_pos _)
/-- the quotient by a positive double: its shape, and its magnitude against any double's -/
theorem own_quot {x y : UInt64} (hx : DFin x) (hy : DFin y) (hp : 0 < own_z y) :
    sgn (val64 (ddiv x y)) = sgn (val64 x) ∧ val64 (ddiv x y) ≠ .nan ∧
    (∀ V : UInt64, val64 V ≠ .nan → zmag b64 (val64 x) * one64 ≤ zmag b64 (val64 V) * zmag b64 (val64 y) → zmag b64 (val64 (ddiv x y)) ≤ zmag b64 (val64 V)) ∧
    (∀ V : UInt64, zmag b64 (val64 V) * zmag b64 (val64 y) ≤ zmag b64 (val64 x) * one64 → zmag b64 (val64 V) ≤ zmag b64 (val64 (ddiv x y))) := by
  rw [val64_ddiv]
  have fx := val64_fits x
  have fy := val64_fits y
  unfold own_z zval at hp
  obtain ⟨s, c, q, h1⟩ := hx
  obtain ⟨t, d, r, h2⟩ := hy
  rw [h1] at fx ⊢
  rw [h2] at fy hp ⊢
  have hq0 : b64.qmin < 0 := qmin_neg good_b64
  have hz : zmag b64 (.fin t d r) = d * 2 ^ (r - b64.qmin).toNat := rfl
  have ht : t = false := by
    cases t with
    | false => rfl
    | true => simp only [signed, FP.Core.sgn, if_true] at hp; omega
  subst ht
  have hd : d ≠ 0 := by
    intro h0; subst h0
    rw [hz, Nat.zero_mul] at hp
    simp [signed, FP.Core.sgn] at hp
  have hd0 : 0 < d := Nat.pos_of_ne_zero hd
  have e : quotient b64 (.fin s c q) (.fin false d r) = roundRatio b64 (s != false) c d (q - r) := by
    show (if d = 0 then _ else _) = _
    rw [if_neg hd]
  rw [e, sgn_roundRatio]
  refine ⟨by cases s <;> rfl, roundRatio_ne_nan _ _ _ _ _, ?_, ?_⟩
  · intro V hV hle
    refine zmag_roundRatio_le good_b64 (e0 := min b64.qmin (q - r)) hd0 (val64_fits V) hV (by omega) (by omega) ?_
    refine (own_conv (a := (q - b64.qmin).toNat) (b := (r - b64.qmin).toNat) (u := (-b64.qmin).toNat) ?_).mpr ?_
    · have := fx.2.1; have := fy.2.1; omega
    · rw [pow_qmin64]; exact hle
  · intro V hle
    refine zmag_roundRatio_ge good_b64 (e0 := min b64.qmin (q - r)) hd0 (val64_fits V) (by omega) (by omega) ?_
    refine (own_conv' (a := (q - b64.qmin).toNat) (b := (r - b64.qmin).toNat) (u := (-b64.qmin).toNat) ?_).mpr ?_
    · have := fx.2.1; have := fy.2.1; omega
    · rw [pow_qmin64]; exact hle
theorem own_zpos {y : UInt64} (hp : 0 < own_z y) : own_z y = (zmag b64 (val64 y) : Int) := by
  unfold own_z zval signed at *
  by_cases h : sgn (val64 y) = true
  · rw [if_pos h] at hp; omega
  · rw [if_neg h]
theorem own_zdiv_le {x y V : UInt64} (hx : DFin x) (hy : DFin y) (hp : 0 < own_z y) (hV : val64 V ≠ .nan) (h : own_z x * (one64 : Int) ≤ own_z V * own_z y) : own_z (ddiv x y) ≤ own_z V := by
  obtain ⟨q1, q2, q3, q4⟩ := own_quot hx hy hp
  have q3 := q3 V hV
  have q4 := q4 V
  rw [own_zpos hp] at h
  have hB : 0 < zmag b64 (val64 y) := by have := own_zpos hp; omega
  unfold own_z zval at h ⊢
  rw [q1]
  generalize zmag b64 (val64 x) = A at *
  generalize zmag b64 (val64 y) = B at *
  generalize zmag b64 (val64 V) = M at *
  generalize zmag b64 (val64 (ddiv x y)) = D at *
  have c1 : ((A * one64 : Nat) : Int) = (A : Int) * (one64 : Int) := Int.natCast_mul _ _
  have c2 : ((M * B : Nat) : Int) = (M : Int) * (B : Int) := Int.natCast_mul _ _
  generalize sgn (val64 x) = sx at h ⊢
  generalize sgn (val64 V) = sV at h ⊢
  cases sx <;> cases sV <;> simp only [signed, if_true, Bool.false_eq_true, if_false, Int.neg_mul] at h ⊢
  · have := q3 (by omega); omega
  · have h3 : A * one64 = 0 ∧ M * B = 0 := by omega
    have h4 : M = 0 := by rcases Nat.mul_eq_zero.mp h3.2 with h | h <;> omega
    have := q3 (by omega); omega
  · omega
  · have := q4 (by omega); omega
theorem own_zdiv_ge {x y V : UInt64} (hx : DFin x) (hy : DFin y) (hp : 0 < own_z y) (hV : val64 V ≠ .nan) (h : own_z V * own_z y ≤ own_z x * (one64 : Int)) : own_z V ≤ own_z (ddiv x y) := by
  obtain ⟨q1, q2, q3, q4⟩ := own_quot hx hy hp
  have q3 := q3 V hV
  have q4 := q4 V
  rw [own_zpos hp] at h
  have hB : 0 < zmag b64 (val64 y) := by have := own_zpos hp; omega
  unfold own_z zval at h ⊢
  rw [q1]
  generalize zmag b64 (val64 x) = A at *
  generalize zmag b64 (val64 y) = B at *
  generalize zmag b64 (val64 V) = M at *
  generalize zmag b64 (val64 (ddiv x y)) = D at *
  have c1 : ((A * one64 : Nat) : Int) = (A : Int) * (one64 : Int) := Int.natCast_mul _ _
  have c2 : ((M * B : Nat) : Int) = (M : Int) * (B : Int) := Int.natCast_mul _ _
  generalize sgn (val64 x) = sx at h ⊢
  generalize sgn (val64 V) = sV at h ⊢
  cases sx <;> cases sV <;> simp only [signed, if_true, Bool.false_eq_true, if_false, Int.neg_mul] at h ⊢
  · have := q4 (by omega); omega
  · omega
  · have h3 : A * one64 = 0 ∧ M * B = 0 := by omega
    have h4 : M = 0 := by rcases Nat.mul_eq_zero.mp h3.2 with h | h <;> omega
    have := q3 (by omega); omega
  · have := q3 (by omega); omega
theorem own_zdiv {x y V : UInt64} (hx : DFin x) (hy : DFin y) (hp : 0 < own_z y) (hV : DFin V) (h : own_z x * (one64 : Int) = own_z V * own_z y) : DFin (ddiv x y) ∧ own_z (ddiv x y) = own_z V := by
  have a := own_zdiv_le hx hy hp hV.ne_nan (Int.le_of_eq h)
  have b := own_zdiv_ge hx hy hp hV.ne_nan (Int.le_of_eq h.symm)
  have e : own_z (ddiv x y) = own_z V := by omega
  exact ⟨own_zfin (own_quot hx hy hp).2.1 hV e, e⟩
/-- x is the number n / 2 -/
def own_DH (n : Int) (x : UInt64) : Prop := DFin x ∧ 2 * own_z x = n * (one64 : Int)
theorem own_DH.fin {n : Int} {x : UInt64} (h : own_DH n x) : DFin x := h.1
theorem own_DH.nn {n : Int} {x : UInt64} (h : own_DH n x) : Jvm.Free.Fl.NoNaN64 x := Jvm.Free.Fl.noNaN64_no.mpr h.1.notNaN
theorem own_DH.of_z {n : Int} {x V : UInt64} (hx : DFin x) (hV : 2 * own_z V = n * (one64 : Int)) (h : own_z x = own_z V) : own_DH n x := ⟨hx, by rw [h]; exact hV⟩
theorem own_dh_int {i : Int} {x : UInt64} (h : DInt i x) : own_DH (2 * i) x := by
  refine ⟨?_, by unfold own_z; rw [DInt_zval h, Int.mul_assoc]⟩
  unfold DInt at h
  unfold DFin
  cases hv : val64 x with
  | nan => rw [hv] at h; exact h.elim
  | inf s => rw [hv] at h; exact h.elim
  | fin s c q => exact ⟨s, c, q, rfl⟩
theorem own_dh_i2d (a : Int32) : own_DH (2 * a.toInt) (FP.i2d a) := own_dh_int (i2d_int a)
theorem own_dh_l2d (a : Int64) (h : a.toInt.natAbs ≤ 2 ^ 53) : own_DH (2 * a.toInt) (FP.l2d a) := own_dh_int (l2d_int h)
theorem own_dh_add {m n : Int} {x y : UInt64} (hx : own_DH m x) (hy : own_DH n y) (h : (m + n).natAbs ≤ 2 ^ 53) : own_DH (m + n) (FP.dadd x y) := by
  obtain ⟨V, hV, eV⟩ := own_half _ h
  have e : own_z x + own_z y = own_z V := by
    have h1 := hx.2; have h2 := hy.2
    rw [Int.add_mul] at eV
    omega
  obtain ⟨q1, q2⟩ := own_zadd hx.1 hy.1 hV e
  exact own_DH.of_z q1 eV q2
theorem own_dh_sub {m n : Int} {x y : UInt64} (hx : own_DH m x) (hy : own_DH n y) (h : (m - n).natAbs ≤ 2 ^ 53) : own_DH (m - n) (FP.dsub x y) := by
  obtain ⟨V, hV, eV⟩ := own_half _ h
  have e : own_z x - own_z y = own_z V := by
    have h1 := hx.2; have h2 := hy.2
    rw [Int.sub_mul] at eV
    omega
  obtain ⟨q1, q2⟩ := own_zsub hx.1 hy.1 hV e
  exact own_DH.of_z q1 eV q2
/-- a product of which the double of the value is a whole number k: 2 * (m/2) * (n/2) = k -/
theorem own_dh_mul {m n k : Int} {x y : UInt64} (hx : own_DH m x) (hy : own_DH n y) (hk : m * n = 2 * k) (h : k.natAbs ≤ 2 ^ 53) : own_DH k (FP.dmul x y) := by
  obtain ⟨V, hV, eV⟩ := own_half _ h
  have e : own_z x * own_z y = own_z V * (one64 : Int) := by
    have h1 := hx.2; have h2 := hy.2
    generalize (one64 : Int) = U at *
    have h3 : (2 * own_z x) * (2 * own_z y) = (m * U) * (n * U) := by rw [h1, h2]
    have h4 : (m * U) * (n * U) = (m * n) * (U * U) := by ac_rfl
    have h5 : (2 * own_z x) * (2 * own_z y) = 4 * (own_z x * own_z y) := by
      rw [show (4 : Int) = 2 * 2 by rfl]; ac_rfl
    have h6 : (m * n) * (U * U) = 4 * (own_z V * U) := by
      rw [hk, show (2 * k) * (U * U) = 2 * ((k * U) * U) by ac_rfl, ← eV]
      rw [show (4 : Int) = 2 * 2 by rfl]; ac_rfl
    have h7 : 4 * (own_z x * own_z y) = 4 * (own_z V * U) := by rw [← h5, h3, h4, h6]
    omega
  obtain ⟨q1, q2⟩ := own_zmul hx.1 hy.1 hV e
  exact own_DH.of_z q1 eV q2
theorem own_dh_cmp {m n : Int} {x y : UInt64} (hx : own_DH m x) (hy : own_DH n y) : FP.dcmp x y = some (compare m n) := by
  rw [show FP.dcmp x y = _ from own_zcmp hx.1 hy.1]
  have h1 := hx.2; have h2 := hy.2
  have hU : (0 : Int) < (one64 : Int) := by have := one64_pos; omega
  congr 1
  refine compare_congr ⟨fun q => ?_, fun q => ?_⟩ ⟨fun q => ?_, fun q => ?_⟩
  · have : m * (one64 : Int) < n * (one64 : Int) := by omega
    exact Int.lt_of_mul_lt_mul_right this (Int.le_of_lt hU)
  · have := Int.mul_lt_mul_of_pos_right q hU
    omega
  · have : m * (one64 : Int) = n * (one64 : Int) := by omega
    exact Int.eq_of_mul_eq_mul_right (Int.ne_of_gt hU) this
  · subst q; omega
theorem own_dh_div {m n k : Int} {x y : UInt64} (hx : own_DH m x) (hy : own_DH n y) (hn : 0 < n) (hk : 2 * m = k * n) (h : k.natAbs ≤ 2 ^ 53) : own_DH k (FP.ddiv x y) := by
  obtain ⟨V, hV, eV⟩ := own_half _ h
  have h1 := hx.2; have h2 := hy.2
  have hU : (0 : Int) < (one64 : Int) := by have := one64_pos; omega
  have hp : 0 < own_z y := by have := Int.mul_pos hn hU; omega
  have e : own_z x * (one64 : Int) = own_z V * own_z y := by
    generalize (one64 : Int) = U at *
    have h3 : (2 * own_z V) * (2 * own_z y) = (k * U) * (n * U) := by rw [eV, h2]
    have h4 : (k * U) * (n * U) = (k * n) * (U * U) := by ac_rfl
    have h5 : (2 * own_z V) * (2 * own_z y) = 4 * (own_z V * own_z y) := by rw [show (4 : Int) = 2 * 2 by rfl]; ac_rfl
    have h6 : (k * n) * (U * U) = 4 * (own_z x * U) := by
      rw [← hk, show (2 * m) * (U * U) = 2 * ((m * U) * U) by ac_rfl, ← h1, show (4 : Int) = 2 * 2 by rfl]; ac_rfl
    have h7 : 4 * (own_z x * U) = 4 * (own_z V * own_z y) := by rw [← h6, ← h4, ← h3, h5]
    omega
  obtain ⟨q1, q2⟩ := own_zdiv hx.1 hy.1 hp hV e
  exact own_DH.of_z q1 eV q2
end OwnFP

theorem d1_0 : decode method_2_code 0 = .ok (.iload_n 0, 1) := by decide +kernel
theorem d1_1 : decode method_2_code 1 = .ok (.ifCond .ne 7, 3) := by decide +kernel
theorem d1_4 : decode method_2_code 4 = .ok (.iconst 0, 1) := by decide +kernel
theorem d1_5 : decode method_2_code 5 = .ok (.newarray .double, 2) := by decide +kernel
theorem d1_7 : decode method_2_code 7 = .ok (.areturn, 1) := by decide +kernel
theorem d1_8 : decode method_2_code 8 = .ok (.iload_n 0, 1) := by decide +kernel
theorem d1_9 : decode method_2_code 9 = .ok (.iconst 1, 1) := by decide +kernel
theorem d1_10 : decode method_2_code 10 = .ok (.if_icmp .ne 11, 3) := by decide +kernel
theorem d1_13 : decode method_2_code 13 = .ok (.iconst 1, 1) := by decide +kernel
theorem d1_14 : decode method_2_code 14 = .ok (.newarray .double, 2) := by decide +kernel
theorem d1_16 : decode method_2_code 16 = .ok (.dup, 1) := by decide +kernel
theorem d1_17 : decode method_2_code 17 = .ok (.iconst 0, 1) := by decide +kernel
theorem d1_18 : decode method_2_code 18 = .ok (.dload_n 1, 1) := by decide +kernel
theorem d1_19 : decode method_2_code 19 = .ok (.dastore, 1) := by decide +kernel
theorem d1_20 : decode method_2_code 20 = .ok (.areturn, 1) := by decide +kernel
theorem d1_21 : decode method_2_code 21 = .ok (.iload_n 0, 1) := by decide +kernel
theorem d1_22 : decode method_2_code 22 = .ok (.iconst 2, 1) := by decide +kernel
theorem d1_23 : decode method_2_code 23 = .ok (.if_icmp .ne 15, 3) := by decide +kernel
theorem d1_26 : decode method_2_code 26 = .ok (.iconst 2, 1) := by decide +kernel
theorem d1_27 : decode method_2_code 27 = .ok (.newarray .double, 2) := by decide +kernel
theorem d1_29 : decode method_2_code 29 = .ok (.dup, 1) := by decide +kernel
theorem d1_30 : decode method_2_code 30 = .ok (.iconst 0, 1) := by decide +kernel
theorem d1_31 : decode method_2_code 31 = .ok (.dload_n 1, 1) := by decide +kernel
theorem d1_32 : decode method_2_code 32 = .ok (.dastore, 1) := by decide +kernel
theorem d1_33 : decode method_2_code 33 = .ok (.dup, 1) := by decide +kernel
theorem d1_34 : decode method_2_code 34 = .ok (.iconst 1, 1) := by decide +kernel
theorem d1_35 : decode method_2_code 35 = .ok (.dload_n 3, 1) := by decide +kernel
theorem d1_36 : decode method_2_code 36 = .ok (.dastore, 1) := by decide +kernel
theorem d1_37 : decode method_2_code 37 = .ok (.areturn, 1) := by decide +kernel
theorem d1_38 : decode method_2_code 38 = .ok (.iconst 3, 1) := by decide +kernel
theorem d1_39 : decode method_2_code 39 = .ok (.newarray .double, 2) := by decide +kernel
theorem d1_41 : decode method_2_code 41 = .ok (.dup, 1) := by decide +kernel
theorem d1_42 : decode method_2_code 42 = .ok (.iconst 0, 1) := by decide +kernel
theorem d1_43 : decode method_2_code 43 = .ok (.dload_n 1, 1) := by decide +kernel
theorem d1_44 : decode method_2_code 44 = .ok (.dastore, 1) := by decide +kernel
theorem d1_45 : decode method_2_code 45 = .ok (.dup, 1) := by decide +kernel
theorem d1_46 : decode method_2_code 46 = .ok (.iconst 1, 1) := by decide +kernel
theorem d1_47 : decode method_2_code 47 = .ok (.dload_n 3, 1) := by decide +kernel
theorem d1_48 : decode method_2_code 48 = .ok (.dastore, 1) := by decide +kernel
theorem d1_49 : decode method_2_code 49 = .ok (.dup, 1) := by decide +kernel
theorem d1_50 : decode method_2_code 50 = .ok (.iconst 2, 1) := by decide +kernel
theorem d1_51 : decode method_2_code 51 = .ok (.dload 5, 2) := by decide +kernel
theorem d1_53 : decode method_2_code 53 = .ok (.dastore, 1) := by decide +kernel
theorem d1_54 : decode method_2_code 54 = .ok (.areturn, 1) := by decide +kernel

theorem d2_0 : decode prog_53_method_2_code 0 = .ok (.dconst 0, 1) := by decide +kernel
theorem d2_1 : decode prog_53_method_2_code 1 = .ok (.dstore_n 2, 1) := by decide +kernel
theorem d2_2 : decode prog_53_method_2_code 2 = .ok (.iconst 0, 1) := by decide +kernel
theorem d2_3 : decode prog_53_method_2_code 3 = .ok (.istore 4, 2) := by decide +kernel
theorem d2_5 : decode prog_53_method_2_code 5 = .ok (.iload 4, 2) := by decide +kernel
theorem d2_7 : decode prog_53_method_2_code 7 = .ok (.aload_n 0, 1) := by decide +kernel
theorem d2_8 : decode prog_53_method_2_code 8 = .ok (.arraylength, 1) := by decide +kernel
theorem d2_9 : decode prog_53_method_2_code 9 = .ok (.if_icmp .ge 21, 3) := by decide +kernel
theorem d2_12 : decode prog_53_method_2_code 12 = .ok (.dload_n 2, 1) := by decide +kernel
theorem d2_13 : decode prog_53_method_2_code 13 = .ok (.aload_n 0, 1) := by decide +kernel
theorem d2_14 : decode prog_53_method_2_code 14 = .ok (.iload 4, 2) := by decide +kernel
theorem d2_16 : decode prog_53_method_2_code 16 = .ok (.daload, 1) := by decide +kernel
theorem d2_17 : decode prog_53_method_2_code 17 = .ok (.aload_n 1, 1) := by decide +kernel
theorem d2_18 : decode prog_53_method_2_code 18 = .ok (.iload 4, 2) := by decide +kernel
theorem d2_20 : decode prog_53_method_2_code 20 = .ok (.daload, 1) := by decide +kernel
theorem d2_21 : decode prog_53_method_2_code 21 = .ok (.dmul, 1) := by decide +kernel
theorem d2_22 : decode prog_53_method_2_code 22 = .ok (.dadd, 1) := by decide +kernel
theorem d2_23 : decode prog_53_method_2_code 23 = .ok (.dstore_n 2, 1) := by decide +kernel
theorem d2_24 : decode prog_53_method_2_code 24 = .ok (.iinc 4 1, 3) := by decide +kernel
theorem d2_27 : decode prog_53_method_2_code 27 = .ok (.goto (-22), 3) := by decide +kernel
theorem d2_30 : decode prog_53_method_2_code 30 = .ok (.dload_n 2, 1) := by decide +kernel
theorem d2_31 : decode prog_53_method_2_code 31 = .ok (.dreturn, 1) := by decide +kernel

theorem pn_0 : plainFor x = true := by first | exact plainFor_of_name (by first | (simp [plainName, overriddenIn]; done) | decide +kernel) | decide +kernel

theorem pn_1 : plainFor (⟨"com/example/pass2/pass2/util/VectorsDotPinLaw", "vec", "(IDDD)[D"⟩ : MethodName) = true := by first | exact plainFor_of_name (by first | (simp [plainName, overriddenIn]; done) | decide +kernel) | decide +kernel

theorem pn_2 : plainFor (⟨"com/example/pass2/pass2/util/Vectors", "dot", "([D[D)D"⟩ : MethodName) = true := by first | exact plainFor_of_name (by first | (simp [plainName, overriddenIn]; done) | decide +kernel) | decide +kernel

theorem pd__IDDD__D : parseMethodDescriptor "(IDDD)[D" = some ⟨[.int, .double, .double, .double], some (.array .double)⟩ := by decide +kernel
theorem pd___D_D_D : parseMethodDescriptor "([D[D)D" = some ⟨[(.array .double), (.array .double)], some .double⟩ := by decide +kernel

def own_Qr (r : Option Value) (h0 : Heap) (n0 : Nat) (v : Option Value) (h : Heap) (L : List Loc) : Prop := v = r ∧ Fr n0 L ∧ h = h0
def own_Qv (Z : State) (n : Int32) (vs : List Value) (h0 : Heap) (n0 : Nat) (v : Option Value) (h : Heap) (L : List Loc) : Prop := ∃ a k, v = some (.ref a) ∧ Fr n0 L ∧ Keep h0 h [] ∧ h0.size ≤ a ∧ Arv Z h a k .double n vs (.double 0)
set_option maxRecDepth 65536 in
set_option maxHeartbeats 4000000 in
theorem rmVec0 (l : Launch) (Z : State) (a0 : Array Value) (hw : ∀ d ∈ tables_1, d.before a0 Z = true) (ws : List Jvm.Cond) (h0 : Heap) (n0 : Nat) (x0 x1 x2 : UInt64) (Z0 : n0 ≤ h0.size) :
    own_C l Z (⟨"com/example/pass2/pass2/util/VectorsDotPinLaw", "vec", "(IDDD)[D"⟩ : MethodName) method_2_code 7 (some (.array .double)) ws ({ frames := 0, cells := 1, slots := 3, locals := 0 } : Room) #[(.int (0 : Int32)), (.double x0), (.double x1), (.double x2)] h0 (own_Qv Z 0 [] h0 n0) := by
  refine own_body (ls := #[.val (.int (0 : Int32)), .val (.double x0), .second, .val (.double x1), .second, .val (.double x2), .second]) pn_1 (fun m => by first | (simp [entryFrame, mkF, argsToLocals, Value.category]; done) | rfl) ?_
  intro p e s m below meth c T0 hZ hx hby hml hown hnm hret hlk X0 e0
  replace hml : c.maxLocals = 7 := hml
  have N0 := Fr.nil n0
  refine own_go (fun _ => XS.iloadN X0.here hx rfl (hb hby d1_0) rfl ) ?_
  show own_R p.tables e below _ T0 (mkF m 1 #[.val (.int (0 : Int32)), .val (.double x0), .second, .val (.double x1), .second, .val (.double x2), .second] [(.int (0 : Int32))])
  refine own_go (fun _ => XS.ifNo X0.here hx rfl (hb hby d1_1) rfl ((if0 _ _).trans (teq (by decide)).2)) ?_
  show own_R p.tables e below _ T0 (mkF m 4 #[.val (.int (0 : Int32)), .val (.double x0), .second, .val (.double x1), .second, .val (.double x2), .second] [])
  refine own_go (fun _ => XS.iconst X0.here hx rfl (hb hby d1_4)) ?_
  show own_R p.tables e below _ T0 (mkF m 5 #[.val (.int (0 : Int32)), .val (.double x0), .second, .val (.double x1), .second, .val (.double x2), .second] [(.int (0 : Int32))])
  obtain ⟨T1, h1, k1, X1, e1, E1, A1, st1⟩ := newP X0 hx hZ (hw _ (List.mem_of_getElem? (i := 4) rfl)) e0 (g := (mkF m 5 #[.val (.int (0 : Int32)), .val (.double x0), .second, .val (.double x1), .second, .val (.double x2), .second] [(.int (0 : Int32))])) rfl (hb hby d1_5) rfl (by decide) (cap := 3) (by decide) (by decide) (by decide) (by decide)
  obtain ⟨a1, g1⟩ : ∃ z, z = h0.size := ⟨_, rfl⟩
  rw [← g1] at A1 st1
  refine own_go st1 ?_
  show own_R p.tables e below _ T1 (mkF m 7 #[.val (.int (0 : Int32)), .val (.double x0), .second, .val (.double x1), .second, .val (.double x2), .second] [(.ref a1)])
  have V1 : Arv Z h1 a1 k1 .double (0 : Int32) [] (.double 0) := (Arv.new A1 (by decide)).pad (pad_rep [] (.double 0) 0)
  have K1 : Keep h0 h1 [] := (Keep.refl h0 []).ext E1
  have q1 : h0.size ≤ a1 := Nat.le_of_eq g1.symm
  have g1a : n0 ≤ a1 := Nat.le_trans Z0 q1
  exact own_end X1 (some (.ref a1)) (fun h => by rw [hret] at h; cases h) hlk (fun fs hr => own_retA X1 hx hret rfl rfl (hb hby d1_7) hr) (by show own_Qv Z _ _ h0 n0 _ T1.heap _; rw [e1]; exact ⟨a1, k1, rfl, N0, K1, q1, V1⟩) (by decide) (by decide)
set_option maxRecDepth 65536 in
set_option maxHeartbeats 4000000 in
theorem rmVec1 (l : Launch) (Z : State) (a0 : Array Value) (hw : ∀ d ∈ tables_1, d.before a0 Z = true) (ws : List Jvm.Cond) (h0 : Heap) (n0 : Nat) (x0 x1 x2 : UInt64) (Z0 : n0 ≤ h0.size) :
    own_C l Z (⟨"com/example/pass2/pass2/util/VectorsDotPinLaw", "vec", "(IDDD)[D"⟩ : MethodName) method_2_code 7 (some (.array .double)) ws ({ frames := 0, cells := 1, slots := 3, locals := 0 } : Room) #[(.int (1 : Int32)), (.double x0), (.double x1), (.double x2)] h0 (own_Qv Z 1 [(.double x0)] h0 n0) := by
  refine own_body (ls := #[.val (.int (1 : Int32)), .val (.double x0), .second, .val (.double x1), .second, .val (.double x2), .second]) pn_1 (fun m => by first | (simp [entryFrame, mkF, argsToLocals, Value.category]; done) | rfl) ?_
  intro p e s m below meth c T0 hZ hx hby hml hown hnm hret hlk X0 e0
  replace hml : c.maxLocals = 7 := hml
  have N0 := Fr.nil n0
  refine own_go (fun _ => XS.iloadN X0.here hx rfl (hb hby d1_0) rfl ) ?_
  show own_R p.tables e below _ T0 (mkF m 1 #[.val (.int (1 : Int32)), .val (.double x0), .second, .val (.double x1), .second, .val (.double x2), .second] [(.int (1 : Int32))])
  refine own_go (fun _ => XS.ifYes X0.here hx rfl (pc0 := 1) (pc' := 8) rfl (hb hby d1_1) rfl ((if0 _ _).trans (feq (by decide)).2) (by decide) (by decide)) ?_
  show own_R p.tables e below _ T0 (mkF m 8 #[.val (.int (1 : Int32)), .val (.double x0), .second, .val (.double x1), .second, .val (.double x2), .second] [])
  refine own_go (fun _ => XS.iloadN X0.here hx rfl (hb hby d1_8) rfl ) ?_
  show own_R p.tables e below _ T0 (mkF m 9 #[.val (.int (1 : Int32)), .val (.double x0), .second, .val (.double x1), .second, .val (.double x2), .second] [(.int (1 : Int32))])
  refine own_go (fun _ => XS.iconst X0.here hx rfl (hb hby d1_9)) ?_
  show own_R p.tables e below _ T0 (mkF m 10 #[.val (.int (1 : Int32)), .val (.double x0), .second, .val (.double x1), .second, .val (.double x2), .second] [(.int (1 : Int32)), (.int (1 : Int32))])
  refine own_go (fun _ => XS.icmpNo X0.here hx rfl (hb hby d1_10) rfl (teq (by decide)).2) ?_
  show own_R p.tables e below _ T0 (mkF m 13 #[.val (.int (1 : Int32)), .val (.double x0), .second, .val (.double x1), .second, .val (.double x2), .second] [])
  refine own_go (fun _ => XS.iconst X0.here hx rfl (hb hby d1_13)) ?_
  show own_R p.tables e below _ T0 (mkF m 14 #[.val (.int (1 : Int32)), .val (.double x0), .second, .val (.double x1), .second, .val (.double x2), .second] [(.int (1 : Int32))])
  obtain ⟨T1, h1, k1, X1, e1, E1, A1, st1⟩ := newP X0 hx hZ (hw _ (List.mem_of_getElem? (i := 4) rfl)) e0 (g := (mkF m 14 #[.val (.int (1 : Int32)), .val (.double x0), .second, .val (.double x1), .second, .val (.double x2), .second] [(.int (1 : Int32))])) rfl (hb hby d1_14) rfl (by decide) (cap := 3) (by decide) (by decide) (by decide) (by decide)
  obtain ⟨a1, g1⟩ : ∃ z, z = h0.size := ⟨_, rfl⟩
  rw [← g1] at A1 st1
  refine own_go st1 ?_
  show own_R p.tables e below _ T1 (mkF m 16 #[.val (.int (1 : Int32)), .val (.double x0), .second, .val (.double x1), .second, .val (.double x2), .second] [(.ref a1)])
  have V1 : Arv Z h1 a1 k1 .double (1 : Int32) [(.double 0)] (.double 0) := (Arv.new A1 (by decide)).pad (pad_rep [] (.double 0) 1)
  have K1 : Keep h0 h1 [] := (Keep.refl h0 []).ext E1
  have q1 : h0.size ≤ a1 := Nat.le_of_eq g1.symm
  have g1a : n0 ≤ a1 := Nat.le_trans Z0 q1
  refine own_go (fun _ => XS.dup X1.here hx rfl (hb hby d1_16) rfl rfl) ?_
  show own_R p.tables e below _ T1 (mkF m 17 #[.val (.int (1 : Int32)), .val (.double x0), .second, .val (.double x1), .second, .val (.double x2), .second] [(.ref a1), (.ref a1)])
  refine own_go (fun _ => XS.iconst X1.here hx rfl (hb hby d1_17)) ?_
  show own_R p.tables e below _ T1 (mkF m 18 #[.val (.int (1 : Int32)), .val (.double x0), .second, .val (.double x1), .second, .val (.double x2), .second] [(.int (0 : Int32)), (.ref a1), (.ref a1)])
  refine own_go (fun _ => XS.dloadN X1.here hx rfl (hb hby d1_18) rfl ) ?_
  show own_R p.tables e below _ T1 (mkF m 19 #[.val (.int (1 : Int32)), .val (.double x0), .second, .val (.double x1), .second, .val (.double x2), .second] [(.double x0), (.int (0 : Int32)), (.ref a1), (.ref a1)])
  obtain ⟨T2, h2, X2, e2, W2, V2, st2⟩ := own_stD X1 hx hZ e1 V1 (j := (0 : Int32)) ⟨by decide, by decide⟩ 0 rfl (Nat.le_of_ble_eq_true rfl) (g := (mkF m 19 #[.val (.int (1 : Int32)), .val (.double x0), .second, .val (.double x1), .second, .val (.double x2), .second] [(.double x0), (.int (0 : Int32)), (.ref a1), (.ref a1)])) rfl rfl (hb hby d1_19)
  have K2 : Keep h0 h2 [] := K1.wr W2 (Or.inr q1)
  have N2 := Fr.snoc X2 N0 g1a
  refine own_go st2 ?_
  show own_R p.tables e below _ T2 (mkF m 20 #[.val (.int (1 : Int32)), .val (.double x0), .second, .val (.double x1), .second, .val (.double x2), .second] [(.ref a1)])
  exact own_end X2 (some (.ref a1)) (fun h => by rw [hret] at h; cases h) hlk (fun fs hr => own_retA X2 hx hret rfl rfl (hb hby d1_20) hr) (by show own_Qv Z _ _ h0 n0 _ T2.heap _; rw [e2]; exact ⟨a1, k1, rfl, N2, K2, q1, V2⟩) (by decide) (by decide)
set_option maxRecDepth 65536 in
set_option maxHeartbeats 4000000 in
theorem rmVec2 (l : Launch) (Z : State) (a0 : Array Value) (hw : ∀ d ∈ tables_1, d.before a0 Z = true) (ws : List Jvm.Cond) (h0 : Heap) (n0 : Nat) (x0 x1 x2 : UInt64) (Z0 : n0 ≤ h0.size) :
    own_C l Z (⟨"com/example/pass2/pass2/util/VectorsDotPinLaw", "vec", "(IDDD)[D"⟩ : MethodName) method_2_code 7 (some (.array .double)) ws ({ frames := 0, cells := 1, slots := 3, locals := 0 } : Room) #[(.int (2 : Int32)), (.double x0), (.double x1), (.double x2)] h0 (own_Qv Z 2 [(.double x0), (.double x1)] h0 n0) := by
  refine own_body (ls := #[.val (.int (2 : Int32)), .val (.double x0), .second, .val (.double x1), .second, .val (.double x2), .second]) pn_1 (fun m => by first | (simp [entryFrame, mkF, argsToLocals, Value.category]; done) | rfl) ?_
  intro p e s m below meth c T0 hZ hx hby hml hown hnm hret hlk X0 e0
  replace hml : c.maxLocals = 7 := hml
  have N0 := Fr.nil n0
  refine own_go (fun _ => XS.iloadN X0.here hx rfl (hb hby d1_0) rfl ) ?_
  show own_R p.tables e below _ T0 (mkF m 1 #[.val (.int (2 : Int32)), .val (.double x0), .second, .val (.double x1), .second, .val (.double x2), .second] [(.int (2 : Int32))])
  refine own_go (fun _ => XS.ifYes X0.here hx rfl (pc0 := 1) (pc' := 8) rfl (hb hby d1_1) rfl ((if0 _ _).trans (feq (by decide)).2) (by decide) (by decide)) ?_
  show own_R p.tables e below _ T0 (mkF m 8 #[.val (.int (2 : Int32)), .val (.double x0), .second, .val (.double x1), .second, .val (.double x2), .second] [])
  refine own_go (fun _ => XS.iloadN X0.here hx rfl (hb hby d1_8) rfl ) ?_
  show own_R p.tables e below _ T0 (mkF m 9 #[.val (.int (2 : Int32)), .val (.double x0), .second, .val (.double x1), .second, .val (.double x2), .second] [(.int (2 : Int32))])
  refine own_go (fun _ => XS.iconst X0.here hx rfl (hb hby d1_9)) ?_
  show own_R p.tables e below _ T0 (mkF m 10 #[.val (.int (2 : Int32)), .val (.double x0), .second, .val (.double x1), .second, .val (.double x2), .second] [(.int (1 : Int32)), (.int (2 : Int32))])
  refine own_go (fun _ => XS.icmpYes X0.here hx rfl (pc0 := 10) (pc' := 21) rfl (hb hby d1_10) rfl (feq (by decide)).2 (by decide) (by decide)) ?_
  show own_R p.tables e below _ T0 (mkF m 21 #[.val (.int (2 : Int32)), .val (.double x0), .second, .val (.double x1), .second, .val (.double x2), .second] [])
  refine own_go (fun _ => XS.iloadN X0.here hx rfl (hb hby d1_21) rfl ) ?_
  show own_R p.tables e below _ T0 (mkF m 22 #[.val (.int (2 : Int32)), .val (.double x0), .second, .val (.double x1), .second, .val (.double x2), .second] [(.int (2 : Int32))])
  refine own_go (fun _ => XS.iconst X0.here hx rfl (hb hby d1_22)) ?_
  show own_R p.tables e below _ T0 (mkF m 23 #[.val (.int (2 : Int32)), .val (.double x0), .second, .val (.double x1), .second, .val (.double x2), .second] [(.int (2 : Int32)), (.int (2 : Int32))])
  refine own_go (fun _ => XS.icmpNo X0.here hx rfl (hb hby d1_23) rfl (teq (by decide)).2) ?_
  show own_R p.tables e below _ T0 (mkF m 26 #[.val (.int (2 : Int32)), .val (.double x0), .second, .val (.double x1), .second, .val (.double x2), .second] [])
  refine own_go (fun _ => XS.iconst X0.here hx rfl (hb hby d1_26)) ?_
  show own_R p.tables e below _ T0 (mkF m 27 #[.val (.int (2 : Int32)), .val (.double x0), .second, .val (.double x1), .second, .val (.double x2), .second] [(.int (2 : Int32))])
  obtain ⟨T1, h1, k1, X1, e1, E1, A1, st1⟩ := newP X0 hx hZ (hw _ (List.mem_of_getElem? (i := 4) rfl)) e0 (g := (mkF m 27 #[.val (.int (2 : Int32)), .val (.double x0), .second, .val (.double x1), .second, .val (.double x2), .second] [(.int (2 : Int32))])) rfl (hb hby d1_27) rfl (by decide) (cap := 3) (by decide) (by decide) (by decide) (by decide)
  obtain ⟨a1, g1⟩ : ∃ z, z = h0.size := ⟨_, rfl⟩
  rw [← g1] at A1 st1
  refine own_go st1 ?_
  show own_R p.tables e below _ T1 (mkF m 29 #[.val (.int (2 : Int32)), .val (.double x0), .second, .val (.double x1), .second, .val (.double x2), .second] [(.ref a1)])
  have V1 : Arv Z h1 a1 k1 .double (2 : Int32) [(.double 0), (.double 0)] (.double 0) := (Arv.new A1 (by decide)).pad (pad_rep [] (.double 0) 2)
  have K1 : Keep h0 h1 [] := (Keep.refl h0 []).ext E1
  have q1 : h0.size ≤ a1 := Nat.le_of_eq g1.symm
  have g1a : n0 ≤ a1 := Nat.le_trans Z0 q1
  refine own_go (fun _ => XS.dup X1.here hx rfl (hb hby d1_29) rfl rfl) ?_
  show own_R p.tables e below _ T1 (mkF m 30 #[.val (.int (2 : Int32)), .val (.double x0), .second, .val (.double x1), .second, .val (.double x2), .second] [(.ref a1), (.ref a1)])
  refine own_go (fun _ => XS.iconst X1.here hx rfl (hb hby d1_30)) ?_
  show own_R p.tables e below _ T1 (mkF m 31 #[.val (.int (2 : Int32)), .val (.double x0), .second, .val (.double x1), .second, .val (.double x2), .second] [(.int (0 : Int32)), (.ref a1), (.ref a1)])
  refine own_go (fun _ => XS.dloadN X1.here hx rfl (hb hby d1_31) rfl ) ?_
  show own_R p.tables e below _ T1 (mkF m 32 #[.val (.int (2 : Int32)), .val (.double x0), .second, .val (.double x1), .second, .val (.double x2), .second] [(.double x0), (.int (0 : Int32)), (.ref a1), (.ref a1)])
  obtain ⟨T2, h2, X2, e2, W2, V2, st2⟩ := own_stD X1 hx hZ e1 V1 (j := (0 : Int32)) ⟨by decide, by decide⟩ 0 rfl (Nat.le_of_ble_eq_true rfl) (g := (mkF m 32 #[.val (.int (2 : Int32)), .val (.double x0), .second, .val (.double x1), .second, .val (.double x2), .second] [(.double x0), (.int (0 : Int32)), (.ref a1), (.ref a1)])) rfl rfl (hb hby d1_32)
  have K2 : Keep h0 h2 [] := K1.wr W2 (Or.inr q1)
  have N2 := Fr.snoc X2 N0 g1a
  refine own_go st2 ?_
  show own_R p.tables e below _ T2 (mkF m 33 #[.val (.int (2 : Int32)), .val (.double x0), .second, .val (.double x1), .second, .val (.double x2), .second] [(.ref a1)])
  refine own_go (fun _ => XS.dup X2.here hx rfl (hb hby d1_33) rfl rfl) ?_
  show own_R p.tables e below _ T2 (mkF m 34 #[.val (.int (2 : Int32)), .val (.double x0), .second, .val (.double x1), .second, .val (.double x2), .second] [(.ref a1), (.ref a1)])
  refine own_go (fun _ => XS.iconst X2.here hx rfl (hb hby d1_34)) ?_
  show own_R p.tables e below _ T2 (mkF m 35 #[.val (.int (2 : Int32)), .val (.double x0), .second, .val (.double x1), .second, .val (.double x2), .second] [(.int (1 : Int32)), (.ref a1), (.ref a1)])
  refine own_go (fun _ => XS.dloadN X2.here hx rfl (hb hby d1_35) rfl ) ?_
  show own_R p.tables e below _ T2 (mkF m 36 #[.val (.int (2 : Int32)), .val (.double x0), .second, .val (.double x1), .second, .val (.double x2), .second] [(.double x1), (.int (1 : Int32)), (.ref a1), (.ref a1)])
  obtain ⟨T3, h3, X3, e3, W3, V3, st3⟩ := own_stD X2 hx hZ e2 V2 (j := (1 : Int32)) ⟨by decide, by decide⟩ 1 rfl (Nat.le_of_ble_eq_true rfl) (g := (mkF m 36 #[.val (.int (2 : Int32)), .val (.double x0), .second, .val (.double x1), .second, .val (.double x2), .second] [(.double x1), (.int (1 : Int32)), (.ref a1), (.ref a1)])) rfl rfl (hb hby d1_36)
  have K3 : Keep h0 h3 [] := K2.wr W3 (Or.inr q1)
  have N3 := Fr.snoc X3 N2 g1a
  refine own_go st3 ?_
  show own_R p.tables e below _ T3 (mkF m 37 #[.val (.int (2 : Int32)), .val (.double x0), .second, .val (.double x1), .second, .val (.double x2), .second] [(.ref a1)])
  exact own_end X3 (some (.ref a1)) (fun h => by rw [hret] at h; cases h) hlk (fun fs hr => own_retA X3 hx hret rfl rfl (hb hby d1_37) hr) (by show own_Qv Z _ _ h0 n0 _ T3.heap _; rw [e3]; exact ⟨a1, k1, rfl, N3, K3, q1, V3⟩) (by decide) (by decide)
set_option maxRecDepth 65536 in
set_option maxHeartbeats 4000000 in
theorem rmVec3 (l : Launch) (Z : State) (a0 : Array Value) (hw : ∀ d ∈ tables_1, d.before a0 Z = true) (ws : List Jvm.Cond) (h0 : Heap) (n0 : Nat) (x0 x1 x2 : UInt64) (Z0 : n0 ≤ h0.size) :
    own_C l Z (⟨"com/example/pass2/pass2/util/VectorsDotPinLaw", "vec", "(IDDD)[D"⟩ : MethodName) method_2_code 7 (some (.array .double)) ws ({ frames := 0, cells := 1, slots := 3, locals := 0 } : Room) #[(.int (3 : Int32)), (.double x0), (.double x1), (.double x2)] h0 (own_Qv Z 3 [(.double x0), (.double x1), (.double x2)] h0 n0) := by
  refine own_body (ls := #[.val (.int (3 : Int32)), .val (.double x0), .second, .val (.double x1), .second, .val (.double x2), .second]) pn_1 (fun m => by first | (simp [entryFrame, mkF, argsToLocals, Value.category]; done) | rfl) ?_
  intro p e s m below meth c T0 hZ hx hby hml hown hnm hret hlk X0 e0
  replace hml : c.maxLocals = 7 := hml
  have N0 := Fr.nil n0
  refine own_go (fun _ => XS.iloadN X0.here hx rfl (hb hby d1_0) rfl ) ?_
  show own_R p.tables e below _ T0 (mkF m 1 #[.val (.int (3 : Int32)), .val (.double x0), .second, .val (.double x1), .second, .val (.double x2), .second] [(.int (3 : Int32))])
  refine own_go (fun _ => XS.ifYes X0.here hx rfl (pc0 := 1) (pc' := 8) rfl (hb hby d1_1) rfl ((if0 _ _).trans (feq (by decide)).2) (by decide) (by decide)) ?_
  show own_R p.tables e below _ T0 (mkF m 8 #[.val (.int (3 : Int32)), .val (.double x0), .second, .val (.double x1), .second, .val (.double x2), .second] [])
  refine own_go (fun _ => XS.iloadN X0.here hx rfl (hb hby d1_8) rfl ) ?_
  show own_R p.tables e below _ T0 (mkF m 9 #[.val (.int (3 : Int32)), .val (.double x0), .second, .val (.double x1), .second, .val (.double x2), .second] [(.int (3 : Int32))])
  refine own_go (fun _ => XS.iconst X0.here hx rfl (hb hby d1_9)) ?_
  show own_R p.tables e below _ T0 (mkF m 10 #[.val (.int (3 : Int32)), .val (.double x0), .second, .val (.double x1), .second, .val (.double x2), .second] [(.int (1 : Int32)), (.int (3 : Int32))])
  refine own_go (fun _ => XS.icmpYes X0.here hx rfl (pc0 := 10) (pc' := 21) rfl (hb hby d1_10) rfl (feq (by decide)).2 (by decide) (by decide)) ?_
  show own_R p.tables e below _ T0 (mkF m 21 #[.val (.int (3 : Int32)), .val (.double x0), .second, .val (.double x1), .second, .val (.double x2), .second] [])
  refine own_go (fun _ => XS.iloadN X0.here hx rfl (hb hby d1_21) rfl ) ?_
  show own_R p.tables e below _ T0 (mkF m 22 #[.val (.int (3 : Int32)), .val (.double x0), .second, .val (.double x1), .second, .val (.double x2), .second] [(.int (3 : Int32))])
  refine own_go (fun _ => XS.iconst X0.here hx rfl (hb hby d1_22)) ?_
  show own_R p.tables e below _ T0 (mkF m 23 #[.val (.int (3 : Int32)), .val (.double x0), .second, .val (.double x1), .second, .val (.double x2), .second] [(.int (2 : Int32)), (.int (3 : Int32))])
  refine own_go (fun _ => XS.icmpYes X0.here hx rfl (pc0 := 23) (pc' := 38) rfl (hb hby d1_23) rfl (feq (by decide)).2 (by decide) (by decide)) ?_
  show own_R p.tables e below _ T0 (mkF m 38 #[.val (.int (3 : Int32)), .val (.double x0), .second, .val (.double x1), .second, .val (.double x2), .second] [])
  refine own_go (fun _ => XS.iconst X0.here hx rfl (hb hby d1_38)) ?_
  show own_R p.tables e below _ T0 (mkF m 39 #[.val (.int (3 : Int32)), .val (.double x0), .second, .val (.double x1), .second, .val (.double x2), .second] [(.int (3 : Int32))])
  obtain ⟨T1, h1, k1, X1, e1, E1, A1, st1⟩ := newP X0 hx hZ (hw _ (List.mem_of_getElem? (i := 4) rfl)) e0 (g := (mkF m 39 #[.val (.int (3 : Int32)), .val (.double x0), .second, .val (.double x1), .second, .val (.double x2), .second] [(.int (3 : Int32))])) rfl (hb hby d1_39) rfl (by decide) (cap := 3) (by decide) (by decide) (by decide) (by decide)
  obtain ⟨a1, g1⟩ : ∃ z, z = h0.size := ⟨_, rfl⟩
  rw [← g1] at A1 st1
  refine own_go st1 ?_
  show own_R p.tables e below _ T1 (mkF m 41 #[.val (.int (3 : Int32)), .val (.double x0), .second, .val (.double x1), .second, .val (.double x2), .second] [(.ref a1)])
  have V1 : Arv Z h1 a1 k1 .double (3 : Int32) [(.double 0), (.double 0), (.double 0)] (.double 0) := (Arv.new A1 (by decide)).pad (pad_rep [] (.double 0) 3)
  have K1 : Keep h0 h1 [] := (Keep.refl h0 []).ext E1
  have q1 : h0.size ≤ a1 := Nat.le_of_eq g1.symm
  have g1a : n0 ≤ a1 := Nat.le_trans Z0 q1
  refine own_go (fun _ => XS.dup X1.here hx rfl (hb hby d1_41) rfl rfl) ?_
  show own_R p.tables e below _ T1 (mkF m 42 #[.val (.int (3 : Int32)), .val (.double x0), .second, .val (.double x1), .second, .val (.double x2), .second] [(.ref a1), (.ref a1)])
  refine own_go (fun _ => XS.iconst X1.here hx rfl (hb hby d1_42)) ?_
  show own_R p.tables e below _ T1 (mkF m 43 #[.val (.int (3 : Int32)), .val (.double x0), .second, .val (.double x1), .second, .val (.double x2), .second] [(.int (0 : Int32)), (.ref a1), (.ref a1)])
  refine own_go (fun _ => XS.dloadN X1.here hx rfl (hb hby d1_43) rfl ) ?_
  show own_R p.tables e below _ T1 (mkF m 44 #[.val (.int (3 : Int32)), .val (.double x0), .second, .val (.double x1), .second, .val (.double x2), .second] [(.double x0), (.int (0 : Int32)), (.ref a1), (.ref a1)])
  obtain ⟨T2, h2, X2, e2, W2, V2, st2⟩ := own_stD X1 hx hZ e1 V1 (j := (0 : Int32)) ⟨by decide, by decide⟩ 0 rfl (Nat.le_of_ble_eq_true rfl) (g := (mkF m 44 #[.val (.int (3 : Int32)), .val (.double x0), .second, .val (.double x1), .second, .val (.double x2), .second] [(.double x0), (.int (0 : Int32)), (.ref a1), (.ref a1)])) rfl rfl (hb hby d1_44)
  have K2 : Keep h0 h2 [] := K1.wr W2 (Or.inr q1)
  have N2 := Fr.snoc X2 N0 g1a
  refine own_go st2 ?_
  show own_R p.tables e below _ T2 (mkF m 45 #[.val (.int (3 : Int32)), .val (.double x0), .second, .val (.double x1), .second, .val (.double x2), .second] [(.ref a1)])
  refine own_go (fun _ => XS.dup X2.here hx rfl (hb hby d1_45) rfl rfl) ?_
  show own_R p.tables e below _ T2 (mkF m 46 #[.val (.int (3 : Int32)), .val (.double x0), .second, .val (.double x1), .second, .val (.double x2), .second] [(.ref a1), (.ref a1)])
  refine own_go (fun _ => XS.iconst X2.here hx rfl (hb hby d1_46)) ?_
  show own_R p.tables e below _ T2 (mkF m 47 #[.val (.int (3 : Int32)), .val (.double x0), .second, .val (.double x1), .second, .val (.double x2), .second] [(.int (1 : Int32)), (.ref a1), (.ref a1)])
  refine own_go (fun _ => XS.dloadN X2.here hx rfl (hb hby d1_47) rfl ) ?_
  show own_R p.tables e below _ T2 (mkF m 48 #[.val (.int (3 : Int32)), .val (.double x0), .second, .val (.double x1), .second, .val (.double x2), .second] [(.double x1), (.int (1 : Int32)), (.ref a1), (.ref a1)])
  obtain ⟨T3, h3, X3, e3, W3, V3, st3⟩ := own_stD X2 hx hZ e2 V2 (j := (1 : Int32)) ⟨by decide, by decide⟩ 1 rfl (Nat.le_of_ble_eq_true rfl) (g := (mkF m 48 #[.val (.int (3 : Int32)), .val (.double x0), .second, .val (.double x1), .second, .val (.double x2), .second] [(.double x1), (.int (1 : Int32)), (.ref a1), (.ref a1)])) rfl rfl (hb hby d1_48)
  have K3 : Keep h0 h3 [] := K2.wr W3 (Or.inr q1)
  have N3 := Fr.snoc X3 N2 g1a
  refine own_go st3 ?_
  show own_R p.tables e below _ T3 (mkF m 49 #[.val (.int (3 : Int32)), .val (.double x0), .second, .val (.double x1), .second, .val (.double x2), .second] [(.ref a1)])
  refine own_go (fun _ => XS.dup X3.here hx rfl (hb hby d1_49) rfl rfl) ?_
  show own_R p.tables e below _ T3 (mkF m 50 #[.val (.int (3 : Int32)), .val (.double x0), .second, .val (.double x1), .second, .val (.double x2), .second] [(.ref a1), (.ref a1)])
  refine own_go (fun _ => XS.iconst X3.here hx rfl (hb hby d1_50)) ?_
  show own_R p.tables e below _ T3 (mkF m 51 #[.val (.int (3 : Int32)), .val (.double x0), .second, .val (.double x1), .second, .val (.double x2), .second] [(.int (2 : Int32)), (.ref a1), (.ref a1)])
  refine own_go (fun _ => XS.dload X3.here hx rfl (hb hby d1_51) rfl ) ?_
  show own_R p.tables e below _ T3 (mkF m 53 #[.val (.int (3 : Int32)), .val (.double x0), .second, .val (.double x1), .second, .val (.double x2), .second] [(.double x2), (.int (2 : Int32)), (.ref a1), (.ref a1)])
  obtain ⟨T4, h4, X4, e4, W4, V4, st4⟩ := own_stD X3 hx hZ e3 V3 (j := (2 : Int32)) ⟨by decide, by decide⟩ 2 rfl (Nat.le_of_ble_eq_true rfl) (g := (mkF m 53 #[.val (.int (3 : Int32)), .val (.double x0), .second, .val (.double x1), .second, .val (.double x2), .second] [(.double x2), (.int (2 : Int32)), (.ref a1), (.ref a1)])) rfl rfl (hb hby d1_53)
  have K4 : Keep h0 h4 [] := K3.wr W4 (Or.inr q1)
  have N4 := Fr.snoc X4 N3 g1a
  refine own_go st4 ?_
  show own_R p.tables e below _ T4 (mkF m 54 #[.val (.int (3 : Int32)), .val (.double x0), .second, .val (.double x1), .second, .val (.double x2), .second] [(.ref a1)])
  exact own_end X4 (some (.ref a1)) (fun h => by rw [hret] at h; cases h) hlk (fun fs hr => own_retA X4 hx hret rfl rfl (hb hby d1_54) hr) (by show own_Qv Z _ _ h0 n0 _ T4.heap _; rw [e4]; exact ⟨a1, k1, rfl, N4, K4, q1, V4⟩) (by decide) (by decide)
def own_dt : List (UInt64 × UInt64) → UInt64 → UInt64
  | [], s => s
  | q :: r, s => own_dt r (FP.dadd s (FP.dmul q.1 q.2))
set_option maxRecDepth 65536 in
set_option maxHeartbeats 4000000 in
theorem rmDot0 (l : Launch) (Z : State) (a0 : Array Value) (hw : ∀ d ∈ tables_1, d.before a0 Z = true) (ws : List Jvm.Cond) (h0 : Heap) (n0 : Nat) (a b : Addr) {ka kb : ClassId}  (Va : Arv Z h0 a ka .double 0 [] (.double 0)) (Vb : Arv Z h0 b kb .double 0 [] (.double 0)) :
    own_C l Z (⟨"com/example/pass2/pass2/util/Vectors", "dot", "([D[D)D"⟩ : MethodName) prog_53_method_2_code 5 (some .double) ws ({ frames := 0, cells := 0, slots := 0, locals := 0 } : Room) #[(.ref a), (.ref b)] h0 (own_Qr (some (.double FP.dconst0)) h0 n0) := by
  refine own_body (ls := #[.val (.ref a), .val (.ref b), .unset, .unset, .unset]) pn_2 (fun m => by first | (simp [entryFrame, mkF, argsToLocals, Value.category]; done) | rfl) ?_
  intro p e s m below meth c T0 hZ hx hby hml hown hnm hret hlk X0 e0
  replace hml : c.maxLocals = 5 := hml
  have N0 := Fr.nil n0
  refine own_go (fun _ => XS.dconst0 X0.here hx rfl (hb hby d2_0) rfl) ?_
  show own_R p.tables e below _ T0 (mkF m 1 #[.val (.ref a), .val (.ref b), .unset, .unset, .unset] [(.double FP.dconst0)])
  refine own_go (fun _ => XS.dstoreN X0.here hx rfl (hb hby d2_1) rfl (l' := #[.val (.ref a), .val (.ref b), .val (.double FP.dconst0), .second, .unset]) rfl) ?_
  show own_R p.tables e below _ T0 (mkF m 2 #[.val (.ref a), .val (.ref b), .val (.double FP.dconst0), .second, .unset] [])
  refine own_go (fun _ => XS.iconst X0.here hx rfl (hb hby d2_2)) ?_
  show own_R p.tables e below _ T0 (mkF m 3 #[.val (.ref a), .val (.ref b), .val (.double FP.dconst0), .second, .unset] [(.int (0 : Int32))])
  refine own_go (fun _ => XS.istore X0.here hx rfl (hb hby d2_3) rfl (l' := #[.val (.ref a), .val (.ref b), .val (.double FP.dconst0), .second, .val (.int (0 : Int32))]) rfl) ?_
  show own_R p.tables e below _ T0 (mkF m 5 #[.val (.ref a), .val (.ref b), .val (.double FP.dconst0), .second, .val (.int (0 : Int32))] [])
  refine own_go (fun _ => XS.iload X0.here hx rfl (hb hby d2_5) rfl ) ?_
  show own_R p.tables e below _ T0 (mkF m 7 #[.val (.ref a), .val (.ref b), .val (.double FP.dconst0), .second, .val (.int (0 : Int32))] [(.int (0 : Int32))])
  refine own_go (fun _ => XS.aloadN X0.here hx rfl (hb hby d2_7) rfl rfl) ?_
  show own_R p.tables e below _ T0 (mkF m 8 #[.val (.ref a), .val (.ref b), .val (.double FP.dconst0), .second, .val (.int (0 : Int32))] [(.ref a), (.int (0 : Int32))])
  refine own_go (own_len X0 hx hZ e0 Va (g := (mkF m 8 #[.val (.ref a), .val (.ref b), .val (.double FP.dconst0), .second, .val (.int (0 : Int32))] [(.ref a), (.int (0 : Int32))])) rfl rfl (hb hby d2_8)) ?_
  show own_R p.tables e below _ T0 (mkF m 9 #[.val (.ref a), .val (.ref b), .val (.double FP.dconst0), .second, .val (.int (0 : Int32))] [(.int (0 : Int32)), (.int (0 : Int32))])
  refine own_go (fun _ => XS.icmpYes X0.here hx rfl (pc0 := 9) (pc' := 30) rfl (hb hby d2_9) rfl (flt (by decide)).2.1 (by decide) (by decide)) ?_
  show own_R p.tables e below _ T0 (mkF m 30 #[.val (.ref a), .val (.ref b), .val (.double FP.dconst0), .second, .val (.int (0 : Int32))] [])
  refine own_go (fun _ => XS.dloadN X0.here hx rfl (hb hby d2_30) rfl ) ?_
  show own_R p.tables e below _ T0 (mkF m 31 #[.val (.ref a), .val (.ref b), .val (.double FP.dconst0), .second, .val (.int (0 : Int32))] [(.double FP.dconst0)])
  exact own_end X0 (some (.double FP.dconst0)) (fun h => by rw [hret] at h; cases h) hlk (fun fs hr => own_retD X0 hx hret (hb hby d2_31) hr) ⟨rfl, N0, e0⟩ (by decide) (by decide)
set_option maxRecDepth 65536 in
set_option maxHeartbeats 4000000 in
theorem rmDot1 (l : Launch) (Z : State) (a0 : Array Value) (hw : ∀ d ∈ tables_1, d.before a0 Z = true) (ws : List Jvm.Cond) (h0 : Heap) (n0 : Nat) (a b : Addr) {ka kb : ClassId} (u0 v0 : UInt64) (Va : Arv Z h0 a ka .double 1 [(.double u0)] (.double 0)) (Vb : Arv Z h0 b kb .double 1 [(.double v0)] (.double 0)) (hm0 : Jvm.Free.Fl.NoNaN64 (FP.dmul u0 v0)) (ha0 : Jvm.Free.Fl.NoNaN64 (FP.dadd FP.dconst0 (FP.dmul u0 v0))) :
    own_C l Z (⟨"com/example/pass2/pass2/util/Vectors", "dot", "([D[D)D"⟩ : MethodName) prog_53_method_2_code 5 (some .double) ws ({ frames := 0, cells := 0, slots := 0, locals := 0 } : Room) #[(.ref a), (.ref b)] h0 (own_Qr (some (.double (FP.dadd FP.dconst0 (FP.dmul u0 v0)))) h0 n0) := by
  refine own_body (ls := #[.val (.ref a), .val (.ref b), .unset, .unset, .unset]) pn_2 (fun m => by first | (simp [entryFrame, mkF, argsToLocals, Value.category]; done) | rfl) ?_
  intro p e s m below meth c T0 hZ hx hby hml hown hnm hret hlk X0 e0
  replace hml : c.maxLocals = 5 := hml
  have N0 := Fr.nil n0
  refine own_go (fun _ => XS.dconst0 X0.here hx rfl (hb hby d2_0) rfl) ?_
  show own_R p.tables e below _ T0 (mkF m 1 #[.val (.ref a), .val (.ref b), .unset, .unset, .unset] [(.double FP.dconst0)])
  refine own_go (fun _ => XS.dstoreN X0.here hx rfl (hb hby d2_1) rfl (l' := #[.val (.ref a), .val (.ref b), .val (.double FP.dconst0), .second, .unset]) rfl) ?_
  show own_R p.tables e below _ T0 (mkF m 2 #[.val (.ref a), .val (.ref b), .val (.double FP.dconst0), .second, .unset] [])
  refine own_go (fun _ => XS.iconst X0.here hx rfl (hb hby d2_2)) ?_
  show own_R p.tables e below _ T0 (mkF m 3 #[.val (.ref a), .val (.ref b), .val (.double FP.dconst0), .second, .unset] [(.int (0 : Int32))])
  refine own_go (fun _ => XS.istore X0.here hx rfl (hb hby d2_3) rfl (l' := #[.val (.ref a), .val (.ref b), .val (.double FP.dconst0), .second, .val (.int (0 : Int32))]) rfl) ?_
  show own_R p.tables e below _ T0 (mkF m 5 #[.val (.ref a), .val (.ref b), .val (.double FP.dconst0), .second, .val (.int (0 : Int32))] [])
  refine own_go (fun _ => XS.iload X0.here hx rfl (hb hby d2_5) rfl ) ?_
  show own_R p.tables e below _ T0 (mkF m 7 #[.val (.ref a), .val (.ref b), .val (.double FP.dconst0), .second, .val (.int (0 : Int32))] [(.int (0 : Int32))])
  refine own_go (fun _ => XS.aloadN X0.here hx rfl (hb hby d2_7) rfl rfl) ?_
  show own_R p.tables e below _ T0 (mkF m 8 #[.val (.ref a), .val (.ref b), .val (.double FP.dconst0), .second, .val (.int (0 : Int32))] [(.ref a), (.int (0 : Int32))])
  refine own_go (own_len X0 hx hZ e0 Va (g := (mkF m 8 #[.val (.ref a), .val (.ref b), .val (.double FP.dconst0), .second, .val (.int (0 : Int32))] [(.ref a), (.int (0 : Int32))])) rfl rfl (hb hby d2_8)) ?_
  show own_R p.tables e below _ T0 (mkF m 9 #[.val (.ref a), .val (.ref b), .val (.double FP.dconst0), .second, .val (.int (0 : Int32))] [(.int (1 : Int32)), (.int (0 : Int32))])
  refine own_go (fun _ => XS.icmpNo X0.here hx rfl (hb hby d2_9) rfl (tlt (by decide)).2.1) ?_
  show own_R p.tables e below _ T0 (mkF m 12 #[.val (.ref a), .val (.ref b), .val (.double FP.dconst0), .second, .val (.int (0 : Int32))] [])
  refine own_go (fun _ => XS.dloadN X0.here hx rfl (hb hby d2_12) rfl ) ?_
  show own_R p.tables e below _ T0 (mkF m 13 #[.val (.ref a), .val (.ref b), .val (.double FP.dconst0), .second, .val (.int (0 : Int32))] [(.double FP.dconst0)])
  refine own_go (fun _ => XS.aloadN X0.here hx rfl (hb hby d2_13) rfl rfl) ?_
  show own_R p.tables e below _ T0 (mkF m 14 #[.val (.ref a), .val (.ref b), .val (.double FP.dconst0), .second, .val (.int (0 : Int32))] [(.ref a), (.double FP.dconst0)])
  refine own_go (fun _ => XS.iload X0.here hx rfl (hb hby d2_14) rfl ) ?_
  show own_R p.tables e below _ T0 (mkF m 16 #[.val (.ref a), .val (.ref b), .val (.double FP.dconst0), .second, .val (.int (0 : Int32))] [(.int (0 : Int32)), (.ref a), (.double FP.dconst0)])
  refine own_go (own_ldD X0 hx hZ e0 Va (j := (0 : Int32)) ⟨by decide, by decide⟩ (v := (.double u0)) rfl (g := (mkF m 16 #[.val (.ref a), .val (.ref b), .val (.double FP.dconst0), .second, .val (.int (0 : Int32))] [(.int (0 : Int32)), (.ref a), (.double FP.dconst0)])) rfl rfl (hb hby d2_16)) ?_
  show own_R p.tables e below _ T0 (mkF m 17 #[.val (.ref a), .val (.ref b), .val (.double FP.dconst0), .second, .val (.int (0 : Int32))] [(.double u0), (.double FP.dconst0)])
  refine own_go (fun _ => XS.aloadN X0.here hx rfl (hb hby d2_17) rfl rfl) ?_
  show own_R p.tables e below _ T0 (mkF m 18 #[.val (.ref a), .val (.ref b), .val (.double FP.dconst0), .second, .val (.int (0 : Int32))] [(.ref b), (.double u0), (.double FP.dconst0)])
  refine own_go (fun _ => XS.iload X0.here hx rfl (hb hby d2_18) rfl ) ?_
  show own_R p.tables e below _ T0 (mkF m 20 #[.val (.ref a), .val (.ref b), .val (.double FP.dconst0), .second, .val (.int (0 : Int32))] [(.int (0 : Int32)), (.ref b), (.double u0), (.double FP.dconst0)])
  refine own_go (own_ldD X0 hx hZ e0 Vb (j := (0 : Int32)) ⟨by decide, by decide⟩ (v := (.double v0)) rfl (g := (mkF m 20 #[.val (.ref a), .val (.ref b), .val (.double FP.dconst0), .second, .val (.int (0 : Int32))] [(.int (0 : Int32)), (.ref b), (.double u0), (.double FP.dconst0)])) rfl rfl (hb hby d2_20)) ?_
  show own_R p.tables e below _ T0 (mkF m 21 #[.val (.ref a), .val (.ref b), .val (.double FP.dconst0), .second, .val (.int (0 : Int32))] [(.double v0), (.double u0), (.double FP.dconst0)])
  refine own_go (fun _ => XS.dmulS X0.here hx rfl (hb hby d2_21) rfl hm0 rfl) ?_
  show own_R p.tables e below _ T0 (mkF m 22 #[.val (.ref a), .val (.ref b), .val (.double FP.dconst0), .second, .val (.int (0 : Int32))] [(.double (FP.dmul u0 v0)), (.double FP.dconst0)])
  refine own_go (fun _ => XS.daddS X0.here hx rfl (hb hby d2_22) rfl ha0 rfl) ?_
  show own_R p.tables e below _ T0 (mkF m 23 #[.val (.ref a), .val (.ref b), .val (.double FP.dconst0), .second, .val (.int (0 : Int32))] [(.double (FP.dadd FP.dconst0 (FP.dmul u0 v0)))])
  refine own_go (fun _ => XS.dstoreN X0.here hx rfl (hb hby d2_23) rfl (l' := #[.val (.ref a), .val (.ref b), .val (.double (FP.dadd FP.dconst0 (FP.dmul u0 v0))), .second, .val (.int (0 : Int32))]) rfl) ?_
  show own_R p.tables e below _ T0 (mkF m 24 #[.val (.ref a), .val (.ref b), .val (.double (FP.dadd FP.dconst0 (FP.dmul u0 v0))), .second, .val (.int (0 : Int32))] [])
  refine own_go (fun _ => XS.iinc X0.here hx rfl (hb hby d2_24) rfl (l' := #[.val (.ref a), .val (.ref b), .val (.double (FP.dadd FP.dconst0 (FP.dmul u0 v0))), .second, .val (.int ((0 : Int32) + (1 : Int32)))]) rfl) ?_
  show own_R p.tables e below _ T0 (mkF m 27 #[.val (.ref a), .val (.ref b), .val (.double (FP.dadd FP.dconst0 (FP.dmul u0 v0))), .second, .val (.int (1 : Int32))] [])
  refine own_go (fun _ => XS.goto X0.here hx rfl (pc0 := 27) (pc' := 5) rfl (hb hby d2_27) (by decide) (by decide)) ?_
  show own_R p.tables e below _ T0 (mkF m 5 #[.val (.ref a), .val (.ref b), .val (.double (FP.dadd FP.dconst0 (FP.dmul u0 v0))), .second, .val (.int (1 : Int32))] [])
  refine own_go (fun _ => XS.iload X0.here hx rfl (hb hby d2_5) rfl ) ?_
  show own_R p.tables e below _ T0 (mkF m 7 #[.val (.ref a), .val (.ref b), .val (.double (FP.dadd FP.dconst0 (FP.dmul u0 v0))), .second, .val (.int (1 : Int32))] [(.int (1 : Int32))])
  refine own_go (fun _ => XS.aloadN X0.here hx rfl (hb hby d2_7) rfl rfl) ?_
  show own_R p.tables e below _ T0 (mkF m 8 #[.val (.ref a), .val (.ref b), .val (.double (FP.dadd FP.dconst0 (FP.dmul u0 v0))), .second, .val (.int (1 : Int32))] [(.ref a), (.int (1 : Int32))])
  refine own_go (own_len X0 hx hZ e0 Va (g := (mkF m 8 #[.val (.ref a), .val (.ref b), .val (.double (FP.dadd FP.dconst0 (FP.dmul u0 v0))), .second, .val (.int (1 : Int32))] [(.ref a), (.int (1 : Int32))])) rfl rfl (hb hby d2_8)) ?_
  show own_R p.tables e below _ T0 (mkF m 9 #[.val (.ref a), .val (.ref b), .val (.double (FP.dadd FP.dconst0 (FP.dmul u0 v0))), .second, .val (.int (1 : Int32))] [(.int (1 : Int32)), (.int (1 : Int32))])
  refine own_go (fun _ => XS.icmpYes X0.here hx rfl (pc0 := 9) (pc' := 30) rfl (hb hby d2_9) rfl (flt (by decide)).2.1 (by decide) (by decide)) ?_
  show own_R p.tables e below _ T0 (mkF m 30 #[.val (.ref a), .val (.ref b), .val (.double (FP.dadd FP.dconst0 (FP.dmul u0 v0))), .second, .val (.int (1 : Int32))] [])
  refine own_go (fun _ => XS.dloadN X0.here hx rfl (hb hby d2_30) rfl ) ?_
  show own_R p.tables e below _ T0 (mkF m 31 #[.val (.ref a), .val (.ref b), .val (.double (FP.dadd FP.dconst0 (FP.dmul u0 v0))), .second, .val (.int (1 : Int32))] [(.double (FP.dadd FP.dconst0 (FP.dmul u0 v0)))])
  exact own_end X0 (some (.double (FP.dadd FP.dconst0 (FP.dmul u0 v0)))) (fun h => by rw [hret] at h; cases h) hlk (fun fs hr => own_retD X0 hx hret (hb hby d2_31) hr) ⟨rfl, N0, e0⟩ (by decide) (by decide)
set_option maxRecDepth 65536 in
set_option maxHeartbeats 4000000 in
theorem rmDot2 (l : Launch) (Z : State) (a0 : Array Value) (hw : ∀ d ∈ tables_1, d.before a0 Z = true) (ws : List Jvm.Cond) (h0 : Heap) (n0 : Nat) (a b : Addr) {ka kb : ClassId} (u0 u1 v0 v1 : UInt64) (Va : Arv Z h0 a ka .double 2 [(.double u0), (.double u1)] (.double 0)) (Vb : Arv Z h0 b kb .double 2 [(.double v0), (.double v1)] (.double 0)) (hm0 : Jvm.Free.Fl.NoNaN64 (FP.dmul u0 v0)) (ha0 : Jvm.Free.Fl.NoNaN64 (FP.dadd FP.dconst0 (FP.dmul u0 v0))) (hm1 : Jvm.Free.Fl.NoNaN64 (FP.dmul u1 v1)) (ha1 : Jvm.Free.Fl.NoNaN64 (FP.dadd (FP.dadd FP.dconst0 (FP.dmul u0 v0)) (FP.dmul u1 v1))) :
    own_C l Z (⟨"com/example/pass2/pass2/util/Vectors", "dot", "([D[D)D"⟩ : MethodName) prog_53_method_2_code 5 (some .double) ws ({ frames := 0, cells := 0, slots := 0, locals := 0 } : Room) #[(.ref a), (.ref b)] h0 (own_Qr (some (.double (FP.dadd (FP.dadd FP.dconst0 (FP.dmul u0 v0)) (FP.dmul u1 v1)))) h0 n0) := by
  refine own_body (ls := #[.val (.ref a), .val (.ref b), .unset, .unset, .unset]) pn_2 (fun m => by first | (simp [entryFrame, mkF, argsToLocals, Value.category]; done) | rfl) ?_
  intro p e s m below meth c T0 hZ hx hby hml hown hnm hret hlk X0 e0
  replace hml : c.maxLocals = 5 := hml
  have N0 := Fr.nil n0
  refine own_go (fun _ => XS.dconst0 X0.here hx rfl (hb hby d2_0) rfl) ?_
  show own_R p.tables e below _ T0 (mkF m 1 #[.val (.ref a), .val (.ref b), .unset, .unset, .unset] [(.double FP.dconst0)])
  refine own_go (fun _ => XS.dstoreN X0.here hx rfl (hb hby d2_1) rfl (l' := #[.val (.ref a), .val (.ref b), .val (.double FP.dconst0), .second, .unset]) rfl) ?_
  show own_R p.tables e below _ T0 (mkF m 2 #[.val (.ref a), .val (.ref b), .val (.double FP.dconst0), .second, .unset] [])
  refine own_go (fun _ => XS.iconst X0.here hx rfl (hb hby d2_2)) ?_
  show own_R p.tables e below _ T0 (mkF m 3 #[.val (.ref a), .val (.ref b), .val (.double FP.dconst0), .second, .unset] [(.int (0 : Int32))])
  refine own_go (fun _ => XS.istore X0.here hx rfl (hb hby d2_3) rfl (l' := #[.val (.ref a), .val (.ref b), .val (.double FP.dconst0), .second, .val (.int (0 : Int32))]) rfl) ?_
  show own_R p.tables e below _ T0 (mkF m 5 #[.val (.ref a), .val (.ref b), .val (.double FP.dconst0), .second, .val (.int (0 : Int32))] [])
  refine own_go (fun _ => XS.iload X0.here hx rfl (hb hby d2_5) rfl ) ?_
  show own_R p.tables e below _ T0 (mkF m 7 #[.val (.ref a), .val (.ref b), .val (.double FP.dconst0), .second, .val (.int (0 : Int32))] [(.int (0 : Int32))])
  refine own_go (fun _ => XS.aloadN X0.here hx rfl (hb hby d2_7) rfl rfl) ?_
  show own_R p.tables e below _ T0 (mkF m 8 #[.val (.ref a), .val (.ref b), .val (.double FP.dconst0), .second, .val (.int (0 : Int32))] [(.ref a), (.int (0 : Int32))])
  refine own_go (own_len X0 hx hZ e0 Va (g := (mkF m 8 #[.val (.ref a), .val (.ref b), .val (.double FP.dconst0), .second, .val (.int (0 : Int32))] [(.ref a), (.int (0 : Int32))])) rfl rfl (hb hby d2_8)) ?_
  show own_R p.tables e below _ T0 (mkF m 9 #[.val (.ref a), .val (.ref b), .val (.double FP.dconst0), .second, .val (.int (0 : Int32))] [(.int (2 : Int32)), (.int (0 : Int32))])
  refine own_go (fun _ => XS.icmpNo X0.here hx rfl (hb hby d2_9) rfl (tlt (by decide)).2.1) ?_
  show own_R p.tables e below _ T0 (mkF m 12 #[.val (.ref a), .val (.ref b), .val (.double FP.dconst0), .second, .val (.int (0 : Int32))] [])
  refine own_go (fun _ => XS.dloadN X0.here hx rfl (hb hby d2_12) rfl ) ?_
  show own_R p.tables e below _ T0 (mkF m 13 #[.val (.ref a), .val (.ref b), .val (.double FP.dconst0), .second, .val (.int (0 : Int32))] [(.double FP.dconst0)])
  refine own_go (fun _ => XS.aloadN X0.here hx rfl (hb hby d2_13) rfl rfl) ?_
  show own_R p.tables e below _ T0 (mkF m 14 #[.val (.ref a), .val (.ref b), .val (.double FP.dconst0), .second, .val (.int (0 : Int32))] [(.ref a), (.double FP.dconst0)])
  refine own_go (fun _ => XS.iload X0.here hx rfl (hb hby d2_14) rfl ) ?_
  show own_R p.tables e below _ T0 (mkF m 16 #[.val (.ref a), .val (.ref b), .val (.double FP.dconst0), .second, .val (.int (0 : Int32))] [(.int (0 : Int32)), (.ref a), (.double FP.dconst0)])
  refine own_go (own_ldD X0 hx hZ e0 Va (j := (0 : Int32)) ⟨by decide, by decide⟩ (v := (.double u0)) rfl (g := (mkF m 16 #[.val (.ref a), .val (.ref b), .val (.double FP.dconst0), .second, .val (.int (0 : Int32))] [(.int (0 : Int32)), (.ref a), (.double FP.dconst0)])) rfl rfl (hb hby d2_16)) ?_
  show own_R p.tables e below _ T0 (mkF m 17 #[.val (.ref a), .val (.ref b), .val (.double FP.dconst0), .second, .val (.int (0 : Int32))] [(.double u0), (.double FP.dconst0)])
  refine own_go (fun _ => XS.aloadN X0.here hx rfl (hb hby d2_17) rfl rfl) ?_
  show own_R p.tables e below _ T0 (mkF m 18 #[.val (.ref a), .val (.ref b), .val (.double FP.dconst0), .second, .val (.int (0 : Int32))] [(.ref b), (.double u0), (.double FP.dconst0)])
  refine own_go (fun _ => XS.iload X0.here hx rfl (hb hby d2_18) rfl ) ?_
  show own_R p.tables e below _ T0 (mkF m 20 #[.val (.ref a), .val (.ref b), .val (.double FP.dconst0), .second, .val (.int (0 : Int32))] [(.int (0 : Int32)), (.ref b), (.double u0), (.double FP.dconst0)])
  refine own_go (own_ldD X0 hx hZ e0 Vb (j := (0 : Int32)) ⟨by decide, by decide⟩ (v := (.double v0)) rfl (g := (mkF m 20 #[.val (.ref a), .val (.ref b), .val (.double FP.dconst0), .second, .val (.int (0 : Int32))] [(.int (0 : Int32)), (.ref b), (.double u0), (.double FP.dconst0)])) rfl rfl (hb hby d2_20)) ?_
  show own_R p.tables e below _ T0 (mkF m 21 #[.val (.ref a), .val (.ref b), .val (.double FP.dconst0), .second, .val (.int (0 : Int32))] [(.double v0), (.double u0), (.double FP.dconst0)])
  refine own_go (fun _ => XS.dmulS X0.here hx rfl (hb hby d2_21) rfl hm0 rfl) ?_
  show own_R p.tables e below _ T0 (mkF m 22 #[.val (.ref a), .val (.ref b), .val (.double FP.dconst0), .second, .val (.int (0 : Int32))] [(.double (FP.dmul u0 v0)), (.double FP.dconst0)])
  refine own_go (fun _ => XS.daddS X0.here hx rfl (hb hby d2_22) rfl ha0 rfl) ?_
  show own_R p.tables e below _ T0 (mkF m 23 #[.val (.ref a), .val (.ref b), .val (.double FP.dconst0), .second, .val (.int (0 : Int32))] [(.double (FP.dadd FP.dconst0 (FP.dmul u0 v0)))])
  refine own_go (fun _ => XS.dstoreN X0.here hx rfl (hb hby d2_23) rfl (l' := #[.val (.ref a), .val (.ref b), .val (.double (FP.dadd FP.dconst0 (FP.dmul u0 v0))), .second, .val (.int (0 : Int32))]) rfl) ?_
  show own_R p.tables e below _ T0 (mkF m 24 #[.val (.ref a), .val (.ref b), .val (.double (FP.dadd FP.dconst0 (FP.dmul u0 v0))), .second, .val (.int (0 : Int32))] [])
  refine own_go (fun _ => XS.iinc X0.here hx rfl (hb hby d2_24) rfl (l' := #[.val (.ref a), .val (.ref b), .val (.double (FP.dadd FP.dconst0 (FP.dmul u0 v0))), .second, .val (.int ((0 : Int32) + (1 : Int32)))]) rfl) ?_
  show own_R p.tables e below _ T0 (mkF m 27 #[.val (.ref a), .val (.ref b), .val (.double (FP.dadd FP.dconst0 (FP.dmul u0 v0))), .second, .val (.int (1 : Int32))] [])
  refine own_go (fun _ => XS.goto X0.here hx rfl (pc0 := 27) (pc' := 5) rfl (hb hby d2_27) (by decide) (by decide)) ?_
  show own_R p.tables e below _ T0 (mkF m 5 #[.val (.ref a), .val (.ref b), .val (.double (FP.dadd FP.dconst0 (FP.dmul u0 v0))), .second, .val (.int (1 : Int32))] [])
  refine own_go (fun _ => XS.iload X0.here hx rfl (hb hby d2_5) rfl ) ?_
  show own_R p.tables e below _ T0 (mkF m 7 #[.val (.ref a), .val (.ref b), .val (.double (FP.dadd FP.dconst0 (FP.dmul u0 v0))), .second, .val (.int (1 : Int32))] [(.int (1 : Int32))])
  refine own_go (fun _ => XS.aloadN X0.here hx rfl (hb hby d2_7) rfl rfl) ?_
  show own_R p.tables e below _ T0 (mkF m 8 #[.val (.ref a), .val (.ref b), .val (.double (FP.dadd FP.dconst0 (FP.dmul u0 v0))), .second, .val (.int (1 : Int32))] [(.ref a), (.int (1 : Int32))])
  refine own_go (own_len X0 hx hZ e0 Va (g := (mkF m 8 #[.val (.ref a), .val (.ref b), .val (.double (FP.dadd FP.dconst0 (FP.dmul u0 v0))), .second, .val (.int (1 : Int32))] [(.ref a), (.int (1 : Int32))])) rfl rfl (hb hby d2_8)) ?_
  show own_R p.tables e below _ T0 (mkF m 9 #[.val (.ref a), .val (.ref b), .val (.double (FP.dadd FP.dconst0 (FP.dmul u0 v0))), .second, .val (.int (1 : Int32))] [(.int (2 : Int32)), (.int (1 : Int32))])
  refine own_go (fun _ => XS.icmpNo X0.here hx rfl (hb hby d2_9) rfl (tlt (by decide)).2.1) ?_
  show own_R p.tables e below _ T0 (mkF m 12 #[.val (.ref a), .val (.ref b), .val (.double (FP.dadd FP.dconst0 (FP.dmul u0 v0))), .second, .val (.int (1 : Int32))] [])
  refine own_go (fun _ => XS.dloadN X0.here hx rfl (hb hby d2_12) rfl ) ?_
  show own_R p.tables e below _ T0 (mkF m 13 #[.val (.ref a), .val (.ref b), .val (.double (FP.dadd FP.dconst0 (FP.dmul u0 v0))), .second, .val (.int (1 : Int32))] [(.double (FP.dadd FP.dconst0 (FP.dmul u0 v0)))])
  refine own_go (fun _ => XS.aloadN X0.here hx rfl (hb hby d2_13) rfl rfl) ?_
  show own_R p.tables e below _ T0 (mkF m 14 #[.val (.ref a), .val (.ref b), .val (.double (FP.dadd FP.dconst0 (FP.dmul u0 v0))), .second, .val (.int (1 : Int32))] [(.ref a), (.double (FP.dadd FP.dconst0 (FP.dmul u0 v0)))])
  refine own_go (fun _ => XS.iload X0.here hx rfl (hb hby d2_14) rfl ) ?_
  show own_R p.tables e below _ T0 (mkF m 16 #[.val (.ref a), .val (.ref b), .val (.double (FP.dadd FP.dconst0 (FP.dmul u0 v0))), .second, .val (.int (1 : Int32))] [(.int (1 : Int32)), (.ref a), (.double (FP.dadd FP.dconst0 (FP.dmul u0 v0)))])
  refine own_go (own_ldD X0 hx hZ e0 Va (j := (1 : Int32)) ⟨by decide, by decide⟩ (v := (.double u1)) rfl (g := (mkF m 16 #[.val (.ref a), .val (.ref b), .val (.double (FP.dadd FP.dconst0 (FP.dmul u0 v0))), .second, .val (.int (1 : Int32))] [(.int (1 : Int32)), (.ref a), (.double (FP.dadd FP.dconst0 (FP.dmul u0 v0)))])) rfl rfl (hb hby d2_16)) ?_
  show own_R p.tables e below _ T0 (mkF m 17 #[.val (.ref a), .val (.ref b), .val (.double (FP.dadd FP.dconst0 (FP.dmul u0 v0))), .second, .val (.int (1 : Int32))] [(.double u1), (.double (FP.dadd FP.dconst0 (FP.dmul u0 v0)))])
  refine own_go (fun _ => XS.aloadN X0.here hx rfl (hb hby d2_17) rfl rfl) ?_
  show own_R p.tables e below _ T0 (mkF m 18 #[.val (.ref a), .val (.ref b), .val (.double (FP.dadd FP.dconst0 (FP.dmul u0 v0))), .second, .val (.int (1 : Int32))] [(.ref b), (.double u1), (.double (FP.dadd FP.dconst0 (FP.dmul u0 v0)))])
  refine own_go (fun _ => XS.iload X0.here hx rfl (hb hby d2_18) rfl ) ?_
  show own_R p.tables e below _ T0 (mkF m 20 #[.val (.ref a), .val (.ref b), .val (.double (FP.dadd FP.dconst0 (FP.dmul u0 v0))), .second, .val (.int (1 : Int32))] [(.int (1 : Int32)), (.ref b), (.double u1), (.double (FP.dadd FP.dconst0 (FP.dmul u0 v0)))])
  refine own_go (own_ldD X0 hx hZ e0 Vb (j := (1 : Int32)) ⟨by decide, by decide⟩ (v := (.double v1)) rfl (g := (mkF m 20 #[.val (.ref a), .val (.ref b), .val (.double (FP.dadd FP.dconst0 (FP.dmul u0 v0))), .second, .val (.int (1 : Int32))] [(.int (1 : Int32)), (.ref b), (.double u1), (.double (FP.dadd FP.dconst0 (FP.dmul u0 v0)))])) rfl rfl (hb hby d2_20)) ?_
  show own_R p.tables e below _ T0 (mkF m 21 #[.val (.ref a), .val (.ref b), .val (.double (FP.dadd FP.dconst0 (FP.dmul u0 v0))), .second, .val (.int (1 : Int32))] [(.double v1), (.double u1), (.double (FP.dadd FP.dconst0 (FP.dmul u0 v0)))])
  refine own_go (fun _ => XS.dmulS X0.here hx rfl (hb hby d2_21) rfl hm1 rfl) ?_
  show own_R p.tables e below _ T0 (mkF m 22 #[.val (.ref a), .val (.ref b), .val (.double (FP.dadd FP.dconst0 (FP.dmul u0 v0))), .second, .val (.int (1 : Int32))] [(.double (FP.dmul u1 v1)), (.double (FP.dadd FP.dconst0 (FP.dmul u0 v0)))])
  refine own_go (fun _ => XS.daddS X0.here hx rfl (hb hby d2_22) rfl ha1 rfl) ?_
  show own_R p.tables e below _ T0 (mkF m 23 #[.val (.ref a), .val (.ref b), .val (.double (FP.dadd FP.dconst0 (FP.dmul u0 v0))), .second, .val (.int (1 : Int32))] [(.double (FP.dadd (FP.dadd FP.dconst0 (FP.dmul u0 v0)) (FP.dmul u1 v1)))])
  refine own_go (fun _ => XS.dstoreN X0.here hx rfl (hb hby d2_23) rfl (l' := #[.val (.ref a), .val (.ref b), .val (.double (FP.dadd (FP.dadd FP.dconst0 (FP.dmul u0 v0)) (FP.dmul u1 v1))), .second, .val (.int (1 : Int32))]) rfl) ?_
  show own_R p.tables e below _ T0 (mkF m 24 #[.val (.ref a), .val (.ref b), .val (.double (FP.dadd (FP.dadd FP.dconst0 (FP.dmul u0 v0)) (FP.dmul u1 v1))), .second, .val (.int (1 : Int32))] [])
  refine own_go (fun _ => XS.iinc X0.here hx rfl (hb hby d2_24) rfl (l' := #[.val (.ref a), .val (.ref b), .val (.double (FP.dadd (FP.dadd FP.dconst0 (FP.dmul u0 v0)) (FP.dmul u1 v1))), .second, .val (.int ((1 : Int32) + (1 : Int32)))]) rfl) ?_
  show own_R p.tables e below _ T0 (mkF m 27 #[.val (.ref a), .val (.ref b), .val (.double (FP.dadd (FP.dadd FP.dconst0 (FP.dmul u0 v0)) (FP.dmul u1 v1))), .second, .val (.int (2 : Int32))] [])
  refine own_go (fun _ => XS.goto X0.here hx rfl (pc0 := 27) (pc' := 5) rfl (hb hby d2_27) (by decide) (by decide)) ?_
  show own_R p.tables e below _ T0 (mkF m 5 #[.val (.ref a), .val (.ref b), .val (.double (FP.dadd (FP.dadd FP.dconst0 (FP.dmul u0 v0)) (FP.dmul u1 v1))), .second, .val (.int (2 : Int32))] [])
  refine own_go (fun _ => XS.iload X0.here hx rfl (hb hby d2_5) rfl ) ?_
  show own_R p.tables e below _ T0 (mkF m 7 #[.val (.ref a), .val (.ref b), .val (.double (FP.dadd (FP.dadd FP.dconst0 (FP.dmul u0 v0)) (FP.dmul u1 v1))), .second, .val (.int (2 : Int32))] [(.int (2 : Int32))])
  refine own_go (fun _ => XS.aloadN X0.here hx rfl (hb hby d2_7) rfl rfl) ?_
  show own_R p.tables e below _ T0 (mkF m 8 #[.val (.ref a), .val (.ref b), .val (.double (FP.dadd (FP.dadd FP.dconst0 (FP.dmul u0 v0)) (FP.dmul u1 v1))), .second, .val (.int (2 : Int32))] [(.ref a), (.int (2 : Int32))])
  refine own_go (own_len X0 hx hZ e0 Va (g := (mkF m 8 #[.val (.ref a), .val (.ref b), .val (.double (FP.dadd (FP.dadd FP.dconst0 (FP.dmul u0 v0)) (FP.dmul u1 v1))), .second, .val (.int (2 : Int32))] [(.ref a), (.int (2 : Int32))])) rfl rfl (hb hby d2_8)) ?_
  show own_R p.tables e below _ T0 (mkF m 9 #[.val (.ref a), .val (.ref b), .val (.double (FP.dadd (FP.dadd FP.dconst0 (FP.dmul u0 v0)) (FP.dmul u1 v1))), .second, .val (.int (2 : Int32))] [(.int (2 : Int32)), (.int (2 : Int32))])
  refine own_go (fun _ => XS.icmpYes X0.here hx rfl (pc0 := 9) (pc' := 30) rfl (hb hby d2_9) rfl (flt (by decide)).2.1 (by decide) (by decide)) ?_
  show own_R p.tables e below _ T0 (mkF m 30 #[.val (.ref a), .val (.ref b), .val (.double (FP.dadd (FP.dadd FP.dconst0 (FP.dmul u0 v0)) (FP.dmul u1 v1))), .second, .val (.int (2 : Int32))] [])
  refine own_go (fun _ => XS.dloadN X0.here hx rfl (hb hby d2_30) rfl ) ?_
  show own_R p.tables e below _ T0 (mkF m 31 #[.val (.ref a), .val (.ref b), .val (.double (FP.dadd (FP.dadd FP.dconst0 (FP.dmul u0 v0)) (FP.dmul u1 v1))), .second, .val (.int (2 : Int32))] [(.double (FP.dadd (FP.dadd FP.dconst0 (FP.dmul u0 v0)) (FP.dmul u1 v1)))])
  exact own_end X0 (some (.double (FP.dadd (FP.dadd FP.dconst0 (FP.dmul u0 v0)) (FP.dmul u1 v1)))) (fun h => by rw [hret] at h; cases h) hlk (fun fs hr => own_retD X0 hx hret (hb hby d2_31) hr) ⟨rfl, N0, e0⟩ (by decide) (by decide)
set_option maxRecDepth 65536 in
set_option maxHeartbeats 4000000 in
theorem rmDot3 (l : Launch) (Z : State) (a0 : Array Value) (hw : ∀ d ∈ tables_1, d.before a0 Z = true) (ws : List Jvm.Cond) (h0 : Heap) (n0 : Nat) (a b : Addr) {ka kb : ClassId} (u0 u1 u2 v0 v1 v2 : UInt64) (Va : Arv Z h0 a ka .double 3 [(.double u0), (.double u1), (.double u2)] (.double 0)) (Vb : Arv Z h0 b kb .double 3 [(.double v0), (.double v1), (.double v2)] (.double 0)) (hm0 : Jvm.Free.Fl.NoNaN64 (FP.dmul u0 v0)) (ha0 : Jvm.Free.Fl.NoNaN64 (FP.dadd FP.dconst0 (FP.dmul u0 v0))) (hm1 : Jvm.Free.Fl.NoNaN64 (FP.dmul u1 v1)) (ha1 : Jvm.Free.Fl.NoNaN64 (FP.dadd (FP.dadd FP.dconst0 (FP.dmul u0 v0)) (FP.dmul u1 v1))) (hm2 : Jvm.Free.Fl.NoNaN64 (FP.dmul u2 v2)) (ha2 : Jvm.Free.Fl.NoNaN64 (FP.dadd (FP.dadd (FP.dadd FP.dconst0 (FP.dmul u0 v0)) (FP.dmul u1 v1)) (FP.dmul u2 v2))) :
    own_C l Z (⟨"com/example/pass2/pass2/util/Vectors", "dot", "([D[D)D"⟩ : MethodName) prog_53_method_2_code 5 (some .double) ws ({ frames := 0, cells := 0, slots := 0, locals := 0 } : Room) #[(.ref a), (.ref b)] h0 (own_Qr (some (.double (FP.dadd (FP.dadd (FP.dadd FP.dconst0 (FP.dmul u0 v0)) (FP.dmul u1 v1)) (FP.dmul u2 v2)))) h0 n0) := by
  refine own_body (ls := #[.val (.ref a), .val (.ref b), .unset, .unset, .unset]) pn_2 (fun m => by first | (simp [entryFrame, mkF, argsToLocals, Value.category]; done) | rfl) ?_
  intro p e s m below meth c T0 hZ hx hby hml hown hnm hret hlk X0 e0
  replace hml : c.maxLocals = 5 := hml
  have N0 := Fr.nil n0
  refine own_go (fun _ => XS.dconst0 X0.here hx rfl (hb hby d2_0) rfl) ?_
  show own_R p.tables e below _ T0 (mkF m 1 #[.val (.ref a), .val (.ref b), .unset, .unset, .unset] [(.double FP.dconst0)])
  refine own_go (fun _ => XS.dstoreN X0.here hx rfl (hb hby d2_1) rfl (l' := #[.val (.ref a), .val (.ref b), .val (.double FP.dconst0), .second, .unset]) rfl) ?_
  show own_R p.tables e below _ T0 (mkF m 2 #[.val (.ref a), .val (.ref b), .val (.double FP.dconst0), .second, .unset] [])
  refine own_go (fun _ => XS.iconst X0.here hx rfl (hb hby d2_2)) ?_
  show own_R p.tables e below _ T0 (mkF m 3 #[.val (.ref a), .val (.ref b), .val (.double FP.dconst0), .second, .unset] [(.int (0 : Int32))])
  refine own_go (fun _ => XS.istore X0.here hx rfl (hb hby d2_3) rfl (l' := #[.val (.ref a), .val (.ref b), .val (.double FP.dconst0), .second, .val (.int (0 : Int32))]) rfl) ?_
  show own_R p.tables e below _ T0 (mkF m 5 #[.val (.ref a), .val (.ref b), .val (.double FP.dconst0), .second, .val (.int (0 : Int32))] [])
  refine own_go (fun _ => XS.iload X0.here hx rfl (hb hby d2_5) rfl ) ?_
  show own_R p.tables e below _ T0 (mkF m 7 #[.val (.ref a), .val (.ref b), .val (.double FP.dconst0), .second, .val (.int (0 : Int32))] [(.int (0 : Int32))])
  refine own_go (fun _ => XS.aloadN X0.here hx rfl (hb hby d2_7) rfl rfl) ?_
  show own_R p.tables e below _ T0 (mkF m 8 #[.val (.ref a), .val (.ref b), .val (.double FP.dconst0), .second, .val (.int (0 : Int32))] [(.ref a), (.int (0 : Int32))])
  refine own_go (own_len X0 hx hZ e0 Va (g := (mkF m 8 #[.val (.ref a), .val (.ref b), .val (.double FP.dconst0), .second, .val (.int (0 : Int32))] [(.ref a), (.int (0 : Int32))])) rfl rfl (hb hby d2_8)) ?_
  show own_R p.tables e below _ T0 (mkF m 9 #[.val (.ref a), .val (.ref b), .val (.double FP.dconst0), .second, .val (.int (0 : Int32))] [(.int (3 : Int32)), (.int (0 : Int32))])
  refine own_go (fun _ => XS.icmpNo X0.here hx rfl (hb hby d2_9) rfl (tlt (by decide)).2.1) ?_
  show own_R p.tables e below _ T0 (mkF m 12 #[.val (.ref a), .val (.ref b), .val (.double FP.dconst0), .second, .val (.int (0 : Int32))] [])
  refine own_go (fun _ => XS.dloadN X0.here hx rfl (hb hby d2_12) rfl ) ?_
  show own_R p.tables e below _ T0 (mkF m 13 #[.val (.ref a), .val (.ref b), .val (.double FP.dconst0), .second, .val (.int (0 : Int32))] [(.double FP.dconst0)])
  refine own_go (fun _ => XS.aloadN X0.here hx rfl (hb hby d2_13) rfl rfl) ?_
  show own_R p.tables e below _ T0 (mkF m 14 #[.val (.ref a), .val (.ref b), .val (.double FP.dconst0), .second, .val (.int (0 : Int32))] [(.ref a), (.double FP.dconst0)])
  refine own_go (fun _ => XS.iload X0.here hx rfl (hb hby d2_14) rfl ) ?_
  show own_R p.tables e below _ T0 (mkF m 16 #[.val (.ref a), .val (.ref b), .val (.double FP.dconst0), .second, .val (.int (0 : Int32))] [(.int (0 : Int32)), (.ref a), (.double FP.dconst0)])
  refine own_go (own_ldD X0 hx hZ e0 Va (j := (0 : Int32)) ⟨by decide, by decide⟩ (v := (.double u0)) rfl (g := (mkF m 16 #[.val (.ref a), .val (.ref b), .val (.double FP.dconst0), .second, .val (.int (0 : Int32))] [(.int (0 : Int32)), (.ref a), (.double FP.dconst0)])) rfl rfl (hb hby d2_16)) ?_
  show own_R p.tables e below _ T0 (mkF m 17 #[.val (.ref a), .val (.ref b), .val (.double FP.dconst0), .second, .val (.int (0 : Int32))] [(.double u0), (.double FP.dconst0)])
  refine own_go (fun _ => XS.aloadN X0.here hx rfl (hb hby d2_17) rfl rfl) ?_
  show own_R p.tables e below _ T0 (mkF m 18 #[.val (.ref a), .val (.ref b), .val (.double FP.dconst0), .second, .val (.int (0 : Int32))] [(.ref b), (.double u0), (.double FP.dconst0)])
  refine own_go (fun _ => XS.iload X0.here hx rfl (hb hby d2_18) rfl ) ?_
  show own_R p.tables e below _ T0 (mkF m 20 #[.val (.ref a), .val (.ref b), .val (.double FP.dconst0), .second, .val (.int (0 : Int32))] [(.int (0 : Int32)), (.ref b), (.double u0), (.double FP.dconst0)])
  refine own_go (own_ldD X0 hx hZ e0 Vb (j := (0 : Int32)) ⟨by decide, by decide⟩ (v := (.double v0)) rfl (g := (mkF m 20 #[.val (.ref a), .val (.ref b), .val (.double FP.dconst0), .second, .val (.int (0 : Int32))] [(.int (0 : Int32)), (.ref b), (.double u0), (.double FP.dconst0)])) rfl rfl (hb hby d2_20)) ?_
  show own_R p.tables e below _ T0 (mkF m 21 #[.val (.ref a), .val (.ref b), .val (.double FP.dconst0), .second, .val (.int (0 : Int32))] [(.double v0), (.double u0), (.double FP.dconst0)])
  refine own_go (fun _ => XS.dmulS X0.here hx rfl (hb hby d2_21) rfl hm0 rfl) ?_
  show own_R p.tables e below _ T0 (mkF m 22 #[.val (.ref a), .val (.ref b), .val (.double FP.dconst0), .second, .val (.int (0 : Int32))] [(.double (FP.dmul u0 v0)), (.double FP.dconst0)])
  refine own_go (fun _ => XS.daddS X0.here hx rfl (hb hby d2_22) rfl ha0 rfl) ?_
  show own_R p.tables e below _ T0 (mkF m 23 #[.val (.ref a), .val (.ref b), .val (.double FP.dconst0), .second, .val (.int (0 : Int32))] [(.double (FP.dadd FP.dconst0 (FP.dmul u0 v0)))])
  refine own_go (fun _ => XS.dstoreN X0.here hx rfl (hb hby d2_23) rfl (l' := #[.val (.ref a), .val (.ref b), .val (.double (FP.dadd FP.dconst0 (FP.dmul u0 v0))), .second, .val (.int (0 : Int32))]) rfl) ?_
  show own_R p.tables e below _ T0 (mkF m 24 #[.val (.ref a), .val (.ref b), .val (.double (FP.dadd FP.dconst0 (FP.dmul u0 v0))), .second, .val (.int (0 : Int32))] [])
  refine own_go (fun _ => XS.iinc X0.here hx rfl (hb hby d2_24) rfl (l' := #[.val (.ref a), .val (.ref b), .val (.double (FP.dadd FP.dconst0 (FP.dmul u0 v0))), .second, .val (.int ((0 : Int32) + (1 : Int32)))]) rfl) ?_
  show own_R p.tables e below _ T0 (mkF m 27 #[.val (.ref a), .val (.ref b), .val (.double (FP.dadd FP.dconst0 (FP.dmul u0 v0))), .second, .val (.int (1 : Int32))] [])
  refine own_go (fun _ => XS.goto X0.here hx rfl (pc0 := 27) (pc' := 5) rfl (hb hby d2_27) (by decide) (by decide)) ?_
  show own_R p.tables e below _ T0 (mkF m 5 #[.val (.ref a), .val (.ref b), .val (.double (FP.dadd FP.dconst0 (FP.dmul u0 v0))), .second, .val (.int (1 : Int32))] [])
  refine own_go (fun _ => XS.iload X0.here hx rfl (hb hby d2_5) rfl ) ?_
  show own_R p.tables e below _ T0 (mkF m 7 #[.val (.ref a), .val (.ref b), .val (.double (FP.dadd FP.dconst0 (FP.dmul u0 v0))), .second, .val (.int (1 : Int32))] [(.int (1 : Int32))])
  refine own_go (fun _ => XS.aloadN X0.here hx rfl (hb hby d2_7) rfl rfl) ?_
  show own_R p.tables e below _ T0 (mkF m 8 #[.val (.ref a), .val (.ref b), .val (.double (FP.dadd FP.dconst0 (FP.dmul u0 v0))), .second, .val (.int (1 : Int32))] [(.ref a), (.int (1 : Int32))])
  refine own_go (own_len X0 hx hZ e0 Va (g := (mkF m 8 #[.val (.ref a), .val (.ref b), .val (.double (FP.dadd FP.dconst0 (FP.dmul u0 v0))), .second, .val (.int (1 : Int32))] [(.ref a), (.int (1 : Int32))])) rfl rfl (hb hby d2_8)) ?_
  show own_R p.tables e below _ T0 (mkF m 9 #[.val (.ref a), .val (.ref b), .val (.double (FP.dadd FP.dconst0 (FP.dmul u0 v0))), .second, .val (.int (1 : Int32))] [(.int (3 : Int32)), (.int (1 : Int32))])
  refine own_go (fun _ => XS.icmpNo X0.here hx rfl (hb hby d2_9) rfl (tlt (by decide)).2.1) ?_
  show own_R p.tables e below _ T0 (mkF m 12 #[.val (.ref a), .val (.ref b), .val (.double (FP.dadd FP.dconst0 (FP.dmul u0 v0))), .second, .val (.int (1 : Int32))] [])
  refine own_go (fun _ => XS.dloadN X0.here hx rfl (hb hby d2_12) rfl ) ?_
  show own_R p.tables e below _ T0 (mkF m 13 #[.val (.ref a), .val (.ref b), .val (.double (FP.dadd FP.dconst0 (FP.dmul u0 v0))), .second, .val (.int (1 : Int32))] [(.double (FP.dadd FP.dconst0 (FP.dmul u0 v0)))])
  refine own_go (fun _ => XS.aloadN X0.here hx rfl (hb hby d2_13) rfl rfl) ?_
  show own_R p.tables e below _ T0 (mkF m 14 #[.val (.ref a), .val (.ref b), .val (.double (FP.dadd FP.dconst0 (FP.dmul u0 v0))), .second, .val (.int (1 : Int32))] [(.ref a), (.double (FP.dadd FP.dconst0 (FP.dmul u0 v0)))])
  refine own_go (fun _ => XS.iload X0.here hx rfl (hb hby d2_14) rfl ) ?_
  show own_R p.tables e below _ T0 (mkF m 16 #[.val (.ref a), .val (.ref b), .val (.double (FP.dadd FP.dconst0 (FP.dmul u0 v0))), .second, .val (.int (1 : Int32))] [(.int (1 : Int32)), (.ref a), (.double (FP.dadd FP.dconst0 (FP.dmul u0 v0)))])
  refine own_go (own_ldD X0 hx hZ e0 Va (j := (1 : Int32)) ⟨by decide, by decide⟩ (v := (.double u1)) rfl (g := (mkF m 16 #[.val (.ref a), .val (.ref b), .val (.double (FP.dadd FP.dconst0 (FP.dmul u0 v0))), .second, .val (.int (1 : Int32))] [(.int (1 : Int32)), (.ref a), (.double (FP.dadd FP.dconst0 (FP.dmul u0 v0)))])) rfl rfl (hb hby d2_16)) ?_
  show own_R p.tables e below _ T0 (mkF m 17 #[.val (.ref a), .val (.ref b), .val (.double (FP.dadd FP.dconst0 (FP.dmul u0 v0))), .second, .val (.int (1 : Int32))] [(.double u1), (.double (FP.dadd FP.dconst0 (FP.dmul u0 v0)))])
  refine own_go (fun _ => XS.aloadN X0.here hx rfl (hb hby d2_17) rfl rfl) ?_
  show own_R p.tables e below _ T0 (mkF m 18 #[.val (.ref a), .val (.ref b), .val (.double (FP.dadd FP.dconst0 (FP.dmul u0 v0))), .second, .val (.int (1 : Int32))] [(.ref b), (.double u1), (.double (FP.dadd FP.dconst0 (FP.dmul u0 v0)))])
  refine own_go (fun _ => XS.iload X0.here hx rfl (hb hby d2_18) rfl ) ?_
  show own_R p.tables e below _ T0 (mkF m 20 #[.val (.ref a), .val (.ref b), .val (.double (FP.dadd FP.dconst0 (FP.dmul u0 v0))), .second, .val (.int (1 : Int32))] [(.int (1 : Int32)), (.ref b), (.double u1), (.double (FP.dadd FP.dconst0 (FP.dmul u0 v0)))])
  refine own_go (own_ldD X0 hx hZ e0 Vb (j := (1 : Int32)) ⟨by decide, by decide⟩ (v := (.double v1)) rfl (g := (mkF m 20 #[.val (.ref a), .val (.ref b), .val (.double (FP.dadd FP.dconst0 (FP.dmul u0 v0))), .second, .val (.int (1 : Int32))] [(.int (1 : Int32)), (.ref b), (.double u1), (.double (FP.dadd FP.dconst0 (FP.dmul u0 v0)))])) rfl rfl (hb hby d2_20)) ?_
  show own_R p.tables e below _ T0 (mkF m 21 #[.val (.ref a), .val (.ref b), .val (.double (FP.dadd FP.dconst0 (FP.dmul u0 v0))), .second, .val (.int (1 : Int32))] [(.double v1), (.double u1), (.double (FP.dadd FP.dconst0 (FP.dmul u0 v0)))])
  refine own_go (fun _ => XS.dmulS X0.here hx rfl (hb hby d2_21) rfl hm1 rfl) ?_
  show own_R p.tables e below _ T0 (mkF m 22 #[.val (.ref a), .val (.ref b), .val (.double (FP.dadd FP.dconst0 (FP.dmul u0 v0))), .second, .val (.int (1 : Int32))] [(.double (FP.dmul u1 v1)), (.double (FP.dadd FP.dconst0 (FP.dmul u0 v0)))])
  refine own_go (fun _ => XS.daddS X0.here hx rfl (hb hby d2_22) rfl ha1 rfl) ?_
  show own_R p.tables e below _ T0 (mkF m 23 #[.val (.ref a), .val (.ref b), .val (.double (FP.dadd FP.dconst0 (FP.dmul u0 v0))), .second, .val (.int (1 : Int32))] [(.double (FP.dadd (FP.dadd FP.dconst0 (FP.dmul u0 v0)) (FP.dmul u1 v1)))])
  refine own_go (fun _ => XS.dstoreN X0.here hx rfl (hb hby d2_23) rfl (l' := #[.val (.ref a), .val (.ref b), .val (.double (FP.dadd (FP.dadd FP.dconst0 (FP.dmul u0 v0)) (FP.dmul u1 v1))), .second, .val (.int (1 : Int32))]) rfl) ?_
  show own_R p.tables e below _ T0 (mkF m 24 #[.val (.ref a), .val (.ref b), .val (.double (FP.dadd (FP.dadd FP.dconst0 (FP.dmul u0 v0)) (FP.dmul u1 v1))), .second, .val (.int (1 : Int32))] [])
  refine own_go (fun _ => XS.iinc X0.here hx rfl (hb hby d2_24) rfl (l' := #[.val (.ref a), .val (.ref b), .val (.double (FP.dadd (FP.dadd FP.dconst0 (FP.dmul u0 v0)) (FP.dmul u1 v1))), .second, .val (.int ((1 : Int32) + (1 : Int32)))]) rfl) ?_
  show own_R p.tables e below _ T0 (mkF m 27 #[.val (.ref a), .val (.ref b), .val (.double (FP.dadd (FP.dadd FP.dconst0 (FP.dmul u0 v0)) (FP.dmul u1 v1))), .second, .val (.int (2 : Int32))] [])
  refine own_go (fun _ => XS.goto X0.here hx rfl (pc0 := 27) (pc' := 5) rfl (hb hby d2_27) (by decide) (by decide)) ?_
  show own_R p.tables e below _ T0 (mkF m 5 #[.val (.ref a), .val (.ref b), .val (.double (FP.dadd (FP.dadd FP.dconst0 (FP.dmul u0 v0)) (FP.dmul u1 v1))), .second, .val (.int (2 : Int32))] [])
  refine own_go (fun _ => XS.iload X0.here hx rfl (hb hby d2_5) rfl ) ?_
  show own_R p.tables e below _ T0 (mkF m 7 #[.val (.ref a), .val (.ref b), .val (.double (FP.dadd (FP.dadd FP.dconst0 (FP.dmul u0 v0)) (FP.dmul u1 v1))), .second, .val (.int (2 : Int32))] [(.int (2 : Int32))])
  refine own_go (fun _ => XS.aloadN X0.here hx rfl (hb hby d2_7) rfl rfl) ?_
  show own_R p.tables e below _ T0 (mkF m 8 #[.val (.ref a), .val (.ref b), .val (.double (FP.dadd (FP.dadd FP.dconst0 (FP.dmul u0 v0)) (FP.dmul u1 v1))), .second, .val (.int (2 : Int32))] [(.ref a), (.int (2 : Int32))])
  refine own_go (own_len X0 hx hZ e0 Va (g := (mkF m 8 #[.val (.ref a), .val (.ref b), .val (.double (FP.dadd (FP.dadd FP.dconst0 (FP.dmul u0 v0)) (FP.dmul u1 v1))), .second, .val (.int (2 : Int32))] [(.ref a), (.int (2 : Int32))])) rfl rfl (hb hby d2_8)) ?_
  show own_R p.tables e below _ T0 (mkF m 9 #[.val (.ref a), .val (.ref b), .val (.double (FP.dadd (FP.dadd FP.dconst0 (FP.dmul u0 v0)) (FP.dmul u1 v1))), .second, .val (.int (2 : Int32))] [(.int (3 : Int32)), (.int (2 : Int32))])
  refine own_go (fun _ => XS.icmpNo X0.here hx rfl (hb hby d2_9) rfl (tlt (by decide)).2.1) ?_
  show own_R p.tables e below _ T0 (mkF m 12 #[.val (.ref a), .val (.ref b), .val (.double (FP.dadd (FP.dadd FP.dconst0 (FP.dmul u0 v0)) (FP.dmul u1 v1))), .second, .val (.int (2 : Int32))] [])
  refine own_go (fun _ => XS.dloadN X0.here hx rfl (hb hby d2_12) rfl ) ?_
  show own_R p.tables e below _ T0 (mkF m 13 #[.val (.ref a), .val (.ref b), .val (.double (FP.dadd (FP.dadd FP.dconst0 (FP.dmul u0 v0)) (FP.dmul u1 v1))), .second, .val (.int (2 : Int32))] [(.double (FP.dadd (FP.dadd FP.dconst0 (FP.dmul u0 v0)) (FP.dmul u1 v1)))])
  refine own_go (fun _ => XS.aloadN X0.here hx rfl (hb hby d2_13) rfl rfl) ?_
  show own_R p.tables e below _ T0 (mkF m 14 #[.val (.ref a), .val (.ref b), .val (.double (FP.dadd (FP.dadd FP.dconst0 (FP.dmul u0 v0)) (FP.dmul u1 v1))), .second, .val (.int (2 : Int32))] [(.ref a), (.double (FP.dadd (FP.dadd FP.dconst0 (FP.dmul u0 v0)) (FP.dmul u1 v1)))])
  refine own_go (fun _ => XS.iload X0.here hx rfl (hb hby d2_14) rfl ) ?_
  show own_R p.tables e below _ T0 (mkF m 16 #[.val (.ref a), .val (.ref b), .val (.double (FP.dadd (FP.dadd FP.dconst0 (FP.dmul u0 v0)) (FP.dmul u1 v1))), .second, .val (.int (2 : Int32))] [(.int (2 : Int32)), (.ref a), (.double (FP.dadd (FP.dadd FP.dconst0 (FP.dmul u0 v0)) (FP.dmul u1 v1)))])
  refine own_go (own_ldD X0 hx hZ e0 Va (j := (2 : Int32)) ⟨by decide, by decide⟩ (v := (.double u2)) rfl (g := (mkF m 16 #[.val (.ref a), .val (.ref b), .val (.double (FP.dadd (FP.dadd FP.dconst0 (FP.dmul u0 v0)) (FP.dmul u1 v1))), .second, .val (.int (2 : Int32))] [(.int (2 : Int32)), (.ref a), (.double (FP.dadd (FP.dadd FP.dconst0 (FP.dmul u0 v0)) (FP.dmul u1 v1)))])) rfl rfl (hb hby d2_16)) ?_
  show own_R p.tables e below _ T0 (mkF m 17 #[.val (.ref a), .val (.ref b), .val (.double (FP.dadd (FP.dadd FP.dconst0 (FP.dmul u0 v0)) (FP.dmul u1 v1))), .second, .val (.int (2 : Int32))] [(.double u2), (.double (FP.dadd (FP.dadd FP.dconst0 (FP.dmul u0 v0)) (FP.dmul u1 v1)))])
  refine own_go (fun _ => XS.aloadN X0.here hx rfl (hb hby d2_17) rfl rfl) ?_
  show own_R p.tables e below _ T0 (mkF m 18 #[.val (.ref a), .val (.ref b), .val (.double (FP.dadd (FP.dadd FP.dconst0 (FP.dmul u0 v0)) (FP.dmul u1 v1))), .second, .val (.int (2 : Int32))] [(.ref b), (.double u2), (.double (FP.dadd (FP.dadd FP.dconst0 (FP.dmul u0 v0)) (FP.dmul u1 v1)))])
  refine own_go (fun _ => XS.iload X0.here hx rfl (hb hby d2_18) rfl ) ?_
  show own_R p.tables e below _ T0 (mkF m 20 #[.val (.ref a), .val (.ref b), .val (.double (FP.dadd (FP.dadd FP.dconst0 (FP.dmul u0 v0)) (FP.dmul u1 v1))), .second, .val (.int (2 : Int32))] [(.int (2 : Int32)), (.ref b), (.double u2), (.double (FP.dadd (FP.dadd FP.dconst0 (FP.dmul u0 v0)) (FP.dmul u1 v1)))])
  refine own_go (own_ldD X0 hx hZ e0 Vb (j := (2 : Int32)) ⟨by decide, by decide⟩ (v := (.double v2)) rfl (g := (mkF m 20 #[.val (.ref a), .val (.ref b), .val (.double (FP.dadd (FP.dadd FP.dconst0 (FP.dmul u0 v0)) (FP.dmul u1 v1))), .second, .val (.int (2 : Int32))] [(.int (2 : Int32)), (.ref b), (.double u2), (.double (FP.dadd (FP.dadd FP.dconst0 (FP.dmul u0 v0)) (FP.dmul u1 v1)))])) rfl rfl (hb hby d2_20)) ?_
  show own_R p.tables e below _ T0 (mkF m 21 #[.val (.ref a), .val (.ref b), .val (.double (FP.dadd (FP.dadd FP.dconst0 (FP.dmul u0 v0)) (FP.dmul u1 v1))), .second, .val (.int (2 : Int32))] [(.double v2), (.double u2), (.double (FP.dadd (FP.dadd FP.dconst0 (FP.dmul u0 v0)) (FP.dmul u1 v1)))])
  refine own_go (fun _ => XS.dmulS X0.here hx rfl (hb hby d2_21) rfl hm2 rfl) ?_
  show own_R p.tables e below _ T0 (mkF m 22 #[.val (.ref a), .val (.ref b), .val (.double (FP.dadd (FP.dadd FP.dconst0 (FP.dmul u0 v0)) (FP.dmul u1 v1))), .second, .val (.int (2 : Int32))] [(.double (FP.dmul u2 v2)), (.double (FP.dadd (FP.dadd FP.dconst0 (FP.dmul u0 v0)) (FP.dmul u1 v1)))])
  refine own_go (fun _ => XS.daddS X0.here hx rfl (hb hby d2_22) rfl ha2 rfl) ?_
  show own_R p.tables e below _ T0 (mkF m 23 #[.val (.ref a), .val (.ref b), .val (.double (FP.dadd (FP.dadd FP.dconst0 (FP.dmul u0 v0)) (FP.dmul u1 v1))), .second, .val (.int (2 : Int32))] [(.double (FP.dadd (FP.dadd (FP.dadd FP.dconst0 (FP.dmul u0 v0)) (FP.dmul u1 v1)) (FP.dmul u2 v2)))])
  refine own_go (fun _ => XS.dstoreN X0.here hx rfl (hb hby d2_23) rfl (l' := #[.val (.ref a), .val (.ref b), .val (.double (FP.dadd (FP.dadd (FP.dadd FP.dconst0 (FP.dmul u0 v0)) (FP.dmul u1 v1)) (FP.dmul u2 v2))), .second, .val (.int (2 : Int32))]) rfl) ?_
  show own_R p.tables e below _ T0 (mkF m 24 #[.val (.ref a), .val (.ref b), .val (.double (FP.dadd (FP.dadd (FP.dadd FP.dconst0 (FP.dmul u0 v0)) (FP.dmul u1 v1)) (FP.dmul u2 v2))), .second, .val (.int (2 : Int32))] [])
  refine own_go (fun _ => XS.iinc X0.here hx rfl (hb hby d2_24) rfl (l' := #[.val (.ref a), .val (.ref b), .val (.double (FP.dadd (FP.dadd (FP.dadd FP.dconst0 (FP.dmul u0 v0)) (FP.dmul u1 v1)) (FP.dmul u2 v2))), .second, .val (.int ((2 : Int32) + (1 : Int32)))]) rfl) ?_
  show own_R p.tables e below _ T0 (mkF m 27 #[.val (.ref a), .val (.ref b), .val (.double (FP.dadd (FP.dadd (FP.dadd FP.dconst0 (FP.dmul u0 v0)) (FP.dmul u1 v1)) (FP.dmul u2 v2))), .second, .val (.int (3 : Int32))] [])
  refine own_go (fun _ => XS.goto X0.here hx rfl (pc0 := 27) (pc' := 5) rfl (hb hby d2_27) (by decide) (by decide)) ?_
  show own_R p.tables e below _ T0 (mkF m 5 #[.val (.ref a), .val (.ref b), .val (.double (FP.dadd (FP.dadd (FP.dadd FP.dconst0 (FP.dmul u0 v0)) (FP.dmul u1 v1)) (FP.dmul u2 v2))), .second, .val (.int (3 : Int32))] [])
  refine own_go (fun _ => XS.iload X0.here hx rfl (hb hby d2_5) rfl ) ?_
  show own_R p.tables e below _ T0 (mkF m 7 #[.val (.ref a), .val (.ref b), .val (.double (FP.dadd (FP.dadd (FP.dadd FP.dconst0 (FP.dmul u0 v0)) (FP.dmul u1 v1)) (FP.dmul u2 v2))), .second, .val (.int (3 : Int32))] [(.int (3 : Int32))])
  refine own_go (fun _ => XS.aloadN X0.here hx rfl (hb hby d2_7) rfl rfl) ?_
  show own_R p.tables e below _ T0 (mkF m 8 #[.val (.ref a), .val (.ref b), .val (.double (FP.dadd (FP.dadd (FP.dadd FP.dconst0 (FP.dmul u0 v0)) (FP.dmul u1 v1)) (FP.dmul u2 v2))), .second, .val (.int (3 : Int32))] [(.ref a), (.int (3 : Int32))])
  refine own_go (own_len X0 hx hZ e0 Va (g := (mkF m 8 #[.val (.ref a), .val (.ref b), .val (.double (FP.dadd (FP.dadd (FP.dadd FP.dconst0 (FP.dmul u0 v0)) (FP.dmul u1 v1)) (FP.dmul u2 v2))), .second, .val (.int (3 : Int32))] [(.ref a), (.int (3 : Int32))])) rfl rfl (hb hby d2_8)) ?_
  show own_R p.tables e below _ T0 (mkF m 9 #[.val (.ref a), .val (.ref b), .val (.double (FP.dadd (FP.dadd (FP.dadd FP.dconst0 (FP.dmul u0 v0)) (FP.dmul u1 v1)) (FP.dmul u2 v2))), .second, .val (.int (3 : Int32))] [(.int (3 : Int32)), (.int (3 : Int32))])
  refine own_go (fun _ => XS.icmpYes X0.here hx rfl (pc0 := 9) (pc' := 30) rfl (hb hby d2_9) rfl (flt (by decide)).2.1 (by decide) (by decide)) ?_
  show own_R p.tables e below _ T0 (mkF m 30 #[.val (.ref a), .val (.ref b), .val (.double (FP.dadd (FP.dadd (FP.dadd FP.dconst0 (FP.dmul u0 v0)) (FP.dmul u1 v1)) (FP.dmul u2 v2))), .second, .val (.int (3 : Int32))] [])
  refine own_go (fun _ => XS.dloadN X0.here hx rfl (hb hby d2_30) rfl ) ?_
  show own_R p.tables e below _ T0 (mkF m 31 #[.val (.ref a), .val (.ref b), .val (.double (FP.dadd (FP.dadd (FP.dadd FP.dconst0 (FP.dmul u0 v0)) (FP.dmul u1 v1)) (FP.dmul u2 v2))), .second, .val (.int (3 : Int32))] [(.double (FP.dadd (FP.dadd (FP.dadd FP.dconst0 (FP.dmul u0 v0)) (FP.dmul u1 v1)) (FP.dmul u2 v2)))])
  exact own_end X0 (some (.double (FP.dadd (FP.dadd (FP.dadd FP.dconst0 (FP.dmul u0 v0)) (FP.dmul u1 v1)) (FP.dmul u2 v2)))) (fun h => by rw [hret] at h; cases h) hlk (fun fs hr => own_retD X0 hx hret (hb hby d2_31) hr) ⟨rfl, N0, e0⟩ (by decide) (by decide)
theorem own_dz : own_DH 0 FP.dconst0 := by
  refine ⟨⟨false, 0, _, FP.Core.val64_zero⟩, ?_⟩
  unfold own_z
  rw [show FP.dconst0 = 0 from rfl, FP.Core.zval64_zero, Int.mul_zero, Int.zero_mul]
theorem own_mulb {x y : Int} {A B : Nat} (hx : x.natAbs ≤ A) (hy : y.natAbs ≤ B) : (x * y).natAbs ≤ A * B := by
  rw [Int.natAbs_mul]; exact Nat.mul_le_mul hx hy
theorem own_cmp0 {m n : Int} {x y : UInt64} (hx : own_DH m x) (hy : own_DH n y) (h : m = n) (o : CmpOp) : cmpValue (FP.dcmp x y) o = 0 := by
  rw [own_dh_cmp hx hy, (FP.Core.compare_eq_iff m n).mpr h]
  cases o <;> rfl
/-- one product of an int and a short, as doubles and as longs -/
theorem own_prod (a : Int32) (y : Int64) (hy : y.toInt.natAbs ≤ 32768) : own_DH (2 * (a.toInt * y.toInt)) (FP.dmul (FP.i2d a) (FP.l2d y)) ∧ (a.toInt64 * y).toInt = a.toInt * y.toInt ∧ (a.toInt * y.toInt).natAbs ≤ 2 ^ 46 := by
  have r := rng32 a
  have b := own_mulb (x := a.toInt) (y := y.toInt) (A := 2 ^ 31) (B := 32768) (by omega) hy
  refine ⟨own_dh_mul (own_dh_i2d a) (own_dh_l2d y (by omega)) (by rw [show (2 * a.toInt) * (2 * y.toInt) = 2 * (2 * (a.toInt * y.toInt)) by ac_rfl]) (by omega), ?_, by omega⟩
  rw [FP.Core.int64_mul (by rw [Int32.toInt_toInt64]; omega) (by rw [Int32.toInt_toInt64]; omega), Int32.toInt_toInt64]
def own_Q0 (n0 : Nat) (v : Option Value) (h : Heap) (L : List Loc) : Prop := v = some (.int (1 : Int32)) ∧ Fr n0 L
set_option maxRecDepth 65536 in
set_option maxHeartbeats 40000000 in
theorem rm0 (l : Launch) (Z : State) (a0 : Array Value) (hw : ∀ d ∈ tables_1, d.before a0 Z = true) (ws : List Jvm.Cond) (h0 : Heap) (n0 : Nat) (ln p0 p1 p2 b01 b2 : Int32) (Z0 : n0 ≤ h0.size) :
    own_C l Z x code maxLocals ret ws room_1 #[(.int ln), (.int p0), (.int p1), (.int p2), (.int b01), (.int b2)] h0 (own_Q0 n0) := by
  refine own_body (ls := #[.val (.int ln), .val (.int p0), .val (.int p1), .val (.int p2), .val (.int b01), .val (.int b2), .unset, .unset, .unset, .unset, .unset, .unset, .unset, .unset, .unset, .unset, .unset, .unset, .unset]) pn_0 (fun m => by first | (simp [entryFrame, mkF, argsToLocals, Value.category, maxLocals]; done) | rfl) ?_
  intro p e s m below meth c T0 hZ hx hby hml hown hnm hret hlk X0 e0
  replace hml : c.maxLocals = 19 := hml
  have N0 := Fr.nil n0
  refine own_go (fun _ => XS.iloadN X0.here hx rfl (hb hby at_0) rfl ) ?_
  show own_R p.tables e below _ T0 (mkF m 1 #[.val (.int ln), .val (.int p0), .val (.int p1), .val (.int p2), .val (.int b01), .val (.int b2), .unset, .unset, .unset, .unset, .unset, .unset, .unset, .unset, .unset, .unset, .unset, .unset, .unset] [(.int ln)])
  refine own_go (fun _ => XS.iconst X0.here hx rfl (hb hby at_1)) ?_
  show own_R p.tables e below _ T0 (mkF m 2 #[.val (.int ln), .val (.int p0), .val (.int p1), .val (.int p2), .val (.int b01), .val (.int b2), .unset, .unset, .unset, .unset, .unset, .unset, .unset, .unset, .unset, .unset, .unset, .unset, .unset] [(.int (3 : Int32)), (.int ln)])
  refine own_go (fun _ => XS.iand X0.here hx rfl (hb hby at_2) rfl) ?_
  show own_R p.tables e below _ T0 (mkF m 3 #[.val (.int ln), .val (.int p0), .val (.int p1), .val (.int p2), .val (.int b01), .val (.int b2), .unset, .unset, .unset, .unset, .unset, .unset, .unset, .unset, .unset, .unset, .unset, .unset, .unset] [(.int (ln &&& (3 : Int32)))])
  refine own_go (fun _ => XS.istore X0.here hx rfl (hb hby at_3) rfl (l' := #[.val (.int ln), .val (.int p0), .val (.int p1), .val (.int p2), .val (.int b01), .val (.int b2), .val (.int (ln &&& (3 : Int32))), .unset, .unset, .unset, .unset, .unset, .unset, .unset, .unset, .unset, .unset, .unset, .unset]) rfl) ?_
  show own_R p.tables e below _ T0 (mkF m 5 #[.val (.int ln), .val (.int p0), .val (.int p1), .val (.int p2), .val (.int b01), .val (.int b2), .val (.int (ln &&& (3 : Int32))), .unset, .unset, .unset, .unset, .unset, .unset, .unset, .unset, .unset, .unset, .unset, .unset] [])
  refine own_go (fun _ => XS.iload X0.here hx rfl (hb hby at_5) rfl ) ?_
  show own_R p.tables e below _ T0 (mkF m 7 #[.val (.int ln), .val (.int p0), .val (.int p1), .val (.int p2), .val (.int b01), .val (.int b2), .val (.int (ln &&& (3 : Int32))), .unset, .unset, .unset, .unset, .unset, .unset, .unset, .unset, .unset, .unset, .unset, .unset] [(.int b01)])
  refine own_go (fun _ => XS.i2s X0.here hx rfl (hb hby at_7) rfl) ?_
  show own_R p.tables e below _ T0 (mkF m 8 #[.val (.int ln), .val (.int p0), .val (.int p1), .val (.int p2), .val (.int b01), .val (.int b2), .val (.int (ln &&& (3 : Int32))), .unset, .unset, .unset, .unset, .unset, .unset, .unset, .unset, .unset, .unset, .unset, .unset] [(.int (b01.toInt16.toInt32))])
  refine own_go (fun _ => XS.i2l X0.here hx rfl (hb hby at_8) rfl) ?_
  show own_R p.tables e below _ T0 (mkF m 9 #[.val (.int ln), .val (.int p0), .val (.int p1), .val (.int p2), .val (.int b01), .val (.int b2), .val (.int (ln &&& (3 : Int32))), .unset, .unset, .unset, .unset, .unset, .unset, .unset, .unset, .unset, .unset, .unset, .unset] [(.long ((b01.toInt16.toInt32).toInt64))])
  refine own_go (fun _ => XS.lstore X0.here hx rfl (hb hby at_9) rfl (l' := #[.val (.int ln), .val (.int p0), .val (.int p1), .val (.int p2), .val (.int b01), .val (.int b2), .val (.int (ln &&& (3 : Int32))), .val (.long ((b01.toInt16.toInt32).toInt64)), .second, .unset, .unset, .unset, .unset, .unset, .unset, .unset, .unset, .unset, .unset]) rfl) ?_
  show own_R p.tables e below _ T0 (mkF m 11 #[.val (.int ln), .val (.int p0), .val (.int p1), .val (.int p2), .val (.int b01), .val (.int b2), .val (.int (ln &&& (3 : Int32))), .val (.long ((b01.toInt16.toInt32).toInt64)), .second, .unset, .unset, .unset, .unset, .unset, .unset, .unset, .unset, .unset, .unset] [])
  refine own_go (fun _ => XS.iload X0.here hx rfl (hb hby at_11) rfl ) ?_
  show own_R p.tables e below _ T0 (mkF m 13 #[.val (.int ln), .val (.int p0), .val (.int p1), .val (.int p2), .val (.int b01), .val (.int b2), .val (.int (ln &&& (3 : Int32))), .val (.long ((b01.toInt16.toInt32).toInt64)), .second, .unset, .unset, .unset, .unset, .unset, .unset, .unset, .unset, .unset, .unset] [(.int b01)])
  refine own_go (fun _ => XS.bipush X0.here hx rfl (hb hby at_13)) ?_
  show own_R p.tables e below _ T0 (mkF m 15 #[.val (.int ln), .val (.int p0), .val (.int p1), .val (.int p2), .val (.int b01), .val (.int b2), .val (.int (ln &&& (3 : Int32))), .val (.long ((b01.toInt16.toInt32).toInt64)), .second, .unset, .unset, .unset, .unset, .unset, .unset, .unset, .unset, .unset, .unset] [(.int (16 : Int32)), (.int b01)])
  refine own_go (fun _ => XS.ishr X0.here hx rfl (hb hby at_15) rfl) ?_
  show own_R p.tables e below _ T0 (mkF m 16 #[.val (.int ln), .val (.int p0), .val (.int p1), .val (.int p2), .val (.int b01), .val (.int b2), .val (.int (ln &&& (3 : Int32))), .val (.long ((b01.toInt16.toInt32).toInt64)), .second, .unset, .unset, .unset, .unset, .unset, .unset, .unset, .unset, .unset, .unset] [(.int (b01 >>> ((16 : Int32) &&& 31)))])
  refine own_go (fun _ => XS.i2s X0.here hx rfl (hb hby at_16) rfl) ?_
  show own_R p.tables e below _ T0 (mkF m 17 #[.val (.int ln), .val (.int p0), .val (.int p1), .val (.int p2), .val (.int b01), .val (.int b2), .val (.int (ln &&& (3 : Int32))), .val (.long ((b01.toInt16.toInt32).toInt64)), .second, .unset, .unset, .unset, .unset, .unset, .unset, .unset, .unset, .unset, .unset] [(.int ((b01 >>> ((16 : Int32) &&& 31)).toInt16.toInt32))])
  refine own_go (fun _ => XS.i2l X0.here hx rfl (hb hby at_17) rfl) ?_
  show own_R p.tables e below _ T0 (mkF m 18 #[.val (.int ln), .val (.int p0), .val (.int p1), .val (.int p2), .val (.int b01), .val (.int b2), .val (.int (ln &&& (3 : Int32))), .val (.long ((b01.toInt16.toInt32).toInt64)), .second, .unset, .unset, .unset, .unset, .unset, .unset, .unset, .unset, .unset, .unset] [(.long (((b01 >>> ((16 : Int32) &&& 31)).toInt16.toInt32).toInt64))])
  refine own_go (fun _ => XS.lstore X0.here hx rfl (hb hby at_18) rfl (l' := #[.val (.int ln), .val (.int p0), .val (.int p1), .val (.int p2), .val (.int b01), .val (.int b2), .val (.int (ln &&& (3 : Int32))), .val (.long ((b01.toInt16.toInt32).toInt64)), .second, .val (.long (((b01 >>> ((16 : Int32) &&& 31)).toInt16.toInt32).toInt64)), .second, .unset, .unset, .unset, .unset, .unset, .unset, .unset, .unset]) rfl) ?_
  show own_R p.tables e below _ T0 (mkF m 20 #[.val (.int ln), .val (.int p0), .val (.int p1), .val (.int p2), .val (.int b01), .val (.int b2), .val (.int (ln &&& (3 : Int32))), .val (.long ((b01.toInt16.toInt32).toInt64)), .second, .val (.long (((b01 >>> ((16 : Int32) &&& 31)).toInt16.toInt32).toInt64)), .second, .unset, .unset, .unset, .unset, .unset, .unset, .unset, .unset] [])
  refine own_go (fun _ => XS.iload X0.here hx rfl (hb hby at_20) rfl ) ?_
  show own_R p.tables e below _ T0 (mkF m 22 #[.val (.int ln), .val (.int p0), .val (.int p1), .val (.int p2), .val (.int b01), .val (.int b2), .val (.int (ln &&& (3 : Int32))), .val (.long ((b01.toInt16.toInt32).toInt64)), .second, .val (.long (((b01 >>> ((16 : Int32) &&& 31)).toInt16.toInt32).toInt64)), .second, .unset, .unset, .unset, .unset, .unset, .unset, .unset, .unset] [(.int b2)])
  refine own_go (fun _ => XS.i2s X0.here hx rfl (hb hby at_22) rfl) ?_
  show own_R p.tables e below _ T0 (mkF m 23 #[.val (.int ln), .val (.int p0), .val (.int p1), .val (.int p2), .val (.int b01), .val (.int b2), .val (.int (ln &&& (3 : Int32))), .val (.long ((b01.toInt16.toInt32).toInt64)), .second, .val (.long (((b01 >>> ((16 : Int32) &&& 31)).toInt16.toInt32).toInt64)), .second, .unset, .unset, .unset, .unset, .unset, .unset, .unset, .unset] [(.int (b2.toInt16.toInt32))])
  refine own_go (fun _ => XS.i2l X0.here hx rfl (hb hby at_23) rfl) ?_
  show own_R p.tables e below _ T0 (mkF m 24 #[.val (.int ln), .val (.int p0), .val (.int p1), .val (.int p2), .val (.int b01), .val (.int b2), .val (.int (ln &&& (3 : Int32))), .val (.long ((b01.toInt16.toInt32).toInt64)), .second, .val (.long (((b01 >>> ((16 : Int32) &&& 31)).toInt16.toInt32).toInt64)), .second, .unset, .unset, .unset, .unset, .unset, .unset, .unset, .unset] [(.long ((b2.toInt16.toInt32).toInt64))])
  refine own_go (fun _ => XS.lstore X0.here hx rfl (hb hby at_24) rfl (l' := #[.val (.int ln), .val (.int p0), .val (.int p1), .val (.int p2), .val (.int b01), .val (.int b2), .val (.int (ln &&& (3 : Int32))), .val (.long ((b01.toInt16.toInt32).toInt64)), .second, .val (.long (((b01 >>> ((16 : Int32) &&& 31)).toInt16.toInt32).toInt64)), .second, .val (.long ((b2.toInt16.toInt32).toInt64)), .second, .unset, .unset, .unset, .unset, .unset, .unset]) rfl) ?_
  show own_R p.tables e below _ T0 (mkF m 26 #[.val (.int ln), .val (.int p0), .val (.int p1), .val (.int p2), .val (.int b01), .val (.int b2), .val (.int (ln &&& (3 : Int32))), .val (.long ((b01.toInt16.toInt32).toInt64)), .second, .val (.long (((b01 >>> ((16 : Int32) &&& 31)).toInt16.toInt32).toInt64)), .second, .val (.long ((b2.toInt16.toInt32).toInt64)), .second, .unset, .unset, .unset, .unset, .unset, .unset] [])
  have hy0 : ((b01.toInt16.toInt32).toInt64).toInt.natAbs ≤ 32768 := by have := (c_i2s b01).2; rw [Int32.toInt_toInt64]; omega
  generalize (b01.toInt16.toInt32).toInt64 = y0 at hy0 ⊢
  have hy1 : (((b01 >>> ((16 : Int32) &&& 31)).toInt16.toInt32).toInt64).toInt.natAbs ≤ 32768 := by have := (c_i2s (b01 >>> ((16 : Int32) &&& 31))).2; rw [Int32.toInt_toInt64]; omega
  generalize ((b01 >>> ((16 : Int32) &&& 31)).toInt16.toInt32).toInt64 = y1 at hy1 ⊢
  have hy2 : ((b2.toInt16.toInt32).toInt64).toInt.natAbs ≤ 32768 := by have := (c_i2s b2).2; rw [Int32.toInt_toInt64]; omega
  generalize (b2.toInt16.toInt32).toInt64 = y2 at hy2 ⊢
  show own_R p.tables e below _ T0 (mkF m 26 #[.val (.int ln), .val (.int p0), .val (.int p1), .val (.int p2), .val (.int b01), .val (.int b2), .val (.int (ln &&& (3 : Int32))), .val (.long y0), .second, .val (.long y1), .second, .val (.long y2), .second, .unset, .unset, .unset, .unset, .unset, .unset] [])
  have hn : (ln &&& (3 : Int32)) = 0 ∨ (ln &&& (3 : Int32)) = 1 ∨ (ln &&& (3 : Int32)) = 2 ∨ (ln &&& (3 : Int32)) = 3 := by
    have q := c_and ln 3 (by decide)
    have e3 : (3 : Int32).toInt = 3 := by decide
    rw [e3] at q
    have f : ∀ z : Int32, 0 ≤ z.toInt → z.toInt ≤ 3 → z = 0 ∨ z = 1 ∨ z = 2 ∨ z = 3 := fun z h1 h2 => by
      have : z.toInt = 0 ∨ z.toInt = 1 ∨ z.toInt = 2 ∨ z.toInt = 3 := by omega
      rcases this with t | t | t | t
      · exact Or.inl (Int32.toInt_inj.mp (t.trans (by decide)))
      · exact Or.inr (Or.inl (Int32.toInt_inj.mp (t.trans (by decide))))
      · exact Or.inr (Or.inr (Or.inl (Int32.toInt_inj.mp (t.trans (by decide)))))
      · exact Or.inr (Or.inr (Or.inr ((Int32.toInt_inj.mp (t.trans (by decide))))))
    exact f _ q.1 q.2
  generalize ln &&& (3 : Int32) = n at hn ⊢
  show own_R p.tables e below _ T0 (mkF m 26 #[.val (.int ln), .val (.int p0), .val (.int p1), .val (.int p2), .val (.int b01), .val (.int b2), .val (.int n), .val (.long y0), .second, .val (.long y1), .second, .val (.long y2), .second, .unset, .unset, .unset, .unset, .unset, .unset] [])
  obtain ⟨D0, PL0, B0⟩ := own_prod p0 y0 hy0
  generalize p0.toInt * y0.toInt = M0 at D0 PL0 B0
  obtain ⟨D1, PL1, B1⟩ := own_prod p1 y1 hy1
  generalize p1.toInt * y1.toInt = M1 at D1 PL1 B1
  obtain ⟨D2, PL2, B2⟩ := own_prod p2 y2 hy2
  generalize p2.toInt * y2.toInt = M2 at D2 PL2 B2
  show own_R p.tables e below _ T0 (mkF m 26 #[.val (.int ln), .val (.int p0), .val (.int p1), .val (.int p2), .val (.int b01), .val (.int b2), .val (.int n), .val (.long y0), .second, .val (.long y1), .second, .val (.long y2), .second, .unset, .unset, .unset, .unset, .unset, .unset] [])
  rcases hn with rfl | rfl | rfl | rfl
  · show own_R p.tables e below _ T0 (mkF m 26 #[.val (.int ln), .val (.int p0), .val (.int p1), .val (.int p2), .val (.int b01), .val (.int b2), .val (.int (0 : Int32)), .val (.long y0), .second, .val (.long y1), .second, .val (.long y2), .second, .unset, .unset, .unset, .unset, .unset, .unset] [])
    refine own_go (fun _ => XS.iload X0.here hx rfl (hb hby at_26) rfl ) ?_
    show own_R p.tables e below _ T0 (mkF m 28 #[.val (.int ln), .val (.int p0), .val (.int p1), .val (.int p2), .val (.int b01), .val (.int b2), .val (.int (0 : Int32)), .val (.long y0), .second, .val (.long y1), .second, .val (.long y2), .second, .unset, .unset, .unset, .unset, .unset, .unset] [(.int (0 : Int32))])
    refine own_go (fun _ => XS.iloadN X0.here hx rfl (hb hby at_28) rfl ) ?_
    show own_R p.tables e below _ T0 (mkF m 29 #[.val (.int ln), .val (.int p0), .val (.int p1), .val (.int p2), .val (.int b01), .val (.int b2), .val (.int (0 : Int32)), .val (.long y0), .second, .val (.long y1), .second, .val (.long y2), .second, .unset, .unset, .unset, .unset, .unset, .unset] [(.int p0), (.int (0 : Int32))])
    refine own_go (fun _ => XS.i2dS X0.here hx rfl (hb hby at_29) rfl rfl) ?_
    show own_R p.tables e below _ T0 (mkF m 30 #[.val (.int ln), .val (.int p0), .val (.int p1), .val (.int p2), .val (.int b01), .val (.int b2), .val (.int (0 : Int32)), .val (.long y0), .second, .val (.long y1), .second, .val (.long y2), .second, .unset, .unset, .unset, .unset, .unset, .unset] [(.double (FP.i2d p0)), (.int (0 : Int32))])
    refine own_go (fun _ => XS.iloadN X0.here hx rfl (hb hby at_30) rfl ) ?_
    show own_R p.tables e below _ T0 (mkF m 31 #[.val (.int ln), .val (.int p0), .val (.int p1), .val (.int p2), .val (.int b01), .val (.int b2), .val (.int (0 : Int32)), .val (.long y0), .second, .val (.long y1), .second, .val (.long y2), .second, .unset, .unset, .unset, .unset, .unset, .unset] [(.int p1), (.double (FP.i2d p0)), (.int (0 : Int32))])
    refine own_go (fun _ => XS.i2dS X0.here hx rfl (hb hby at_31) rfl rfl) ?_
    show own_R p.tables e below _ T0 (mkF m 32 #[.val (.int ln), .val (.int p0), .val (.int p1), .val (.int p2), .val (.int b01), .val (.int b2), .val (.int (0 : Int32)), .val (.long y0), .second, .val (.long y1), .second, .val (.long y2), .second, .unset, .unset, .unset, .unset, .unset, .unset] [(.double (FP.i2d p1)), (.double (FP.i2d p0)), (.int (0 : Int32))])
    refine own_go (fun _ => XS.iloadN X0.here hx rfl (hb hby at_32) rfl ) ?_
    show own_R p.tables e below _ T0 (mkF m 33 #[.val (.int ln), .val (.int p0), .val (.int p1), .val (.int p2), .val (.int b01), .val (.int b2), .val (.int (0 : Int32)), .val (.long y0), .second, .val (.long y1), .second, .val (.long y2), .second, .unset, .unset, .unset, .unset, .unset, .unset] [(.int p2), (.double (FP.i2d p1)), (.double (FP.i2d p0)), (.int (0 : Int32))])
    refine own_go (fun _ => XS.i2dS X0.here hx rfl (hb hby at_33) rfl rfl) ?_
    show own_R p.tables e below _ T0 (mkF m 34 #[.val (.int ln), .val (.int p0), .val (.int p1), .val (.int p2), .val (.int b01), .val (.int b2), .val (.int (0 : Int32)), .val (.long y0), .second, .val (.long y1), .second, .val (.long y2), .second, .unset, .unset, .unset, .unset, .unset, .unset] [(.double (FP.i2d p2)), (.double (FP.i2d p1)), (.double (FP.i2d p0)), (.int (0 : Int32))])
    obtain ⟨v1, T1, L1, X1, Q1, st1⟩ := own_callS X0 hx hZ hown (y := (⟨"com/example/pass2/pass2/util/VectorsDotPinLaw", "vec", "(IDDD)[D"⟩ : MethodName)) (hw _ (List.mem_of_getElem? (i := 0) rfl)) (hw _ (List.mem_of_getElem? (i := 1) rfl)) (hw _ (List.mem_of_getElem? (i := 2) rfl)) (hw _ (List.mem_of_getElem? (i := 3) rfl)) (by decide) (rmVec0 l Z a0 hw [] h0 n0 (FP.i2d p0) (FP.i2d p1) (FP.i2d p2) Z0) (W := 0) (g := (mkF m 34 #[.val (.int ln), .val (.int p0), .val (.int p1), .val (.int p2), .val (.int b01), .val (.int b2), .val (.int (0 : Int32)), .val (.long y0), .second, .val (.long y1), .second, .val (.long y2), .second, .unset, .unset, .unset, .unset, .unset, .unset] [(.double (FP.i2d p2)), (.double (FP.i2d p1)), (.double (FP.i2d p0)), (.int (0 : Int32))])) rfl (by rw [hml]; rfl) (argsL := [(.int (0 : Int32)), (.double (FP.i2d p0)), (.double (FP.i2d p1)), (.double (FP.i2d p2))]) (rest := []) (lenOf pd__IDDD__D rfl) rfl rfl (by show 2 * 0 + _ ≤ _; exact Nat.le_of_eq rfl) (hb hby at_34) e0 (by decide) (by decide) (by decide) (by decide)
    obtain ⟨a1, k1, rfl, N1q, K1, q1, V1⟩ := Q1
    have N1 := Fr.app N0 N1q
    refine own_go st1 ?_
    show own_R p.tables e below _ T1 (mkF m 37 #[.val (.int ln), .val (.int p0), .val (.int p1), .val (.int p2), .val (.int b01), .val (.int b2), .val (.int (0 : Int32)), .val (.long y0), .second, .val (.long y1), .second, .val (.long y2), .second, .unset, .unset, .unset, .unset, .unset, .unset] [(.ref a1)])
    refine own_go (fun _ => XS.astore X1.here hx rfl (hb hby at_37) rfl rfl (l' := #[.val (.int ln), .val (.int p0), .val (.int p1), .val (.int p2), .val (.int b01), .val (.int b2), .val (.int (0 : Int32)), .val (.long y0), .second, .val (.long y1), .second, .val (.long y2), .second, .val (.ref a1), .unset, .unset, .unset, .unset, .unset]) rfl) ?_
    show own_R p.tables e below _ T1 (mkF m 39 #[.val (.int ln), .val (.int p0), .val (.int p1), .val (.int p2), .val (.int b01), .val (.int b2), .val (.int (0 : Int32)), .val (.long y0), .second, .val (.long y1), .second, .val (.long y2), .second, .val (.ref a1), .unset, .unset, .unset, .unset, .unset] [])
    refine own_go (fun _ => XS.iload X1.here hx rfl (hb hby at_39) rfl ) ?_
    show own_R p.tables e below _ T1 (mkF m 41 #[.val (.int ln), .val (.int p0), .val (.int p1), .val (.int p2), .val (.int b01), .val (.int b2), .val (.int (0 : Int32)), .val (.long y0), .second, .val (.long y1), .second, .val (.long y2), .second, .val (.ref a1), .unset, .unset, .unset, .unset, .unset] [(.int (0 : Int32))])
    refine own_go (fun _ => XS.lload X1.here hx rfl (hb hby at_41) rfl ) ?_
    show own_R p.tables e below _ T1 (mkF m 43 #[.val (.int ln), .val (.int p0), .val (.int p1), .val (.int p2), .val (.int b01), .val (.int b2), .val (.int (0 : Int32)), .val (.long y0), .second, .val (.long y1), .second, .val (.long y2), .second, .val (.ref a1), .unset, .unset, .unset, .unset, .unset] [(.long y0), (.int (0 : Int32))])
    refine own_go (fun _ => XS.l2dS X1.here hx rfl (hb hby at_43) rfl rfl) ?_
    show own_R p.tables e below _ T1 (mkF m 44 #[.val (.int ln), .val (.int p0), .val (.int p1), .val (.int p2), .val (.int b01), .val (.int b2), .val (.int (0 : Int32)), .val (.long y0), .second, .val (.long y1), .second, .val (.long y2), .second, .val (.ref a1), .unset, .unset, .unset, .unset, .unset] [(.double (FP.l2d y0)), (.int (0 : Int32))])
    refine own_go (fun _ => XS.lload X1.here hx rfl (hb hby at_44) rfl ) ?_
    show own_R p.tables e below _ T1 (mkF m 46 #[.val (.int ln), .val (.int p0), .val (.int p1), .val (.int p2), .val (.int b01), .val (.int b2), .val (.int (0 : Int32)), .val (.long y0), .second, .val (.long y1), .second, .val (.long y2), .second, .val (.ref a1), .unset, .unset, .unset, .unset, .unset] [(.long y1), (.double (FP.l2d y0)), (.int (0 : Int32))])
    refine own_go (fun _ => XS.l2dS X1.here hx rfl (hb hby at_46) rfl rfl) ?_
    show own_R p.tables e below _ T1 (mkF m 47 #[.val (.int ln), .val (.int p0), .val (.int p1), .val (.int p2), .val (.int b01), .val (.int b2), .val (.int (0 : Int32)), .val (.long y0), .second, .val (.long y1), .second, .val (.long y2), .second, .val (.ref a1), .unset, .unset, .unset, .unset, .unset] [(.double (FP.l2d y1)), (.double (FP.l2d y0)), (.int (0 : Int32))])
    refine own_go (fun _ => XS.lload X1.here hx rfl (hb hby at_47) rfl ) ?_
    show own_R p.tables e below _ T1 (mkF m 49 #[.val (.int ln), .val (.int p0), .val (.int p1), .val (.int p2), .val (.int b01), .val (.int b2), .val (.int (0 : Int32)), .val (.long y0), .second, .val (.long y1), .second, .val (.long y2), .second, .val (.ref a1), .unset, .unset, .unset, .unset, .unset] [(.long y2), (.double (FP.l2d y1)), (.double (FP.l2d y0)), (.int (0 : Int32))])
    refine own_go (fun _ => XS.l2dS X1.here hx rfl (hb hby at_49) rfl rfl) ?_
    show own_R p.tables e below _ T1 (mkF m 50 #[.val (.int ln), .val (.int p0), .val (.int p1), .val (.int p2), .val (.int b01), .val (.int b2), .val (.int (0 : Int32)), .val (.long y0), .second, .val (.long y1), .second, .val (.long y2), .second, .val (.ref a1), .unset, .unset, .unset, .unset, .unset] [(.double (FP.l2d y2)), (.double (FP.l2d y1)), (.double (FP.l2d y0)), (.int (0 : Int32))])
    obtain ⟨v2, T2, L2, X2, Q2, st2⟩ := own_callS X1 hx hZ hown (y := (⟨"com/example/pass2/pass2/util/VectorsDotPinLaw", "vec", "(IDDD)[D"⟩ : MethodName)) (hw _ (List.mem_of_getElem? (i := 0) rfl)) (hw _ (List.mem_of_getElem? (i := 1) rfl)) (hw _ (List.mem_of_getElem? (i := 2) rfl)) (hw _ (List.mem_of_getElem? (i := 3) rfl)) (by decide) (rmVec0 l Z a0 hw [] T1.heap n0 (FP.l2d y0) (FP.l2d y1) (FP.l2d y2) (Nat.le_trans Z0 K1.1)) (W := 0) (g := (mkF m 50 #[.val (.int ln), .val (.int p0), .val (.int p1), .val (.int p2), .val (.int b01), .val (.int b2), .val (.int (0 : Int32)), .val (.long y0), .second, .val (.long y1), .second, .val (.long y2), .second, .val (.ref a1), .unset, .unset, .unset, .unset, .unset] [(.double (FP.l2d y2)), (.double (FP.l2d y1)), (.double (FP.l2d y0)), (.int (0 : Int32))])) rfl (by rw [hml]; rfl) (argsL := [(.int (0 : Int32)), (.double (FP.l2d y0)), (.double (FP.l2d y1)), (.double (FP.l2d y2))]) (rest := []) (lenOf pd__IDDD__D rfl) rfl rfl (by show 2 * 0 + _ ≤ _; exact Nat.le_of_eq rfl) (hb hby at_50) rfl (by decide) (by decide) (by decide) (by decide)
    obtain ⟨a2, k2, rfl, N2q, K2, q2, V2⟩ := Q2
    have N2 := Fr.app N1 N2q
    have V1b := V1.keep K2 nin0
    refine own_go st2 ?_
    show own_R p.tables e below _ T2 (mkF m 53 #[.val (.int ln), .val (.int p0), .val (.int p1), .val (.int p2), .val (.int b01), .val (.int b2), .val (.int (0 : Int32)), .val (.long y0), .second, .val (.long y1), .second, .val (.long y2), .second, .val (.ref a1), .unset, .unset, .unset, .unset, .unset] [(.ref a2)])
    refine own_go (fun _ => XS.astore X2.here hx rfl (hb hby at_53) rfl rfl (l' := #[.val (.int ln), .val (.int p0), .val (.int p1), .val (.int p2), .val (.int b01), .val (.int b2), .val (.int (0 : Int32)), .val (.long y0), .second, .val (.long y1), .second, .val (.long y2), .second, .val (.ref a1), .val (.ref a2), .unset, .unset, .unset, .unset]) rfl) ?_
    show own_R p.tables e below _ T2 (mkF m 55 #[.val (.int ln), .val (.int p0), .val (.int p1), .val (.int p2), .val (.int b01), .val (.int b2), .val (.int (0 : Int32)), .val (.long y0), .second, .val (.long y1), .second, .val (.long y2), .second, .val (.ref a1), .val (.ref a2), .unset, .unset, .unset, .unset] [])
    refine own_go (fun _ => XS.aload X2.here hx rfl (hb hby at_55) rfl rfl) ?_
    show own_R p.tables e below _ T2 (mkF m 57 #[.val (.int ln), .val (.int p0), .val (.int p1), .val (.int p2), .val (.int b01), .val (.int b2), .val (.int (0 : Int32)), .val (.long y0), .second, .val (.long y1), .second, .val (.long y2), .second, .val (.ref a1), .val (.ref a2), .unset, .unset, .unset, .unset] [(.ref a1)])
    refine own_go (fun _ => XS.aload X2.here hx rfl (hb hby at_57) rfl rfl) ?_
    show own_R p.tables e below _ T2 (mkF m 59 #[.val (.int ln), .val (.int p0), .val (.int p1), .val (.int p2), .val (.int b01), .val (.int b2), .val (.int (0 : Int32)), .val (.long y0), .second, .val (.long y1), .second, .val (.long y2), .second, .val (.ref a1), .val (.ref a2), .unset, .unset, .unset, .unset] [(.ref a2), (.ref a1)])
    obtain ⟨v3, T3, L3, X3, Q3, st3⟩ := own_callS X2 hx hZ hown (y := (⟨"com/example/pass2/pass2/util/Vectors", "dot", "([D[D)D"⟩ : MethodName)) (hw _ (List.mem_of_getElem? (i := 5) rfl)) (hw _ (List.mem_of_getElem? (i := 6) rfl)) (hw _ (List.mem_of_getElem? (i := 7) rfl)) (hw _ (List.mem_of_getElem? (i := 8) rfl)) (by decide) (rmDot0 l Z a0 hw [] T2.heap n0 a1 a2   V1b V2) (W := 0) (g := (mkF m 59 #[.val (.int ln), .val (.int p0), .val (.int p1), .val (.int p2), .val (.int b01), .val (.int b2), .val (.int (0 : Int32)), .val (.long y0), .second, .val (.long y1), .second, .val (.long y2), .second, .val (.ref a1), .val (.ref a2), .unset, .unset, .unset, .unset] [(.ref a2), (.ref a1)])) rfl (by rw [hml]; rfl) (argsL := [(.ref a1), (.ref a2)]) (rest := []) (lenOf pd___D_D_D rfl) rfl rfl (by show 2 * 0 + _ ≤ _; exact Nat.le_of_eq rfl) (hb hby at_59) rfl (by decide) (by decide) (by decide) (by decide)
    obtain ⟨rfl, N3q, e3⟩ := Q3
    have N3 := Fr.app N2 N3q
    refine own_go st3 ?_
    show own_R p.tables e below _ T3 (mkF m 62 #[.val (.int ln), .val (.int p0), .val (.int p1), .val (.int p2), .val (.int b01), .val (.int b2), .val (.int (0 : Int32)), .val (.long y0), .second, .val (.long y1), .second, .val (.long y2), .second, .val (.ref a1), .val (.ref a2), .unset, .unset, .unset, .unset] [(.double FP.dconst0)])
    have R0 : (0 : Int64).toInt = 0 := by decide
    refine own_go (fun _ => XS.dstore X3.here hx rfl (hb hby at_62) rfl (l' := #[.val (.int ln), .val (.int p0), .val (.int p1), .val (.int p2), .val (.int b01), .val (.int b2), .val (.int (0 : Int32)), .val (.long y0), .second, .val (.long y1), .second, .val (.long y2), .second, .val (.ref a1), .val (.ref a2), .val (.double FP.dconst0), .second, .unset, .unset]) rfl) ?_
    show own_R p.tables e below _ T3 (mkF m 64 #[.val (.int ln), .val (.int p0), .val (.int p1), .val (.int p2), .val (.int b01), .val (.int b2), .val (.int (0 : Int32)), .val (.long y0), .second, .val (.long y1), .second, .val (.long y2), .second, .val (.ref a1), .val (.ref a2), .val (.double FP.dconst0), .second, .unset, .unset] [])
    refine own_go (fun _ => XS.lconst X3.here hx rfl (hb hby at_64)) ?_
    show own_R p.tables e below _ T3 (mkF m 65 #[.val (.int ln), .val (.int p0), .val (.int p1), .val (.int p2), .val (.int b01), .val (.int b2), .val (.int (0 : Int32)), .val (.long y0), .second, .val (.long y1), .second, .val (.long y2), .second, .val (.ref a1), .val (.ref a2), .val (.double FP.dconst0), .second, .unset, .unset] [(.long (0 : Int64))])
    refine own_go (fun _ => XS.lstore X3.here hx rfl (hb hby at_65) rfl (l' := #[.val (.int ln), .val (.int p0), .val (.int p1), .val (.int p2), .val (.int b01), .val (.int b2), .val (.int (0 : Int32)), .val (.long y0), .second, .val (.long y1), .second, .val (.long y2), .second, .val (.ref a1), .val (.ref a2), .val (.double FP.dconst0), .second, .val (.long (0 : Int64)), .second]) rfl) ?_
    show own_R p.tables e below _ T3 (mkF m 67 #[.val (.int ln), .val (.int p0), .val (.int p1), .val (.int p2), .val (.int b01), .val (.int b2), .val (.int (0 : Int32)), .val (.long y0), .second, .val (.long y1), .second, .val (.long y2), .second, .val (.ref a1), .val (.ref a2), .val (.double FP.dconst0), .second, .val (.long (0 : Int64)), .second] [])
    refine own_go (fun _ => XS.iload X3.here hx rfl (hb hby at_67) rfl ) ?_
    show own_R p.tables e below _ T3 (mkF m 69 #[.val (.int ln), .val (.int p0), .val (.int p1), .val (.int p2), .val (.int b01), .val (.int b2), .val (.int (0 : Int32)), .val (.long y0), .second, .val (.long y1), .second, .val (.long y2), .second, .val (.ref a1), .val (.ref a2), .val (.double FP.dconst0), .second, .val (.long (0 : Int64)), .second] [(.int (0 : Int32))])
    refine own_go (fun _ => XS.iconst X3.here hx rfl (hb hby at_69)) ?_
    show own_R p.tables e below _ T3 (mkF m 70 #[.val (.int ln), .val (.int p0), .val (.int p1), .val (.int p2), .val (.int b01), .val (.int b2), .val (.int (0 : Int32)), .val (.long y0), .second, .val (.long y1), .second, .val (.long y2), .second, .val (.ref a1), .val (.ref a2), .val (.double FP.dconst0), .second, .val (.long (0 : Int64)), .second] [(.int (1 : Int32)), (.int (0 : Int32))])
    refine own_go (fun _ => XS.icmpYes X3.here hx rfl (pc0 := 70) (pc' := 83) rfl (hb hby at_70) rfl (tlt (by decide)).1 (by decide) (by decide)) ?_
    show own_R p.tables e below _ T3 (mkF m 83 #[.val (.int ln), .val (.int p0), .val (.int p1), .val (.int p2), .val (.int b01), .val (.int b2), .val (.int (0 : Int32)), .val (.long y0), .second, .val (.long y1), .second, .val (.long y2), .second, .val (.ref a1), .val (.ref a2), .val (.double FP.dconst0), .second, .val (.long (0 : Int64)), .second] [])
    refine own_go (fun _ => XS.iload X3.here hx rfl (hb hby at_83) rfl ) ?_
    show own_R p.tables e below _ T3 (mkF m 85 #[.val (.int ln), .val (.int p0), .val (.int p1), .val (.int p2), .val (.int b01), .val (.int b2), .val (.int (0 : Int32)), .val (.long y0), .second, .val (.long y1), .second, .val (.long y2), .second, .val (.ref a1), .val (.ref a2), .val (.double FP.dconst0), .second, .val (.long (0 : Int64)), .second] [(.int (0 : Int32))])
    refine own_go (fun _ => XS.iconst X3.here hx rfl (hb hby at_85)) ?_
    show own_R p.tables e below _ T3 (mkF m 86 #[.val (.int ln), .val (.int p0), .val (.int p1), .val (.int p2), .val (.int b01), .val (.int b2), .val (.int (0 : Int32)), .val (.long y0), .second, .val (.long y1), .second, .val (.long y2), .second, .val (.ref a1), .val (.ref a2), .val (.double FP.dconst0), .second, .val (.long (0 : Int64)), .second] [(.int (2 : Int32)), (.int (0 : Int32))])
    refine own_go (fun _ => XS.icmpYes X3.here hx rfl (pc0 := 86) (pc' := 99) rfl (hb hby at_86) rfl (tlt (by decide)).1 (by decide) (by decide)) ?_
    show own_R p.tables e below _ T3 (mkF m 99 #[.val (.int ln), .val (.int p0), .val (.int p1), .val (.int p2), .val (.int b01), .val (.int b2), .val (.int (0 : Int32)), .val (.long y0), .second, .val (.long y1), .second, .val (.long y2), .second, .val (.ref a1), .val (.ref a2), .val (.double FP.dconst0), .second, .val (.long (0 : Int64)), .second] [])
    refine own_go (fun _ => XS.iload X3.here hx rfl (hb hby at_99) rfl ) ?_
    show own_R p.tables e below _ T3 (mkF m 101 #[.val (.int ln), .val (.int p0), .val (.int p1), .val (.int p2), .val (.int b01), .val (.int b2), .val (.int (0 : Int32)), .val (.long y0), .second, .val (.long y1), .second, .val (.long y2), .second, .val (.ref a1), .val (.ref a2), .val (.double FP.dconst0), .second, .val (.long (0 : Int64)), .second] [(.int (0 : Int32))])
    refine own_go (fun _ => XS.iconst X3.here hx rfl (hb hby at_101)) ?_
    show own_R p.tables e below _ T3 (mkF m 102 #[.val (.int ln), .val (.int p0), .val (.int p1), .val (.int p2), .val (.int b01), .val (.int b2), .val (.int (0 : Int32)), .val (.long y0), .second, .val (.long y1), .second, .val (.long y2), .second, .val (.ref a1), .val (.ref a2), .val (.double FP.dconst0), .second, .val (.long (0 : Int64)), .second] [(.int (3 : Int32)), (.int (0 : Int32))])
    refine own_go (fun _ => XS.icmpYes X3.here hx rfl (pc0 := 102) (pc' := 115) rfl (hb hby at_102) rfl (tlt (by decide)).1 (by decide) (by decide)) ?_
    show own_R p.tables e below _ T3 (mkF m 115 #[.val (.int ln), .val (.int p0), .val (.int p1), .val (.int p2), .val (.int b01), .val (.int b2), .val (.int (0 : Int32)), .val (.long y0), .second, .val (.long y1), .second, .val (.long y2), .second, .val (.ref a1), .val (.ref a2), .val (.double FP.dconst0), .second, .val (.long (0 : Int64)), .second] [])
    have RL := own_dh_l2d (0 : Int64) (by omega)
    rw [R0] at RL
    refine own_go (fun _ => XS.dload X3.here hx rfl (hb hby at_115) rfl ) ?_
    show own_R p.tables e below _ T3 (mkF m 117 #[.val (.int ln), .val (.int p0), .val (.int p1), .val (.int p2), .val (.int b01), .val (.int b2), .val (.int (0 : Int32)), .val (.long y0), .second, .val (.long y1), .second, .val (.long y2), .second, .val (.ref a1), .val (.ref a2), .val (.double FP.dconst0), .second, .val (.long (0 : Int64)), .second] [(.double FP.dconst0)])
    refine own_go (fun _ => XS.lload X3.here hx rfl (hb hby at_117) rfl ) ?_
    show own_R p.tables e below _ T3 (mkF m 119 #[.val (.int ln), .val (.int p0), .val (.int p1), .val (.int p2), .val (.int b01), .val (.int b2), .val (.int (0 : Int32)), .val (.long y0), .second, .val (.long y1), .second, .val (.long y2), .second, .val (.ref a1), .val (.ref a2), .val (.double FP.dconst0), .second, .val (.long (0 : Int64)), .second] [(.long (0 : Int64)), (.double FP.dconst0)])
    refine own_go (fun _ => XS.l2dS X3.here hx rfl (hb hby at_119) rfl rfl) ?_
    show own_R p.tables e below _ T3 (mkF m 120 #[.val (.int ln), .val (.int p0), .val (.int p1), .val (.int p2), .val (.int b01), .val (.int b2), .val (.int (0 : Int32)), .val (.long y0), .second, .val (.long y1), .second, .val (.long y2), .second, .val (.ref a1), .val (.ref a2), .val (.double FP.dconst0), .second, .val (.long (0 : Int64)), .second] [(.double (FP.l2d (0 : Int64))), (.double FP.dconst0)])
    refine own_go (fun _ => XS.dcmpS X3.here hx rfl (hb hby at_120) rfl rfl) ?_
    show own_R p.tables e below _ T3 (mkF m 121 #[.val (.int ln), .val (.int p0), .val (.int p1), .val (.int p2), .val (.int b01), .val (.int b2), .val (.int (0 : Int32)), .val (.long y0), .second, .val (.long y1), .second, .val (.long y2), .second, .val (.ref a1), .val (.ref a2), .val (.double FP.dconst0), .second, .val (.long (0 : Int64)), .second] [(.int (cmpValue (FP.dcmp FP.dconst0 (FP.l2d (0 : Int64))) .l))])
    refine own_go (fun _ => XS.ifNo X3.here hx rfl (hb hby at_121) rfl ((if0 _ _).trans (teq (own_cmp0 own_dz RL (by omega) _)).2)) ?_
    show own_R p.tables e below _ T3 (mkF m 124 #[.val (.int ln), .val (.int p0), .val (.int p1), .val (.int p2), .val (.int b01), .val (.int b2), .val (.int (0 : Int32)), .val (.long y0), .second, .val (.long y1), .second, .val (.long y2), .second, .val (.ref a1), .val (.ref a2), .val (.double FP.dconst0), .second, .val (.long (0 : Int64)), .second] [])
    refine own_go (fun _ => XS.iconst X3.here hx rfl (hb hby at_124)) ?_
    show own_R p.tables e below _ T3 (mkF m 125 #[.val (.int ln), .val (.int p0), .val (.int p1), .val (.int p2), .val (.int b01), .val (.int b2), .val (.int (0 : Int32)), .val (.long y0), .second, .val (.long y1), .second, .val (.long y2), .second, .val (.ref a1), .val (.ref a2), .val (.double FP.dconst0), .second, .val (.long (0 : Int64)), .second] [(.int (1 : Int32))])
    refine own_go (fun _ => XS.goto X3.here hx rfl (pc0 := 125) (pc' := 129) rfl (hb hby at_125) (by decide) (by decide)) ?_
    show own_R p.tables e below _ T3 (mkF m 129 #[.val (.int ln), .val (.int p0), .val (.int p1), .val (.int p2), .val (.int b01), .val (.int b2), .val (.int (0 : Int32)), .val (.long y0), .second, .val (.long y1), .second, .val (.long y2), .second, .val (.ref a1), .val (.ref a2), .val (.double FP.dconst0), .second, .val (.long (0 : Int64)), .second] [(.int (1 : Int32))])
    exact own_end X3 (some (.int (1 : Int32))) (fun h => by rw [hret] at h; cases h) hlk (fun fs hr => retN X3 hx (t := .boolean) hret (by simp) (hb hby at_129) hr) ⟨rfl, N3⟩ (by decide) (by decide)
  · show own_R p.tables e below _ T0 (mkF m 26 #[.val (.int ln), .val (.int p0), .val (.int p1), .val (.int p2), .val (.int b01), .val (.int b2), .val (.int (1 : Int32)), .val (.long y0), .second, .val (.long y1), .second, .val (.long y2), .second, .unset, .unset, .unset, .unset, .unset, .unset] [])
    refine own_go (fun _ => XS.iload X0.here hx rfl (hb hby at_26) rfl ) ?_
    show own_R p.tables e below _ T0 (mkF m 28 #[.val (.int ln), .val (.int p0), .val (.int p1), .val (.int p2), .val (.int b01), .val (.int b2), .val (.int (1 : Int32)), .val (.long y0), .second, .val (.long y1), .second, .val (.long y2), .second, .unset, .unset, .unset, .unset, .unset, .unset] [(.int (1 : Int32))])
    refine own_go (fun _ => XS.iloadN X0.here hx rfl (hb hby at_28) rfl ) ?_
    show own_R p.tables e below _ T0 (mkF m 29 #[.val (.int ln), .val (.int p0), .val (.int p1), .val (.int p2), .val (.int b01), .val (.int b2), .val (.int (1 : Int32)), .val (.long y0), .second, .val (.long y1), .second, .val (.long y2), .second, .unset, .unset, .unset, .unset, .unset, .unset] [(.int p0), (.int (1 : Int32))])
    refine own_go (fun _ => XS.i2dS X0.here hx rfl (hb hby at_29) rfl rfl) ?_
    show own_R p.tables e below _ T0 (mkF m 30 #[.val (.int ln), .val (.int p0), .val (.int p1), .val (.int p2), .val (.int b01), .val (.int b2), .val (.int (1 : Int32)), .val (.long y0), .second, .val (.long y1), .second, .val (.long y2), .second, .unset, .unset, .unset, .unset, .unset, .unset] [(.double (FP.i2d p0)), (.int (1 : Int32))])
    refine own_go (fun _ => XS.iloadN X0.here hx rfl (hb hby at_30) rfl ) ?_
    show own_R p.tables e below _ T0 (mkF m 31 #[.val (.int ln), .val (.int p0), .val (.int p1), .val (.int p2), .val (.int b01), .val (.int b2), .val (.int (1 : Int32)), .val (.long y0), .second, .val (.long y1), .second, .val (.long y2), .second, .unset, .unset, .unset, .unset, .unset, .unset] [(.int p1), (.double (FP.i2d p0)), (.int (1 : Int32))])
    refine own_go (fun _ => XS.i2dS X0.here hx rfl (hb hby at_31) rfl rfl) ?_
    show own_R p.tables e below _ T0 (mkF m 32 #[.val (.int ln), .val (.int p0), .val (.int p1), .val (.int p2), .val (.int b01), .val (.int b2), .val (.int (1 : Int32)), .val (.long y0), .second, .val (.long y1), .second, .val (.long y2), .second, .unset, .unset, .unset, .unset, .unset, .unset] [(.double (FP.i2d p1)), (.double (FP.i2d p0)), (.int (1 : Int32))])
    refine own_go (fun _ => XS.iloadN X0.here hx rfl (hb hby at_32) rfl ) ?_
    show own_R p.tables e below _ T0 (mkF m 33 #[.val (.int ln), .val (.int p0), .val (.int p1), .val (.int p2), .val (.int b01), .val (.int b2), .val (.int (1 : Int32)), .val (.long y0), .second, .val (.long y1), .second, .val (.long y2), .second, .unset, .unset, .unset, .unset, .unset, .unset] [(.int p2), (.double (FP.i2d p1)), (.double (FP.i2d p0)), (.int (1 : Int32))])
    refine own_go (fun _ => XS.i2dS X0.here hx rfl (hb hby at_33) rfl rfl) ?_
    show own_R p.tables e below _ T0 (mkF m 34 #[.val (.int ln), .val (.int p0), .val (.int p1), .val (.int p2), .val (.int b01), .val (.int b2), .val (.int (1 : Int32)), .val (.long y0), .second, .val (.long y1), .second, .val (.long y2), .second, .unset, .unset, .unset, .unset, .unset, .unset] [(.double (FP.i2d p2)), (.double (FP.i2d p1)), (.double (FP.i2d p0)), (.int (1 : Int32))])
    obtain ⟨v1, T1, L1, X1, Q1, st1⟩ := own_callS X0 hx hZ hown (y := (⟨"com/example/pass2/pass2/util/VectorsDotPinLaw", "vec", "(IDDD)[D"⟩ : MethodName)) (hw _ (List.mem_of_getElem? (i := 0) rfl)) (hw _ (List.mem_of_getElem? (i := 1) rfl)) (hw _ (List.mem_of_getElem? (i := 2) rfl)) (hw _ (List.mem_of_getElem? (i := 3) rfl)) (by decide) (rmVec1 l Z a0 hw [] h0 n0 (FP.i2d p0) (FP.i2d p1) (FP.i2d p2) Z0) (W := 0) (g := (mkF m 34 #[.val (.int ln), .val (.int p0), .val (.int p1), .val (.int p2), .val (.int b01), .val (.int b2), .val (.int (1 : Int32)), .val (.long y0), .second, .val (.long y1), .second, .val (.long y2), .second, .unset, .unset, .unset, .unset, .unset, .unset] [(.double (FP.i2d p2)), (.double (FP.i2d p1)), (.double (FP.i2d p0)), (.int (1 : Int32))])) rfl (by rw [hml]; rfl) (argsL := [(.int (1 : Int32)), (.double (FP.i2d p0)), (.double (FP.i2d p1)), (.double (FP.i2d p2))]) (rest := []) (lenOf pd__IDDD__D rfl) rfl rfl (by show 2 * 0 + _ ≤ _; exact Nat.le_of_eq rfl) (hb hby at_34) e0 (by decide) (by decide) (by decide) (by decide)
    obtain ⟨a1, k1, rfl, N1q, K1, q1, V1⟩ := Q1
    have N1 := Fr.app N0 N1q
    refine own_go st1 ?_
    show own_R p.tables e below _ T1 (mkF m 37 #[.val (.int ln), .val (.int p0), .val (.int p1), .val (.int p2), .val (.int b01), .val (.int b2), .val (.int (1 : Int32)), .val (.long y0), .second, .val (.long y1), .second, .val (.long y2), .second, .unset, .unset, .unset, .unset, .unset, .unset] [(.ref a1)])
    refine own_go (fun _ => XS.astore X1.here hx rfl (hb hby at_37) rfl rfl (l' := #[.val (.int ln), .val (.int p0), .val (.int p1), .val (.int p2), .val (.int b01), .val (.int b2), .val (.int (1 : Int32)), .val (.long y0), .second, .val (.long y1), .second, .val (.long y2), .second, .val (.ref a1), .unset, .unset, .unset, .unset, .unset]) rfl) ?_
    show own_R p.tables e below _ T1 (mkF m 39 #[.val (.int ln), .val (.int p0), .val (.int p1), .val (.int p2), .val (.int b01), .val (.int b2), .val (.int (1 : Int32)), .val (.long y0), .second, .val (.long y1), .second, .val (.long y2), .second, .val (.ref a1), .unset, .unset, .unset, .unset, .unset] [])
    refine own_go (fun _ => XS.iload X1.here hx rfl (hb hby at_39) rfl ) ?_
    show own_R p.tables e below _ T1 (mkF m 41 #[.val (.int ln), .val (.int p0), .val (.int p1), .val (.int p2), .val (.int b01), .val (.int b2), .val (.int (1 : Int32)), .val (.long y0), .second, .val (.long y1), .second, .val (.long y2), .second, .val (.ref a1), .unset, .unset, .unset, .unset, .unset] [(.int (1 : Int32))])
    refine own_go (fun _ => XS.lload X1.here hx rfl (hb hby at_41) rfl ) ?_
    show own_R p.tables e below _ T1 (mkF m 43 #[.val (.int ln), .val (.int p0), .val (.int p1), .val (.int p2), .val (.int b01), .val (.int b2), .val (.int (1 : Int32)), .val (.long y0), .second, .val (.long y1), .second, .val (.long y2), .second, .val (.ref a1), .unset, .unset, .unset, .unset, .unset] [(.long y0), (.int (1 : Int32))])
    refine own_go (fun _ => XS.l2dS X1.here hx rfl (hb hby at_43) rfl rfl) ?_
    show own_R p.tables e below _ T1 (mkF m 44 #[.val (.int ln), .val (.int p0), .val (.int p1), .val (.int p2), .val (.int b01), .val (.int b2), .val (.int (1 : Int32)), .val (.long y0), .second, .val (.long y1), .second, .val (.long y2), .second, .val (.ref a1), .unset, .unset, .unset, .unset, .unset] [(.double (FP.l2d y0)), (.int (1 : Int32))])
    refine own_go (fun _ => XS.lload X1.here hx rfl (hb hby at_44) rfl ) ?_
    show own_R p.tables e below _ T1 (mkF m 46 #[.val (.int ln), .val (.int p0), .val (.int p1), .val (.int p2), .val (.int b01), .val (.int b2), .val (.int (1 : Int32)), .val (.long y0), .second, .val (.long y1), .second, .val (.long y2), .second, .val (.ref a1), .unset, .unset, .unset, .unset, .unset] [(.long y1), (.double (FP.l2d y0)), (.int (1 : Int32))])
    refine own_go (fun _ => XS.l2dS X1.here hx rfl (hb hby at_46) rfl rfl) ?_
    show own_R p.tables e below _ T1 (mkF m 47 #[.val (.int ln), .val (.int p0), .val (.int p1), .val (.int p2), .val (.int b01), .val (.int b2), .val (.int (1 : Int32)), .val (.long y0), .second, .val (.long y1), .second, .val (.long y2), .second, .val (.ref a1), .unset, .unset, .unset, .unset, .unset] [(.double (FP.l2d y1)), (.double (FP.l2d y0)), (.int (1 : Int32))])
    refine own_go (fun _ => XS.lload X1.here hx rfl (hb hby at_47) rfl ) ?_
    show own_R p.tables e below _ T1 (mkF m 49 #[.val (.int ln), .val (.int p0), .val (.int p1), .val (.int p2), .val (.int b01), .val (.int b2), .val (.int (1 : Int32)), .val (.long y0), .second, .val (.long y1), .second, .val (.long y2), .second, .val (.ref a1), .unset, .unset, .unset, .unset, .unset] [(.long y2), (.double (FP.l2d y1)), (.double (FP.l2d y0)), (.int (1 : Int32))])
    refine own_go (fun _ => XS.l2dS X1.here hx rfl (hb hby at_49) rfl rfl) ?_
    show own_R p.tables e below _ T1 (mkF m 50 #[.val (.int ln), .val (.int p0), .val (.int p1), .val (.int p2), .val (.int b01), .val (.int b2), .val (.int (1 : Int32)), .val (.long y0), .second, .val (.long y1), .second, .val (.long y2), .second, .val (.ref a1), .unset, .unset, .unset, .unset, .unset] [(.double (FP.l2d y2)), (.double (FP.l2d y1)), (.double (FP.l2d y0)), (.int (1 : Int32))])
    obtain ⟨v2, T2, L2, X2, Q2, st2⟩ := own_callS X1 hx hZ hown (y := (⟨"com/example/pass2/pass2/util/VectorsDotPinLaw", "vec", "(IDDD)[D"⟩ : MethodName)) (hw _ (List.mem_of_getElem? (i := 0) rfl)) (hw _ (List.mem_of_getElem? (i := 1) rfl)) (hw _ (List.mem_of_getElem? (i := 2) rfl)) (hw _ (List.mem_of_getElem? (i := 3) rfl)) (by decide) (rmVec1 l Z a0 hw [] T1.heap n0 (FP.l2d y0) (FP.l2d y1) (FP.l2d y2) (Nat.le_trans Z0 K1.1)) (W := 0) (g := (mkF m 50 #[.val (.int ln), .val (.int p0), .val (.int p1), .val (.int p2), .val (.int b01), .val (.int b2), .val (.int (1 : Int32)), .val (.long y0), .second, .val (.long y1), .second, .val (.long y2), .second, .val (.ref a1), .unset, .unset, .unset, .unset, .unset] [(.double (FP.l2d y2)), (.double (FP.l2d y1)), (.double (FP.l2d y0)), (.int (1 : Int32))])) rfl (by rw [hml]; rfl) (argsL := [(.int (1 : Int32)), (.double (FP.l2d y0)), (.double (FP.l2d y1)), (.double (FP.l2d y2))]) (rest := []) (lenOf pd__IDDD__D rfl) rfl rfl (by show 2 * 0 + _ ≤ _; exact Nat.le_of_eq rfl) (hb hby at_50) rfl (by decide) (by decide) (by decide) (by decide)
    obtain ⟨a2, k2, rfl, N2q, K2, q2, V2⟩ := Q2
    have N2 := Fr.app N1 N2q
    have V1b := V1.keep K2 nin0
    refine own_go st2 ?_
    show own_R p.tables e below _ T2 (mkF m 53 #[.val (.int ln), .val (.int p0), .val (.int p1), .val (.int p2), .val (.int b01), .val (.int b2), .val (.int (1 : Int32)), .val (.long y0), .second, .val (.long y1), .second, .val (.long y2), .second, .val (.ref a1), .unset, .unset, .unset, .unset, .unset] [(.ref a2)])
    refine own_go (fun _ => XS.astore X2.here hx rfl (hb hby at_53) rfl rfl (l' := #[.val (.int ln), .val (.int p0), .val (.int p1), .val (.int p2), .val (.int b01), .val (.int b2), .val (.int (1 : Int32)), .val (.long y0), .second, .val (.long y1), .second, .val (.long y2), .second, .val (.ref a1), .val (.ref a2), .unset, .unset, .unset, .unset]) rfl) ?_
    show own_R p.tables e below _ T2 (mkF m 55 #[.val (.int ln), .val (.int p0), .val (.int p1), .val (.int p2), .val (.int b01), .val (.int b2), .val (.int (1 : Int32)), .val (.long y0), .second, .val (.long y1), .second, .val (.long y2), .second, .val (.ref a1), .val (.ref a2), .unset, .unset, .unset, .unset] [])
    refine own_go (fun _ => XS.aload X2.here hx rfl (hb hby at_55) rfl rfl) ?_
    show own_R p.tables e below _ T2 (mkF m 57 #[.val (.int ln), .val (.int p0), .val (.int p1), .val (.int p2), .val (.int b01), .val (.int b2), .val (.int (1 : Int32)), .val (.long y0), .second, .val (.long y1), .second, .val (.long y2), .second, .val (.ref a1), .val (.ref a2), .unset, .unset, .unset, .unset] [(.ref a1)])
    refine own_go (fun _ => XS.aload X2.here hx rfl (hb hby at_57) rfl rfl) ?_
    show own_R p.tables e below _ T2 (mkF m 59 #[.val (.int ln), .val (.int p0), .val (.int p1), .val (.int p2), .val (.int b01), .val (.int b2), .val (.int (1 : Int32)), .val (.long y0), .second, .val (.long y1), .second, .val (.long y2), .second, .val (.ref a1), .val (.ref a2), .unset, .unset, .unset, .unset] [(.ref a2), (.ref a1)])
    have A0 := own_dh_add own_dz D0 (by omega)
    obtain ⟨v3, T3, L3, X3, Q3, st3⟩ := own_callS X2 hx hZ hown (y := (⟨"com/example/pass2/pass2/util/Vectors", "dot", "([D[D)D"⟩ : MethodName)) (hw _ (List.mem_of_getElem? (i := 5) rfl)) (hw _ (List.mem_of_getElem? (i := 6) rfl)) (hw _ (List.mem_of_getElem? (i := 7) rfl)) (hw _ (List.mem_of_getElem? (i := 8) rfl)) (by decide) (rmDot1 l Z a0 hw [] T2.heap n0 a1 a2 (FP.i2d p0) (FP.l2d y0) V1b V2 D0.nn A0.nn) (W := 0) (g := (mkF m 59 #[.val (.int ln), .val (.int p0), .val (.int p1), .val (.int p2), .val (.int b01), .val (.int b2), .val (.int (1 : Int32)), .val (.long y0), .second, .val (.long y1), .second, .val (.long y2), .second, .val (.ref a1), .val (.ref a2), .unset, .unset, .unset, .unset] [(.ref a2), (.ref a1)])) rfl (by rw [hml]; rfl) (argsL := [(.ref a1), (.ref a2)]) (rest := []) (lenOf pd___D_D_D rfl) rfl rfl (by show 2 * 0 + _ ≤ _; exact Nat.le_of_eq rfl) (hb hby at_59) rfl (by decide) (by decide) (by decide) (by decide)
    obtain ⟨rfl, N3q, e3⟩ := Q3
    have N3 := Fr.app N2 N3q
    refine own_go st3 ?_
    show own_R p.tables e below _ T3 (mkF m 62 #[.val (.int ln), .val (.int p0), .val (.int p1), .val (.int p2), .val (.int b01), .val (.int b2), .val (.int (1 : Int32)), .val (.long y0), .second, .val (.long y1), .second, .val (.long y2), .second, .val (.ref a1), .val (.ref a2), .unset, .unset, .unset, .unset] [(.double (FP.dadd FP.dconst0 (FP.dmul (FP.i2d p0) (FP.l2d y0))))])
    generalize FP.dadd FP.dconst0 (FP.dmul (FP.i2d p0) (FP.l2d y0)) = got at A0 ⊢
    show own_R p.tables e below _ T3 (mkF m 62 #[.val (.int ln), .val (.int p0), .val (.int p1), .val (.int p2), .val (.int b01), .val (.int b2), .val (.int (1 : Int32)), .val (.long y0), .second, .val (.long y1), .second, .val (.long y2), .second, .val (.ref a1), .val (.ref a2), .unset, .unset, .unset, .unset] [(.double got)])
    have R0 : (0 : Int64).toInt = 0 := by decide
    refine own_go (fun _ => XS.dstore X3.here hx rfl (hb hby at_62) rfl (l' := #[.val (.int ln), .val (.int p0), .val (.int p1), .val (.int p2), .val (.int b01), .val (.int b2), .val (.int (1 : Int32)), .val (.long y0), .second, .val (.long y1), .second, .val (.long y2), .second, .val (.ref a1), .val (.ref a2), .val (.double got), .second, .unset, .unset]) rfl) ?_
    show own_R p.tables e below _ T3 (mkF m 64 #[.val (.int ln), .val (.int p0), .val (.int p1), .val (.int p2), .val (.int b01), .val (.int b2), .val (.int (1 : Int32)), .val (.long y0), .second, .val (.long y1), .second, .val (.long y2), .second, .val (.ref a1), .val (.ref a2), .val (.double got), .second, .unset, .unset] [])
    refine own_go (fun _ => XS.lconst X3.here hx rfl (hb hby at_64)) ?_
    show own_R p.tables e below _ T3 (mkF m 65 #[.val (.int ln), .val (.int p0), .val (.int p1), .val (.int p2), .val (.int b01), .val (.int b2), .val (.int (1 : Int32)), .val (.long y0), .second, .val (.long y1), .second, .val (.long y2), .second, .val (.ref a1), .val (.ref a2), .val (.double got), .second, .unset, .unset] [(.long (0 : Int64))])
    refine own_go (fun _ => XS.lstore X3.here hx rfl (hb hby at_65) rfl (l' := #[.val (.int ln), .val (.int p0), .val (.int p1), .val (.int p2), .val (.int b01), .val (.int b2), .val (.int (1 : Int32)), .val (.long y0), .second, .val (.long y1), .second, .val (.long y2), .second, .val (.ref a1), .val (.ref a2), .val (.double got), .second, .val (.long (0 : Int64)), .second]) rfl) ?_
    show own_R p.tables e below _ T3 (mkF m 67 #[.val (.int ln), .val (.int p0), .val (.int p1), .val (.int p2), .val (.int b01), .val (.int b2), .val (.int (1 : Int32)), .val (.long y0), .second, .val (.long y1), .second, .val (.long y2), .second, .val (.ref a1), .val (.ref a2), .val (.double got), .second, .val (.long (0 : Int64)), .second] [])
    refine own_go (fun _ => XS.iload X3.here hx rfl (hb hby at_67) rfl ) ?_
    show own_R p.tables e below _ T3 (mkF m 69 #[.val (.int ln), .val (.int p0), .val (.int p1), .val (.int p2), .val (.int b01), .val (.int b2), .val (.int (1 : Int32)), .val (.long y0), .second, .val (.long y1), .second, .val (.long y2), .second, .val (.ref a1), .val (.ref a2), .val (.double got), .second, .val (.long (0 : Int64)), .second] [(.int (1 : Int32))])
    refine own_go (fun _ => XS.iconst X3.here hx rfl (hb hby at_69)) ?_
    show own_R p.tables e below _ T3 (mkF m 70 #[.val (.int ln), .val (.int p0), .val (.int p1), .val (.int p2), .val (.int b01), .val (.int b2), .val (.int (1 : Int32)), .val (.long y0), .second, .val (.long y1), .second, .val (.long y2), .second, .val (.ref a1), .val (.ref a2), .val (.double got), .second, .val (.long (0 : Int64)), .second] [(.int (1 : Int32)), (.int (1 : Int32))])
    refine own_go (fun _ => XS.icmpNo X3.here hx rfl (hb hby at_70) rfl (flt (by decide)).1) ?_
    show own_R p.tables e below _ T3 (mkF m 73 #[.val (.int ln), .val (.int p0), .val (.int p1), .val (.int p2), .val (.int b01), .val (.int b2), .val (.int (1 : Int32)), .val (.long y0), .second, .val (.long y1), .second, .val (.long y2), .second, .val (.ref a1), .val (.ref a2), .val (.double got), .second, .val (.long (0 : Int64)), .second] [])
    refine own_go (fun _ => XS.lload X3.here hx rfl (hb hby at_73) rfl ) ?_
    show own_R p.tables e below _ T3 (mkF m 75 #[.val (.int ln), .val (.int p0), .val (.int p1), .val (.int p2), .val (.int b01), .val (.int b2), .val (.int (1 : Int32)), .val (.long y0), .second, .val (.long y1), .second, .val (.long y2), .second, .val (.ref a1), .val (.ref a2), .val (.double got), .second, .val (.long (0 : Int64)), .second] [(.long (0 : Int64))])
    refine own_go (fun _ => XS.iloadN X3.here hx rfl (hb hby at_75) rfl ) ?_
    show own_R p.tables e below _ T3 (mkF m 76 #[.val (.int ln), .val (.int p0), .val (.int p1), .val (.int p2), .val (.int b01), .val (.int b2), .val (.int (1 : Int32)), .val (.long y0), .second, .val (.long y1), .second, .val (.long y2), .second, .val (.ref a1), .val (.ref a2), .val (.double got), .second, .val (.long (0 : Int64)), .second] [(.int p0), (.long (0 : Int64))])
    refine own_go (fun _ => XS.i2l X3.here hx rfl (hb hby at_76) rfl) ?_
    show own_R p.tables e below _ T3 (mkF m 77 #[.val (.int ln), .val (.int p0), .val (.int p1), .val (.int p2), .val (.int b01), .val (.int b2), .val (.int (1 : Int32)), .val (.long y0), .second, .val (.long y1), .second, .val (.long y2), .second, .val (.ref a1), .val (.ref a2), .val (.double got), .second, .val (.long (0 : Int64)), .second] [(.long (p0.toInt64)), (.long (0 : Int64))])
    refine own_go (fun _ => XS.lload X3.here hx rfl (hb hby at_77) rfl ) ?_
    show own_R p.tables e below _ T3 (mkF m 79 #[.val (.int ln), .val (.int p0), .val (.int p1), .val (.int p2), .val (.int b01), .val (.int b2), .val (.int (1 : Int32)), .val (.long y0), .second, .val (.long y1), .second, .val (.long y2), .second, .val (.ref a1), .val (.ref a2), .val (.double got), .second, .val (.long (0 : Int64)), .second] [(.long y0), (.long (p0.toInt64)), (.long (0 : Int64))])
    refine own_go (fun _ => XS.lmul X3.here hx rfl (hb hby at_79) rfl) ?_
    show own_R p.tables e below _ T3 (mkF m 80 #[.val (.int ln), .val (.int p0), .val (.int p1), .val (.int p2), .val (.int b01), .val (.int b2), .val (.int (1 : Int32)), .val (.long y0), .second, .val (.long y1), .second, .val (.long y2), .second, .val (.ref a1), .val (.ref a2), .val (.double got), .second, .val (.long (0 : Int64)), .second] [(.long ((p0.toInt64) * y0)), (.long (0 : Int64))])
    refine own_go (fun _ => XS.ladd X3.here hx rfl (hb hby at_80) rfl) ?_
    show own_R p.tables e below _ T3 (mkF m 81 #[.val (.int ln), .val (.int p0), .val (.int p1), .val (.int p2), .val (.int b01), .val (.int b2), .val (.int (1 : Int32)), .val (.long y0), .second, .val (.long y1), .second, .val (.long y2), .second, .val (.ref a1), .val (.ref a2), .val (.double got), .second, .val (.long (0 : Int64)), .second] [(.long ((0 : Int64) + ((p0.toInt64) * y0)))])
    refine own_go (fun _ => XS.lstore X3.here hx rfl (hb hby at_81) rfl (l' := #[.val (.int ln), .val (.int p0), .val (.int p1), .val (.int p2), .val (.int b01), .val (.int b2), .val (.int (1 : Int32)), .val (.long y0), .second, .val (.long y1), .second, .val (.long y2), .second, .val (.ref a1), .val (.ref a2), .val (.double got), .second, .val (.long ((0 : Int64) + ((p0.toInt64) * y0))), .second]) rfl) ?_
    show own_R p.tables e below _ T3 (mkF m 83 #[.val (.int ln), .val (.int p0), .val (.int p1), .val (.int p2), .val (.int b01), .val (.int b2), .val (.int (1 : Int32)), .val (.long y0), .second, .val (.long y1), .second, .val (.long y2), .second, .val (.ref a1), .val (.ref a2), .val (.double got), .second, .val (.long ((0 : Int64) + ((p0.toInt64) * y0))), .second] [])
    have R1 : ((0 : Int64) + (p0.toInt64 * y0)).toInt = 0 + M0 := by rw [FP.Core.int64_add (by rw [R0, PL0]; omega) (by rw [R0, PL0]; omega), R0, PL0]
    generalize (0 : Int64) + ((p0.toInt64) * y0) = r1 at R1 ⊢
    show own_R p.tables e below _ T3 (mkF m 83 #[.val (.int ln), .val (.int p0), .val (.int p1), .val (.int p2), .val (.int b01), .val (.int b2), .val (.int (1 : Int32)), .val (.long y0), .second, .val (.long y1), .second, .val (.long y2), .second, .val (.ref a1), .val (.ref a2), .val (.double got), .second, .val (.long r1), .second] [])
    refine own_go (fun _ => XS.iload X3.here hx rfl (hb hby at_83) rfl ) ?_
    show own_R p.tables e below _ T3 (mkF m 85 #[.val (.int ln), .val (.int p0), .val (.int p1), .val (.int p2), .val (.int b01), .val (.int b2), .val (.int (1 : Int32)), .val (.long y0), .second, .val (.long y1), .second, .val (.long y2), .second, .val (.ref a1), .val (.ref a2), .val (.double got), .second, .val (.long r1), .second] [(.int (1 : Int32))])
    refine own_go (fun _ => XS.iconst X3.here hx rfl (hb hby at_85)) ?_
    show own_R p.tables e below _ T3 (mkF m 86 #[.val (.int ln), .val (.int p0), .val (.int p1), .val (.int p2), .val (.int b01), .val (.int b2), .val (.int (1 : Int32)), .val (.long y0), .second, .val (.long y1), .second, .val (.long y2), .second, .val (.ref a1), .val (.ref a2), .val (.double got), .second, .val (.long r1), .second] [(.int (2 : Int32)), (.int (1 : Int32))])
    refine own_go (fun _ => XS.icmpYes X3.here hx rfl (pc0 := 86) (pc' := 99) rfl (hb hby at_86) rfl (tlt (by decide)).1 (by decide) (by decide)) ?_
    show own_R p.tables e below _ T3 (mkF m 99 #[.val (.int ln), .val (.int p0), .val (.int p1), .val (.int p2), .val (.int b01), .val (.int b2), .val (.int (1 : Int32)), .val (.long y0), .second, .val (.long y1), .second, .val (.long y2), .second, .val (.ref a1), .val (.ref a2), .val (.double got), .second, .val (.long r1), .second] [])
    refine own_go (fun _ => XS.iload X3.here hx rfl (hb hby at_99) rfl ) ?_
    show own_R p.tables e below _ T3 (mkF m 101 #[.val (.int ln), .val (.int p0), .val (.int p1), .val (.int p2), .val (.int b01), .val (.int b2), .val (.int (1 : Int32)), .val (.long y0), .second, .val (.long y1), .second, .val (.long y2), .second, .val (.ref a1), .val (.ref a2), .val (.double got), .second, .val (.long r1), .second] [(.int (1 : Int32))])
    refine own_go (fun _ => XS.iconst X3.here hx rfl (hb hby at_101)) ?_
    show own_R p.tables e below _ T3 (mkF m 102 #[.val (.int ln), .val (.int p0), .val (.int p1), .val (.int p2), .val (.int b01), .val (.int b2), .val (.int (1 : Int32)), .val (.long y0), .second, .val (.long y1), .second, .val (.long y2), .second, .val (.ref a1), .val (.ref a2), .val (.double got), .second, .val (.long r1), .second] [(.int (3 : Int32)), (.int (1 : Int32))])
    refine own_go (fun _ => XS.icmpYes X3.here hx rfl (pc0 := 102) (pc' := 115) rfl (hb hby at_102) rfl (tlt (by decide)).1 (by decide) (by decide)) ?_
    show own_R p.tables e below _ T3 (mkF m 115 #[.val (.int ln), .val (.int p0), .val (.int p1), .val (.int p2), .val (.int b01), .val (.int b2), .val (.int (1 : Int32)), .val (.long y0), .second, .val (.long y1), .second, .val (.long y2), .second, .val (.ref a1), .val (.ref a2), .val (.double got), .second, .val (.long r1), .second] [])
    have RL := own_dh_l2d r1 (by omega)
    rw [R1] at RL
    refine own_go (fun _ => XS.dload X3.here hx rfl (hb hby at_115) rfl ) ?_
    show own_R p.tables e below _ T3 (mkF m 117 #[.val (.int ln), .val (.int p0), .val (.int p1), .val (.int p2), .val (.int b01), .val (.int b2), .val (.int (1 : Int32)), .val (.long y0), .second, .val (.long y1), .second, .val (.long y2), .second, .val (.ref a1), .val (.ref a2), .val (.double got), .second, .val (.long r1), .second] [(.double got)])
    refine own_go (fun _ => XS.lload X3.here hx rfl (hb hby at_117) rfl ) ?_
    show own_R p.tables e below _ T3 (mkF m 119 #[.val (.int ln), .val (.int p0), .val (.int p1), .val (.int p2), .val (.int b01), .val (.int b2), .val (.int (1 : Int32)), .val (.long y0), .second, .val (.long y1), .second, .val (.long y2), .second, .val (.ref a1), .val (.ref a2), .val (.double got), .second, .val (.long r1), .second] [(.long r1), (.double got)])
    refine own_go (fun _ => XS.l2dS X3.here hx rfl (hb hby at_119) rfl rfl) ?_
    show own_R p.tables e below _ T3 (mkF m 120 #[.val (.int ln), .val (.int p0), .val (.int p1), .val (.int p2), .val (.int b01), .val (.int b2), .val (.int (1 : Int32)), .val (.long y0), .second, .val (.long y1), .second, .val (.long y2), .second, .val (.ref a1), .val (.ref a2), .val (.double got), .second, .val (.long r1), .second] [(.double (FP.l2d r1)), (.double got)])
    refine own_go (fun _ => XS.dcmpS X3.here hx rfl (hb hby at_120) rfl rfl) ?_
    show own_R p.tables e below _ T3 (mkF m 121 #[.val (.int ln), .val (.int p0), .val (.int p1), .val (.int p2), .val (.int b01), .val (.int b2), .val (.int (1 : Int32)), .val (.long y0), .second, .val (.long y1), .second, .val (.long y2), .second, .val (.ref a1), .val (.ref a2), .val (.double got), .second, .val (.long r1), .second] [(.int (cmpValue (FP.dcmp got (FP.l2d r1)) .l))])
    refine own_go (fun _ => XS.ifNo X3.here hx rfl (hb hby at_121) rfl ((if0 _ _).trans (teq (own_cmp0 A0 RL (by omega) _)).2)) ?_
    show own_R p.tables e below _ T3 (mkF m 124 #[.val (.int ln), .val (.int p0), .val (.int p1), .val (.int p2), .val (.int b01), .val (.int b2), .val (.int (1 : Int32)), .val (.long y0), .second, .val (.long y1), .second, .val (.long y2), .second, .val (.ref a1), .val (.ref a2), .val (.double got), .second, .val (.long r1), .second] [])
    refine own_go (fun _ => XS.iconst X3.here hx rfl (hb hby at_124)) ?_
    show own_R p.tables e below _ T3 (mkF m 125 #[.val (.int ln), .val (.int p0), .val (.int p1), .val (.int p2), .val (.int b01), .val (.int b2), .val (.int (1 : Int32)), .val (.long y0), .second, .val (.long y1), .second, .val (.long y2), .second, .val (.ref a1), .val (.ref a2), .val (.double got), .second, .val (.long r1), .second] [(.int (1 : Int32))])
    refine own_go (fun _ => XS.goto X3.here hx rfl (pc0 := 125) (pc' := 129) rfl (hb hby at_125) (by decide) (by decide)) ?_
    show own_R p.tables e below _ T3 (mkF m 129 #[.val (.int ln), .val (.int p0), .val (.int p1), .val (.int p2), .val (.int b01), .val (.int b2), .val (.int (1 : Int32)), .val (.long y0), .second, .val (.long y1), .second, .val (.long y2), .second, .val (.ref a1), .val (.ref a2), .val (.double got), .second, .val (.long r1), .second] [(.int (1 : Int32))])
    exact own_end X3 (some (.int (1 : Int32))) (fun h => by rw [hret] at h; cases h) hlk (fun fs hr => retN X3 hx (t := .boolean) hret (by simp) (hb hby at_129) hr) ⟨rfl, N3⟩ (by decide) (by decide)
  · show own_R p.tables e below _ T0 (mkF m 26 #[.val (.int ln), .val (.int p0), .val (.int p1), .val (.int p2), .val (.int b01), .val (.int b2), .val (.int (2 : Int32)), .val (.long y0), .second, .val (.long y1), .second, .val (.long y2), .second, .unset, .unset, .unset, .unset, .unset, .unset] [])
    refine own_go (fun _ => XS.iload X0.here hx rfl (hb hby at_26) rfl ) ?_
    show own_R p.tables e below _ T0 (mkF m 28 #[.val (.int ln), .val (.int p0), .val (.int p1), .val (.int p2), .val (.int b01), .val (.int b2), .val (.int (2 : Int32)), .val (.long y0), .second, .val (.long y1), .second, .val (.long y2), .second, .unset, .unset, .unset, .unset, .unset, .unset] [(.int (2 : Int32))])
    refine own_go (fun _ => XS.iloadN X0.here hx rfl (hb hby at_28) rfl ) ?_
    show own_R p.tables e below _ T0 (mkF m 29 #[.val (.int ln), .val (.int p0), .val (.int p1), .val (.int p2), .val (.int b01), .val (.int b2), .val (.int (2 : Int32)), .val (.long y0), .second, .val (.long y1), .second, .val (.long y2), .second, .unset, .unset, .unset, .unset, .unset, .unset] [(.int p0), (.int (2 : Int32))])
    refine own_go (fun _ => XS.i2dS X0.here hx rfl (hb hby at_29) rfl rfl) ?_
    show own_R p.tables e below _ T0 (mkF m 30 #[.val (.int ln), .val (.int p0), .val (.int p1), .val (.int p2), .val (.int b01), .val (.int b2), .val (.int (2 : Int32)), .val (.long y0), .second, .val (.long y1), .second, .val (.long y2), .second, .unset, .unset, .unset, .unset, .unset, .unset] [(.double (FP.i2d p0)), (.int (2 : Int32))])
    refine own_go (fun _ => XS.iloadN X0.here hx rfl (hb hby at_30) rfl ) ?_
    show own_R p.tables e below _ T0 (mkF m 31 #[.val (.int ln), .val (.int p0), .val (.int p1), .val (.int p2), .val (.int b01), .val (.int b2), .val (.int (2 : Int32)), .val (.long y0), .second, .val (.long y1), .second, .val (.long y2), .second, .unset, .unset, .unset, .unset, .unset, .unset] [(.int p1), (.double (FP.i2d p0)), (.int (2 : Int32))])
    refine own_go (fun _ => XS.i2dS X0.here hx rfl (hb hby at_31) rfl rfl) ?_
    show own_R p.tables e below _ T0 (mkF m 32 #[.val (.int ln), .val (.int p0), .val (.int p1), .val (.int p2), .val (.int b01), .val (.int b2), .val (.int (2 : Int32)), .val (.long y0), .second, .val (.long y1), .second, .val (.long y2), .second, .unset, .unset, .unset, .unset, .unset, .unset] [(.double (FP.i2d p1)), (.double (FP.i2d p0)), (.int (2 : Int32))])
    refine own_go (fun _ => XS.iloadN X0.here hx rfl (hb hby at_32) rfl ) ?_
    show own_R p.tables e below _ T0 (mkF m 33 #[.val (.int ln), .val (.int p0), .val (.int p1), .val (.int p2), .val (.int b01), .val (.int b2), .val (.int (2 : Int32)), .val (.long y0), .second, .val (.long y1), .second, .val (.long y2), .second, .unset, .unset, .unset, .unset, .unset, .unset] [(.int p2), (.double (FP.i2d p1)), (.double (FP.i2d p0)), (.int (2 : Int32))])
    refine own_go (fun _ => XS.i2dS X0.here hx rfl (hb hby at_33) rfl rfl) ?_
    show own_R p.tables e below _ T0 (mkF m 34 #[.val (.int ln), .val (.int p0), .val (.int p1), .val (.int p2), .val (.int b01), .val (.int b2), .val (.int (2 : Int32)), .val (.long y0), .second, .val (.long y1), .second, .val (.long y2), .second, .unset, .unset, .unset, .unset, .unset, .unset] [(.double (FP.i2d p2)), (.double (FP.i2d p1)), (.double (FP.i2d p0)), (.int (2 : Int32))])
    obtain ⟨v1, T1, L1, X1, Q1, st1⟩ := own_callS X0 hx hZ hown (y := (⟨"com/example/pass2/pass2/util/VectorsDotPinLaw", "vec", "(IDDD)[D"⟩ : MethodName)) (hw _ (List.mem_of_getElem? (i := 0) rfl)) (hw _ (List.mem_of_getElem? (i := 1) rfl)) (hw _ (List.mem_of_getElem? (i := 2) rfl)) (hw _ (List.mem_of_getElem? (i := 3) rfl)) (by decide) (rmVec2 l Z a0 hw [] h0 n0 (FP.i2d p0) (FP.i2d p1) (FP.i2d p2) Z0) (W := 0) (g := (mkF m 34 #[.val (.int ln), .val (.int p0), .val (.int p1), .val (.int p2), .val (.int b01), .val (.int b2), .val (.int (2 : Int32)), .val (.long y0), .second, .val (.long y1), .second, .val (.long y2), .second, .unset, .unset, .unset, .unset, .unset, .unset] [(.double (FP.i2d p2)), (.double (FP.i2d p1)), (.double (FP.i2d p0)), (.int (2 : Int32))])) rfl (by rw [hml]; rfl) (argsL := [(.int (2 : Int32)), (.double (FP.i2d p0)), (.double (FP.i2d p1)), (.double (FP.i2d p2))]) (rest := []) (lenOf pd__IDDD__D rfl) rfl rfl (by show 2 * 0 + _ ≤ _; exact Nat.le_of_eq rfl) (hb hby at_34) e0 (by decide) (by decide) (by decide) (by decide)
    obtain ⟨a1, k1, rfl, N1q, K1, q1, V1⟩ := Q1
    have N1 := Fr.app N0 N1q
    refine own_go st1 ?_
    show own_R p.tables e below _ T1 (mkF m 37 #[.val (.int ln), .val (.int p0), .val (.int p1), .val (.int p2), .val (.int b01), .val (.int b2), .val (.int (2 : Int32)), .val (.long y0), .second, .val (.long y1), .second, .val (.long y2), .second, .unset, .unset, .unset, .unset, .unset, .unset] [(.ref a1)])
    refine own_go (fun _ => XS.astore X1.here hx rfl (hb hby at_37) rfl rfl (l' := #[.val (.int ln), .val (.int p0), .val (.int p1), .val (.int p2), .val (.int b01), .val (.int b2), .val (.int (2 : Int32)), .val (.long y0), .second, .val (.long y1), .second, .val (.long y2), .second, .val (.ref a1), .unset, .unset, .unset, .unset, .unset]) rfl) ?_
    show own_R p.tables e below _ T1 (mkF m 39 #[.val (.int ln), .val (.int p0), .val (.int p1), .val (.int p2), .val (.int b01), .val (.int b2), .val (.int (2 : Int32)), .val (.long y0), .second, .val (.long y1), .second, .val (.long y2), .second, .val (.ref a1), .unset, .unset, .unset, .unset, .unset] [])
    refine own_go (fun _ => XS.iload X1.here hx rfl (hb hby at_39) rfl ) ?_
    show own_R p.tables e below _ T1 (mkF m 41 #[.val (.int ln), .val (.int p0), .val (.int p1), .val (.int p2), .val (.int b01), .val (.int b2), .val (.int (2 : Int32)), .val (.long y0), .second, .val (.long y1), .second, .val (.long y2), .second, .val (.ref a1), .unset, .unset, .unset, .unset, .unset] [(.int (2 : Int32))])
    refine own_go (fun _ => XS.lload X1.here hx rfl (hb hby at_41) rfl ) ?_
    show own_R p.tables e below _ T1 (mkF m 43 #[.val (.int ln), .val (.int p0), .val (.int p1), .val (.int p2), .val (.int b01), .val (.int b2), .val (.int (2 : Int32)), .val (.long y0), .second, .val (.long y1), .second, .val (.long y2), .second, .val (.ref a1), .unset, .unset, .unset, .unset, .unset] [(.long y0), (.int (2 : Int32))])
    refine own_go (fun _ => XS.l2dS X1.here hx rfl (hb hby at_43) rfl rfl) ?_
    show own_R p.tables e below _ T1 (mkF m 44 #[.val (.int ln), .val (.int p0), .val (.int p1), .val (.int p2), .val (.int b01), .val (.int b2), .val (.int (2 : Int32)), .val (.long y0), .second, .val (.long y1), .second, .val (.long y2), .second, .val (.ref a1), .unset, .unset, .unset, .unset, .unset] [(.double (FP.l2d y0)), (.int (2 : Int32))])
    refine own_go (fun _ => XS.lload X1.here hx rfl (hb hby at_44) rfl ) ?_
    show own_R p.tables e below _ T1 (mkF m 46 #[.val (.int ln), .val (.int p0), .val (.int p1), .val (.int p2), .val (.int b01), .val (.int b2), .val (.int (2 : Int32)), .val (.long y0), .second, .val (.long y1), .second, .val (.long y2), .second, .val (.ref a1), .unset, .unset, .unset, .unset, .unset] [(.long y1), (.double (FP.l2d y0)), (.int (2 : Int32))])
    refine own_go (fun _ => XS.l2dS X1.here hx rfl (hb hby at_46) rfl rfl) ?_
    show own_R p.tables e below _ T1 (mkF m 47 #[.val (.int ln), .val (.int p0), .val (.int p1), .val (.int p2), .val (.int b01), .val (.int b2), .val (.int (2 : Int32)), .val (.long y0), .second, .val (.long y1), .second, .val (.long y2), .second, .val (.ref a1), .unset, .unset, .unset, .unset, .unset] [(.double (FP.l2d y1)), (.double (FP.l2d y0)), (.int (2 : Int32))])
    refine own_go (fun _ => XS.lload X1.here hx rfl (hb hby at_47) rfl ) ?_
    show own_R p.tables e below _ T1 (mkF m 49 #[.val (.int ln), .val (.int p0), .val (.int p1), .val (.int p2), .val (.int b01), .val (.int b2), .val (.int (2 : Int32)), .val (.long y0), .second, .val (.long y1), .second, .val (.long y2), .second, .val (.ref a1), .unset, .unset, .unset, .unset, .unset] [(.long y2), (.double (FP.l2d y1)), (.double (FP.l2d y0)), (.int (2 : Int32))])
    refine own_go (fun _ => XS.l2dS X1.here hx rfl (hb hby at_49) rfl rfl) ?_
    show own_R p.tables e below _ T1 (mkF m 50 #[.val (.int ln), .val (.int p0), .val (.int p1), .val (.int p2), .val (.int b01), .val (.int b2), .val (.int (2 : Int32)), .val (.long y0), .second, .val (.long y1), .second, .val (.long y2), .second, .val (.ref a1), .unset, .unset, .unset, .unset, .unset] [(.double (FP.l2d y2)), (.double (FP.l2d y1)), (.double (FP.l2d y0)), (.int (2 : Int32))])
    obtain ⟨v2, T2, L2, X2, Q2, st2⟩ := own_callS X1 hx hZ hown (y := (⟨"com/example/pass2/pass2/util/VectorsDotPinLaw", "vec", "(IDDD)[D"⟩ : MethodName)) (hw _ (List.mem_of_getElem? (i := 0) rfl)) (hw _ (List.mem_of_getElem? (i := 1) rfl)) (hw _ (List.mem_of_getElem? (i := 2) rfl)) (hw _ (List.mem_of_getElem? (i := 3) rfl)) (by decide) (rmVec2 l Z a0 hw [] T1.heap n0 (FP.l2d y0) (FP.l2d y1) (FP.l2d y2) (Nat.le_trans Z0 K1.1)) (W := 0) (g := (mkF m 50 #[.val (.int ln), .val (.int p0), .val (.int p1), .val (.int p2), .val (.int b01), .val (.int b2), .val (.int (2 : Int32)), .val (.long y0), .second, .val (.long y1), .second, .val (.long y2), .second, .val (.ref a1), .unset, .unset, .unset, .unset, .unset] [(.double (FP.l2d y2)), (.double (FP.l2d y1)), (.double (FP.l2d y0)), (.int (2 : Int32))])) rfl (by rw [hml]; rfl) (argsL := [(.int (2 : Int32)), (.double (FP.l2d y0)), (.double (FP.l2d y1)), (.double (FP.l2d y2))]) (rest := []) (lenOf pd__IDDD__D rfl) rfl rfl (by show 2 * 0 + _ ≤ _; exact Nat.le_of_eq rfl) (hb hby at_50) rfl (by decide) (by decide) (by decide) (by decide)
    obtain ⟨a2, k2, rfl, N2q, K2, q2, V2⟩ := Q2
    have N2 := Fr.app N1 N2q
    have V1b := V1.keep K2 nin0
    refine own_go st2 ?_
    show own_R p.tables e below _ T2 (mkF m 53 #[.val (.int ln), .val (.int p0), .val (.int p1), .val (.int p2), .val (.int b01), .val (.int b2), .val (.int (2 : Int32)), .val (.long y0), .second, .val (.long y1), .second, .val (.long y2), .second, .val (.ref a1), .unset, .unset, .unset, .unset, .unset] [(.ref a2)])
    refine own_go (fun _ => XS.astore X2.here hx rfl (hb hby at_53) rfl rfl (l' := #[.val (.int ln), .val (.int p0), .val (.int p1), .val (.int p2), .val (.int b01), .val (.int b2), .val (.int (2 : Int32)), .val (.long y0), .second, .val (.long y1), .second, .val (.long y2), .second, .val (.ref a1), .val (.ref a2), .unset, .unset, .unset, .unset]) rfl) ?_
    show own_R p.tables e below _ T2 (mkF m 55 #[.val (.int ln), .val (.int p0), .val (.int p1), .val (.int p2), .val (.int b01), .val (.int b2), .val (.int (2 : Int32)), .val (.long y0), .second, .val (.long y1), .second, .val (.long y2), .second, .val (.ref a1), .val (.ref a2), .unset, .unset, .unset, .unset] [])
    refine own_go (fun _ => XS.aload X2.here hx rfl (hb hby at_55) rfl rfl) ?_
    show own_R p.tables e below _ T2 (mkF m 57 #[.val (.int ln), .val (.int p0), .val (.int p1), .val (.int p2), .val (.int b01), .val (.int b2), .val (.int (2 : Int32)), .val (.long y0), .second, .val (.long y1), .second, .val (.long y2), .second, .val (.ref a1), .val (.ref a2), .unset, .unset, .unset, .unset] [(.ref a1)])
    refine own_go (fun _ => XS.aload X2.here hx rfl (hb hby at_57) rfl rfl) ?_
    show own_R p.tables e below _ T2 (mkF m 59 #[.val (.int ln), .val (.int p0), .val (.int p1), .val (.int p2), .val (.int b01), .val (.int b2), .val (.int (2 : Int32)), .val (.long y0), .second, .val (.long y1), .second, .val (.long y2), .second, .val (.ref a1), .val (.ref a2), .unset, .unset, .unset, .unset] [(.ref a2), (.ref a1)])
    have A0 := own_dh_add own_dz D0 (by omega)
    have A1 := own_dh_add A0 D1 (by omega)
    obtain ⟨v3, T3, L3, X3, Q3, st3⟩ := own_callS X2 hx hZ hown (y := (⟨"com/example/pass2/pass2/util/Vectors", "dot", "([D[D)D"⟩ : MethodName)) (hw _ (List.mem_of_getElem? (i := 5) rfl)) (hw _ (List.mem_of_getElem? (i := 6) rfl)) (hw _ (List.mem_of_getElem? (i := 7) rfl)) (hw _ (List.mem_of_getElem? (i := 8) rfl)) (by decide) (rmDot2 l Z a0 hw [] T2.heap n0 a1 a2 (FP.i2d p0) (FP.i2d p1) (FP.l2d y0) (FP.l2d y1) V1b V2 D0.nn A0.nn D1.nn A1.nn) (W := 0) (g := (mkF m 59 #[.val (.int ln), .val (.int p0), .val (.int p1), .val (.int p2), .val (.int b01), .val (.int b2), .val (.int (2 : Int32)), .val (.long y0), .second, .val (.long y1), .second, .val (.long y2), .second, .val (.ref a1), .val (.ref a2), .unset, .unset, .unset, .unset] [(.ref a2), (.ref a1)])) rfl (by rw [hml]; rfl) (argsL := [(.ref a1), (.ref a2)]) (rest := []) (lenOf pd___D_D_D rfl) rfl rfl (by show 2 * 0 + _ ≤ _; exact Nat.le_of_eq rfl) (hb hby at_59) rfl (by decide) (by decide) (by decide) (by decide)
    obtain ⟨rfl, N3q, e3⟩ := Q3
    have N3 := Fr.app N2 N3q
    refine own_go st3 ?_
    show own_R p.tables e below _ T3 (mkF m 62 #[.val (.int ln), .val (.int p0), .val (.int p1), .val (.int p2), .val (.int b01), .val (.int b2), .val (.int (2 : Int32)), .val (.long y0), .second, .val (.long y1), .second, .val (.long y2), .second, .val (.ref a1), .val (.ref a2), .unset, .unset, .unset, .unset] [(.double (FP.dadd (FP.dadd FP.dconst0 (FP.dmul (FP.i2d p0) (FP.l2d y0))) (FP.dmul (FP.i2d p1) (FP.l2d y1))))])
    generalize FP.dadd (FP.dadd FP.dconst0 (FP.dmul (FP.i2d p0) (FP.l2d y0))) (FP.dmul (FP.i2d p1) (FP.l2d y1)) = got at A1 ⊢
    show own_R p.tables e below _ T3 (mkF m 62 #[.val (.int ln), .val (.int p0), .val (.int p1), .val (.int p2), .val (.int b01), .val (.int b2), .val (.int (2 : Int32)), .val (.long y0), .second, .val (.long y1), .second, .val (.long y2), .second, .val (.ref a1), .val (.ref a2), .unset, .unset, .unset, .unset] [(.double got)])
    have R0 : (0 : Int64).toInt = 0 := by decide
    refine own_go (fun _ => XS.dstore X3.here hx rfl (hb hby at_62) rfl (l' := #[.val (.int ln), .val (.int p0), .val (.int p1), .val (.int p2), .val (.int b01), .val (.int b2), .val (.int (2 : Int32)), .val (.long y0), .second, .val (.long y1), .second, .val (.long y2), .second, .val (.ref a1), .val (.ref a2), .val (.double got), .second, .unset, .unset]) rfl) ?_
    show own_R p.tables e below _ T3 (mkF m 64 #[.val (.int ln), .val (.int p0), .val (.int p1), .val (.int p2), .val (.int b01), .val (.int b2), .val (.int (2 : Int32)), .val (.long y0), .second, .val (.long y1), .second, .val (.long y2), .second, .val (.ref a1), .val (.ref a2), .val (.double got), .second, .unset, .unset] [])
    refine own_go (fun _ => XS.lconst X3.here hx rfl (hb hby at_64)) ?_
    show own_R p.tables e below _ T3 (mkF m 65 #[.val (.int ln), .val (.int p0), .val (.int p1), .val (.int p2), .val (.int b01), .val (.int b2), .val (.int (2 : Int32)), .val (.long y0), .second, .val (.long y1), .second, .val (.long y2), .second, .val (.ref a1), .val (.ref a2), .val (.double got), .second, .unset, .unset] [(.long (0 : Int64))])
    refine own_go (fun _ => XS.lstore X3.here hx rfl (hb hby at_65) rfl (l' := #[.val (.int ln), .val (.int p0), .val (.int p1), .val (.int p2), .val (.int b01), .val (.int b2), .val (.int (2 : Int32)), .val (.long y0), .second, .val (.long y1), .second, .val (.long y2), .second, .val (.ref a1), .val (.ref a2), .val (.double got), .second, .val (.long (0 : Int64)), .second]) rfl) ?_
    show own_R p.tables e below _ T3 (mkF m 67 #[.val (.int ln), .val (.int p0), .val (.int p1), .val (.int p2), .val (.int b01), .val (.int b2), .val (.int (2 : Int32)), .val (.long y0), .second, .val (.long y1), .second, .val (.long y2), .second, .val (.ref a1), .val (.ref a2), .val (.double got), .second, .val (.long (0 : Int64)), .second] [])
    refine own_go (fun _ => XS.iload X3.here hx rfl (hb hby at_67) rfl ) ?_
    show own_R p.tables e below _ T3 (mkF m 69 #[.val (.int ln), .val (.int p0), .val (.int p1), .val (.int p2), .val (.int b01), .val (.int b2), .val (.int (2 : Int32)), .val (.long y0), .second, .val (.long y1), .second, .val (.long y2), .second, .val (.ref a1), .val (.ref a2), .val (.double got), .second, .val (.long (0 : Int64)), .second] [(.int (2 : Int32))])
    refine own_go (fun _ => XS.iconst X3.here hx rfl (hb hby at_69)) ?_
    show own_R p.tables e below _ T3 (mkF m 70 #[.val (.int ln), .val (.int p0), .val (.int p1), .val (.int p2), .val (.int b01), .val (.int b2), .val (.int (2 : Int32)), .val (.long y0), .second, .val (.long y1), .second, .val (.long y2), .second, .val (.ref a1), .val (.ref a2), .val (.double got), .second, .val (.long (0 : Int64)), .second] [(.int (1 : Int32)), (.int (2 : Int32))])
    refine own_go (fun _ => XS.icmpNo X3.here hx rfl (hb hby at_70) rfl (flt (by decide)).1) ?_
    show own_R p.tables e below _ T3 (mkF m 73 #[.val (.int ln), .val (.int p0), .val (.int p1), .val (.int p2), .val (.int b01), .val (.int b2), .val (.int (2 : Int32)), .val (.long y0), .second, .val (.long y1), .second, .val (.long y2), .second, .val (.ref a1), .val (.ref a2), .val (.double got), .second, .val (.long (0 : Int64)), .second] [])
    refine own_go (fun _ => XS.lload X3.here hx rfl (hb hby at_73) rfl ) ?_
    show own_R p.tables e below _ T3 (mkF m 75 #[.val (.int ln), .val (.int p0), .val (.int p1), .val (.int p2), .val (.int b01), .val (.int b2), .val (.int (2 : Int32)), .val (.long y0), .second, .val (.long y1), .second, .val (.long y2), .second, .val (.ref a1), .val (.ref a2), .val (.double got), .second, .val (.long (0 : Int64)), .second] [(.long (0 : Int64))])
    refine own_go (fun _ => XS.iloadN X3.here hx rfl (hb hby at_75) rfl ) ?_
    show own_R p.tables e below _ T3 (mkF m 76 #[.val (.int ln), .val (.int p0), .val (.int p1), .val (.int p2), .val (.int b01), .val (.int b2), .val (.int (2 : Int32)), .val (.long y0), .second, .val (.long y1), .second, .val (.long y2), .second, .val (.ref a1), .val (.ref a2), .val (.double got), .second, .val (.long (0 : Int64)), .second] [(.int p0), (.long (0 : Int64))])
    refine own_go (fun _ => XS.i2l X3.here hx rfl (hb hby at_76) rfl) ?_
    show own_R p.tables e below _ T3 (mkF m 77 #[.val (.int ln), .val (.int p0), .val (.int p1), .val (.int p2), .val (.int b01), .val (.int b2), .val (.int (2 : Int32)), .val (.long y0), .second, .val (.long y1), .second, .val (.long y2), .second, .val (.ref a1), .val (.ref a2), .val (.double got), .second, .val (.long (0 : Int64)), .second] [(.long (p0.toInt64)), (.long (0 : Int64))])
    refine own_go (fun _ => XS.lload X3.here hx rfl (hb hby at_77) rfl ) ?_
    show own_R p.tables e below _ T3 (mkF m 79 #[.val (.int ln), .val (.int p0), .val (.int p1), .val (.int p2), .val (.int b01), .val (.int b2), .val (.int (2 : Int32)), .val (.long y0), .second, .val (.long y1), .second, .val (.long y2), .second, .val (.ref a1), .val (.ref a2), .val (.double got), .second, .val (.long (0 : Int64)), .second] [(.long y0), (.long (p0.toInt64)), (.long (0 : Int64))])
    refine own_go (fun _ => XS.lmul X3.here hx rfl (hb hby at_79) rfl) ?_
    show own_R p.tables e below _ T3 (mkF m 80 #[.val (.int ln), .val (.int p0), .val (.int p1), .val (.int p2), .val (.int b01), .val (.int b2), .val (.int (2 : Int32)), .val (.long y0), .second, .val (.long y1), .second, .val (.long y2), .second, .val (.ref a1), .val (.ref a2), .val (.double got), .second, .val (.long (0 : Int64)), .second] [(.long ((p0.toInt64) * y0)), (.long (0 : Int64))])
    refine own_go (fun _ => XS.ladd X3.here hx rfl (hb hby at_80) rfl) ?_
    show own_R p.tables e below _ T3 (mkF m 81 #[.val (.int ln), .val (.int p0), .val (.int p1), .val (.int p2), .val (.int b01), .val (.int b2), .val (.int (2 : Int32)), .val (.long y0), .second, .val (.long y1), .second, .val (.long y2), .second, .val (.ref a1), .val (.ref a2), .val (.double got), .second, .val (.long (0 : Int64)), .second] [(.long ((0 : Int64) + ((p0.toInt64) * y0)))])
    refine own_go (fun _ => XS.lstore X3.here hx rfl (hb hby at_81) rfl (l' := #[.val (.int ln), .val (.int p0), .val (.int p1), .val (.int p2), .val (.int b01), .val (.int b2), .val (.int (2 : Int32)), .val (.long y0), .second, .val (.long y1), .second, .val (.long y2), .second, .val (.ref a1), .val (.ref a2), .val (.double got), .second, .val (.long ((0 : Int64) + ((p0.toInt64) * y0))), .second]) rfl) ?_
    show own_R p.tables e below _ T3 (mkF m 83 #[.val (.int ln), .val (.int p0), .val (.int p1), .val (.int p2), .val (.int b01), .val (.int b2), .val (.int (2 : Int32)), .val (.long y0), .second, .val (.long y1), .second, .val (.long y2), .second, .val (.ref a1), .val (.ref a2), .val (.double got), .second, .val (.long ((0 : Int64) + ((p0.toInt64) * y0))), .second] [])
    have R1 : ((0 : Int64) + (p0.toInt64 * y0)).toInt = 0 + M0 := by rw [FP.Core.int64_add (by rw [R0, PL0]; omega) (by rw [R0, PL0]; omega), R0, PL0]
    generalize (0 : Int64) + ((p0.toInt64) * y0) = r1 at R1 ⊢
    show own_R p.tables e below _ T3 (mkF m 83 #[.val (.int ln), .val (.int p0), .val (.int p1), .val (.int p2), .val (.int b01), .val (.int b2), .val (.int (2 : Int32)), .val (.long y0), .second, .val (.long y1), .second, .val (.long y2), .second, .val (.ref a1), .val (.ref a2), .val (.double got), .second, .val (.long r1), .second] [])
    refine own_go (fun _ => XS.iload X3.here hx rfl (hb hby at_83) rfl ) ?_
    show own_R p.tables e below _ T3 (mkF m 85 #[.val (.int ln), .val (.int p0), .val (.int p1), .val (.int p2), .val (.int b01), .val (.int b2), .val (.int (2 : Int32)), .val (.long y0), .second, .val (.long y1), .second, .val (.long y2), .second, .val (.ref a1), .val (.ref a2), .val (.double got), .second, .val (.long r1), .second] [(.int (2 : Int32))])
    refine own_go (fun _ => XS.iconst X3.here hx rfl (hb hby at_85)) ?_
    show own_R p.tables e below _ T3 (mkF m 86 #[.val (.int ln), .val (.int p0), .val (.int p1), .val (.int p2), .val (.int b01), .val (.int b2), .val (.int (2 : Int32)), .val (.long y0), .second, .val (.long y1), .second, .val (.long y2), .second, .val (.ref a1), .val (.ref a2), .val (.double got), .second, .val (.long r1), .second] [(.int (2 : Int32)), (.int (2 : Int32))])
    refine own_go (fun _ => XS.icmpNo X3.here hx rfl (hb hby at_86) rfl (flt (by decide)).1) ?_
    show own_R p.tables e below _ T3 (mkF m 89 #[.val (.int ln), .val (.int p0), .val (.int p1), .val (.int p2), .val (.int b01), .val (.int b2), .val (.int (2 : Int32)), .val (.long y0), .second, .val (.long y1), .second, .val (.long y2), .second, .val (.ref a1), .val (.ref a2), .val (.double got), .second, .val (.long r1), .second] [])
    refine own_go (fun _ => XS.lload X3.here hx rfl (hb hby at_89) rfl ) ?_
    show own_R p.tables e below _ T3 (mkF m 91 #[.val (.int ln), .val (.int p0), .val (.int p1), .val (.int p2), .val (.int b01), .val (.int b2), .val (.int (2 : Int32)), .val (.long y0), .second, .val (.long y1), .second, .val (.long y2), .second, .val (.ref a1), .val (.ref a2), .val (.double got), .second, .val (.long r1), .second] [(.long r1)])
    refine own_go (fun _ => XS.iloadN X3.here hx rfl (hb hby at_91) rfl ) ?_
    show own_R p.tables e below _ T3 (mkF m 92 #[.val (.int ln), .val (.int p0), .val (.int p1), .val (.int p2), .val (.int b01), .val (.int b2), .val (.int (2 : Int32)), .val (.long y0), .second, .val (.long y1), .second, .val (.long y2), .second, .val (.ref a1), .val (.ref a2), .val (.double got), .second, .val (.long r1), .second] [(.int p1), (.long r1)])
    refine own_go (fun _ => XS.i2l X3.here hx rfl (hb hby at_92) rfl) ?_
    show own_R p.tables e below _ T3 (mkF m 93 #[.val (.int ln), .val (.int p0), .val (.int p1), .val (.int p2), .val (.int b01), .val (.int b2), .val (.int (2 : Int32)), .val (.long y0), .second, .val (.long y1), .second, .val (.long y2), .second, .val (.ref a1), .val (.ref a2), .val (.double got), .second, .val (.long r1), .second] [(.long (p1.toInt64)), (.long r1)])
    refine own_go (fun _ => XS.lload X3.here hx rfl (hb hby at_93) rfl ) ?_
    show own_R p.tables e below _ T3 (mkF m 95 #[.val (.int ln), .val (.int p0), .val (.int p1), .val (.int p2), .val (.int b01), .val (.int b2), .val (.int (2 : Int32)), .val (.long y0), .second, .val (.long y1), .second, .val (.long y2), .second, .val (.ref a1), .val (.ref a2), .val (.double got), .second, .val (.long r1), .second] [(.long y1), (.long (p1.toInt64)), (.long r1)])
    refine own_go (fun _ => XS.lmul X3.here hx rfl (hb hby at_95) rfl) ?_
    show own_R p.tables e below _ T3 (mkF m 96 #[.val (.int ln), .val (.int p0), .val (.int p1), .val (.int p2), .val (.int b01), .val (.int b2), .val (.int (2 : Int32)), .val (.long y0), .second, .val (.long y1), .second, .val (.long y2), .second, .val (.ref a1), .val (.ref a2), .val (.double got), .second, .val (.long r1), .second] [(.long ((p1.toInt64) * y1)), (.long r1)])
    refine own_go (fun _ => XS.ladd X3.here hx rfl (hb hby at_96) rfl) ?_
    show own_R p.tables e below _ T3 (mkF m 97 #[.val (.int ln), .val (.int p0), .val (.int p1), .val (.int p2), .val (.int b01), .val (.int b2), .val (.int (2 : Int32)), .val (.long y0), .second, .val (.long y1), .second, .val (.long y2), .second, .val (.ref a1), .val (.ref a2), .val (.double got), .second, .val (.long r1), .second] [(.long (r1 + ((p1.toInt64) * y1)))])
    refine own_go (fun _ => XS.lstore X3.here hx rfl (hb hby at_97) rfl (l' := #[.val (.int ln), .val (.int p0), .val (.int p1), .val (.int p2), .val (.int b01), .val (.int b2), .val (.int (2 : Int32)), .val (.long y0), .second, .val (.long y1), .second, .val (.long y2), .second, .val (.ref a1), .val (.ref a2), .val (.double got), .second, .val (.long (r1 + ((p1.toInt64) * y1))), .second]) rfl) ?_
    show own_R p.tables e below _ T3 (mkF m 99 #[.val (.int ln), .val (.int p0), .val (.int p1), .val (.int p2), .val (.int b01), .val (.int b2), .val (.int (2 : Int32)), .val (.long y0), .second, .val (.long y1), .second, .val (.long y2), .second, .val (.ref a1), .val (.ref a2), .val (.double got), .second, .val (.long (r1 + ((p1.toInt64) * y1))), .second] [])
    have R2 : (r1 + (p1.toInt64 * y1)).toInt = 0 + M0 + M1 := by rw [FP.Core.int64_add (by rw [R1, PL1]; omega) (by rw [R1, PL1]; omega), R1, PL1]
    generalize r1 + ((p1.toInt64) * y1) = r2 at R2 ⊢
    show own_R p.tables e below _ T3 (mkF m 99 #[.val (.int ln), .val (.int p0), .val (.int p1), .val (.int p2), .val (.int b01), .val (.int b2), .val (.int (2 : Int32)), .val (.long y0), .second, .val (.long y1), .second, .val (.long y2), .second, .val (.ref a1), .val (.ref a2), .val (.double got), .second, .val (.long r2), .second] [])
    refine own_go (fun _ => XS.iload X3.here hx rfl (hb hby at_99) rfl ) ?_
    show own_R p.tables e below _ T3 (mkF m 101 #[.val (.int ln), .val (.int p0), .val (.int p1), .val (.int p2), .val (.int b01), .val (.int b2), .val (.int (2 : Int32)), .val (.long y0), .second, .val (.long y1), .second, .val (.long y2), .second, .val (.ref a1), .val (.ref a2), .val (.double got), .second, .val (.long r2), .second] [(.int (2 : Int32))])
    refine own_go (fun _ => XS.iconst X3.here hx rfl (hb hby at_101)) ?_
    show own_R p.tables e below _ T3 (mkF m 102 #[.val (.int ln), .val (.int p0), .val (.int p1), .val (.int p2), .val (.int b01), .val (.int b2), .val (.int (2 : Int32)), .val (.long y0), .second, .val (.long y1), .second, .val (.long y2), .second, .val (.ref a1), .val (.ref a2), .val (.double got), .second, .val (.long r2), .second] [(.int (3 : Int32)), (.int (2 : Int32))])
    refine own_go (fun _ => XS.icmpYes X3.here hx rfl (pc0 := 102) (pc' := 115) rfl (hb hby at_102) rfl (tlt (by decide)).1 (by decide) (by decide)) ?_
    show own_R p.tables e below _ T3 (mkF m 115 #[.val (.int ln), .val (.int p0), .val (.int p1), .val (.int p2), .val (.int b01), .val (.int b2), .val (.int (2 : Int32)), .val (.long y0), .second, .val (.long y1), .second, .val (.long y2), .second, .val (.ref a1), .val (.ref a2), .val (.double got), .second, .val (.long r2), .second] [])
    have RL := own_dh_l2d r2 (by omega)
    rw [R2] at RL
    refine own_go (fun _ => XS.dload X3.here hx rfl (hb hby at_115) rfl ) ?_
    show own_R p.tables e below _ T3 (mkF m 117 #[.val (.int ln), .val (.int p0), .val (.int p1), .val (.int p2), .val (.int b01), .val (.int b2), .val (.int (2 : Int32)), .val (.long y0), .second, .val (.long y1), .second, .val (.long y2), .second, .val (.ref a1), .val (.ref a2), .val (.double got), .second, .val (.long r2), .second] [(.double got)])
    refine own_go (fun _ => XS.lload X3.here hx rfl (hb hby at_117) rfl ) ?_
    show own_R p.tables e below _ T3 (mkF m 119 #[.val (.int ln), .val (.int p0), .val (.int p1), .val (.int p2), .val (.int b01), .val (.int b2), .val (.int (2 : Int32)), .val (.long y0), .second, .val (.long y1), .second, .val (.long y2), .second, .val (.ref a1), .val (.ref a2), .val (.double got), .second, .val (.long r2), .second] [(.long r2), (.double got)])
    refine own_go (fun _ => XS.l2dS X3.here hx rfl (hb hby at_119) rfl rfl) ?_
    show own_R p.tables e below _ T3 (mkF m 120 #[.val (.int ln), .val (.int p0), .val (.int p1), .val (.int p2), .val (.int b01), .val (.int b2), .val (.int (2 : Int32)), .val (.long y0), .second, .val (.long y1), .second, .val (.long y2), .second, .val (.ref a1), .val (.ref a2), .val (.double got), .second, .val (.long r2), .second] [(.double (FP.l2d r2)), (.double got)])
    refine own_go (fun _ => XS.dcmpS X3.here hx rfl (hb hby at_120) rfl rfl) ?_
    show own_R p.tables e below _ T3 (mkF m 121 #[.val (.int ln), .val (.int p0), .val (.int p1), .val (.int p2), .val (.int b01), .val (.int b2), .val (.int (2 : Int32)), .val (.long y0), .second, .val (.long y1), .second, .val (.long y2), .second, .val (.ref a1), .val (.ref a2), .val (.double got), .second, .val (.long r2), .second] [(.int (cmpValue (FP.dcmp got (FP.l2d r2)) .l))])
    refine own_go (fun _ => XS.ifNo X3.here hx rfl (hb hby at_121) rfl ((if0 _ _).trans (teq (own_cmp0 A1 RL (by omega) _)).2)) ?_
    show own_R p.tables e below _ T3 (mkF m 124 #[.val (.int ln), .val (.int p0), .val (.int p1), .val (.int p2), .val (.int b01), .val (.int b2), .val (.int (2 : Int32)), .val (.long y0), .second, .val (.long y1), .second, .val (.long y2), .second, .val (.ref a1), .val (.ref a2), .val (.double got), .second, .val (.long r2), .second] [])
    refine own_go (fun _ => XS.iconst X3.here hx rfl (hb hby at_124)) ?_
    show own_R p.tables e below _ T3 (mkF m 125 #[.val (.int ln), .val (.int p0), .val (.int p1), .val (.int p2), .val (.int b01), .val (.int b2), .val (.int (2 : Int32)), .val (.long y0), .second, .val (.long y1), .second, .val (.long y2), .second, .val (.ref a1), .val (.ref a2), .val (.double got), .second, .val (.long r2), .second] [(.int (1 : Int32))])
    refine own_go (fun _ => XS.goto X3.here hx rfl (pc0 := 125) (pc' := 129) rfl (hb hby at_125) (by decide) (by decide)) ?_
    show own_R p.tables e below _ T3 (mkF m 129 #[.val (.int ln), .val (.int p0), .val (.int p1), .val (.int p2), .val (.int b01), .val (.int b2), .val (.int (2 : Int32)), .val (.long y0), .second, .val (.long y1), .second, .val (.long y2), .second, .val (.ref a1), .val (.ref a2), .val (.double got), .second, .val (.long r2), .second] [(.int (1 : Int32))])
    exact own_end X3 (some (.int (1 : Int32))) (fun h => by rw [hret] at h; cases h) hlk (fun fs hr => retN X3 hx (t := .boolean) hret (by simp) (hb hby at_129) hr) ⟨rfl, N3⟩ (by decide) (by decide)
  · show own_R p.tables e below _ T0 (mkF m 26 #[.val (.int ln), .val (.int p0), .val (.int p1), .val (.int p2), .val (.int b01), .val (.int b2), .val (.int (3 : Int32)), .val (.long y0), .second, .val (.long y1), .second, .val (.long y2), .second, .unset, .unset, .unset, .unset, .unset, .unset] [])
    refine own_go (fun _ => XS.iload X0.here hx rfl (hb hby at_26) rfl ) ?_
    show own_R p.tables e below _ T0 (mkF m 28 #[.val (.int ln), .val (.int p0), .val (.int p1), .val (.int p2), .val (.int b01), .val (.int b2), .val (.int (3 : Int32)), .val (.long y0), .second, .val (.long y1), .second, .val (.long y2), .second, .unset, .unset, .unset, .unset, .unset, .unset] [(.int (3 : Int32))])
    refine own_go (fun _ => XS.iloadN X0.here hx rfl (hb hby at_28) rfl ) ?_
    show own_R p.tables e below _ T0 (mkF m 29 #[.val (.int ln), .val (.int p0), .val (.int p1), .val (.int p2), .val (.int b01), .val (.int b2), .val (.int (3 : Int32)), .val (.long y0), .second, .val (.long y1), .second, .val (.long y2), .second, .unset, .unset, .unset, .unset, .unset, .unset] [(.int p0), (.int (3 : Int32))])
    refine own_go (fun _ => XS.i2dS X0.here hx rfl (hb hby at_29) rfl rfl) ?_
    show own_R p.tables e below _ T0 (mkF m 30 #[.val (.int ln), .val (.int p0), .val (.int p1), .val (.int p2), .val (.int b01), .val (.int b2), .val (.int (3 : Int32)), .val (.long y0), .second, .val (.long y1), .second, .val (.long y2), .second, .unset, .unset, .unset, .unset, .unset, .unset] [(.double (FP.i2d p0)), (.int (3 : Int32))])
    refine own_go (fun _ => XS.iloadN X0.here hx rfl (hb hby at_30) rfl ) ?_
    show own_R p.tables e below _ T0 (mkF m 31 #[.val (.int ln), .val (.int p0), .val (.int p1), .val (.int p2), .val (.int b01), .val (.int b2), .val (.int (3 : Int32)), .val (.long y0), .second, .val (.long y1), .second, .val (.long y2), .second, .unset, .unset, .unset, .unset, .unset, .unset] [(.int p1), (.double (FP.i2d p0)), (.int (3 : Int32))])
    refine own_go (fun _ => XS.i2dS X0.here hx rfl (hb hby at_31) rfl rfl) ?_
    show own_R p.tables e below _ T0 (mkF m 32 #[.val (.int ln), .val (.int p0), .val (.int p1), .val (.int p2), .val (.int b01), .val (.int b2), .val (.int (3 : Int32)), .val (.long y0), .second, .val (.long y1), .second, .val (.long y2), .second, .unset, .unset, .unset, .unset, .unset, .unset] [(.double (FP.i2d p1)), (.double (FP.i2d p0)), (.int (3 : Int32))])
    refine own_go (fun _ => XS.iloadN X0.here hx rfl (hb hby at_32) rfl ) ?_
    show own_R p.tables e below _ T0 (mkF m 33 #[.val (.int ln), .val (.int p0), .val (.int p1), .val (.int p2), .val (.int b01), .val (.int b2), .val (.int (3 : Int32)), .val (.long y0), .second, .val (.long y1), .second, .val (.long y2), .second, .unset, .unset, .unset, .unset, .unset, .unset] [(.int p2), (.double (FP.i2d p1)), (.double (FP.i2d p0)), (.int (3 : Int32))])
    refine own_go (fun _ => XS.i2dS X0.here hx rfl (hb hby at_33) rfl rfl) ?_
    show own_R p.tables e below _ T0 (mkF m 34 #[.val (.int ln), .val (.int p0), .val (.int p1), .val (.int p2), .val (.int b01), .val (.int b2), .val (.int (3 : Int32)), .val (.long y0), .second, .val (.long y1), .second, .val (.long y2), .second, .unset, .unset, .unset, .unset, .unset, .unset] [(.double (FP.i2d p2)), (.double (FP.i2d p1)), (.double (FP.i2d p0)), (.int (3 : Int32))])
    obtain ⟨v1, T1, L1, X1, Q1, st1⟩ := own_callS X0 hx hZ hown (y := (⟨"com/example/pass2/pass2/util/VectorsDotPinLaw", "vec", "(IDDD)[D"⟩ : MethodName)) (hw _ (List.mem_of_getElem? (i := 0) rfl)) (hw _ (List.mem_of_getElem? (i := 1) rfl)) (hw _ (List.mem_of_getElem? (i := 2) rfl)) (hw _ (List.mem_of_getElem? (i := 3) rfl)) (by decide) (rmVec3 l Z a0 hw [] h0 n0 (FP.i2d p0) (FP.i2d p1) (FP.i2d p2) Z0) (W := 0) (g := (mkF m 34 #[.val (.int ln), .val (.int p0), .val (.int p1), .val (.int p2), .val (.int b01), .val (.int b2), .val (.int (3 : Int32)), .val (.long y0), .second, .val (.long y1), .second, .val (.long y2), .second, .unset, .unset, .unset, .unset, .unset, .unset] [(.double (FP.i2d p2)), (.double (FP.i2d p1)), (.double (FP.i2d p0)), (.int (3 : Int32))])) rfl (by rw [hml]; rfl) (argsL := [(.int (3 : Int32)), (.double (FP.i2d p0)), (.double (FP.i2d p1)), (.double (FP.i2d p2))]) (rest := []) (lenOf pd__IDDD__D rfl) rfl rfl (by show 2 * 0 + _ ≤ _; exact Nat.le_of_eq rfl) (hb hby at_34) e0 (by decide) (by decide) (by decide) (by decide)
    obtain ⟨a1, k1, rfl, N1q, K1, q1, V1⟩ := Q1
    have N1 := Fr.app N0 N1q
    refine own_go st1 ?_
    show own_R p.tables e below _ T1 (mkF m 37 #[.val (.int ln), .val (.int p0), .val (.int p1), .val (.int p2), .val (.int b01), .val (.int b2), .val (.int (3 : Int32)), .val (.long y0), .second, .val (.long y1), .second, .val (.long y2), .second, .unset, .unset, .unset, .unset, .unset, .unset] [(.ref a1)])
    refine own_go (fun _ => XS.astore X1.here hx rfl (hb hby at_37) rfl rfl (l' := #[.val (.int ln), .val (.int p0), .val (.int p1), .val (.int p2), .val (.int b01), .val (.int b2), .val (.int (3 : Int32)), .val (.long y0), .second, .val (.long y1), .second, .val (.long y2), .second, .val (.ref a1), .unset, .unset, .unset, .unset, .unset]) rfl) ?_
    show own_R p.tables e below _ T1 (mkF m 39 #[.val (.int ln), .val (.int p0), .val (.int p1), .val (.int p2), .val (.int b01), .val (.int b2), .val (.int (3 : Int32)), .val (.long y0), .second, .val (.long y1), .second, .val (.long y2), .second, .val (.ref a1), .unset, .unset, .unset, .unset, .unset] [])
    refine own_go (fun _ => XS.iload X1.here hx rfl (hb hby at_39) rfl ) ?_
    show own_R p.tables e below _ T1 (mkF m 41 #[.val (.int ln), .val (.int p0), .val (.int p1), .val (.int p2), .val (.int b01), .val (.int b2), .val (.int (3 : Int32)), .val (.long y0), .second, .val (.long y1), .second, .val (.long y2), .second, .val (.ref a1), .unset, .unset, .unset, .unset, .unset] [(.int (3 : Int32))])
    refine own_go (fun _ => XS.lload X1.here hx rfl (hb hby at_41) rfl ) ?_
    show own_R p.tables e below _ T1 (mkF m 43 #[.val (.int ln), .val (.int p0), .val (.int p1), .val (.int p2), .val (.int b01), .val (.int b2), .val (.int (3 : Int32)), .val (.long y0), .second, .val (.long y1), .second, .val (.long y2), .second, .val (.ref a1), .unset, .unset, .unset, .unset, .unset] [(.long y0), (.int (3 : Int32))])
    refine own_go (fun _ => XS.l2dS X1.here hx rfl (hb hby at_43) rfl rfl) ?_
    show own_R p.tables e below _ T1 (mkF m 44 #[.val (.int ln), .val (.int p0), .val (.int p1), .val (.int p2), .val (.int b01), .val (.int b2), .val (.int (3 : Int32)), .val (.long y0), .second, .val (.long y1), .second, .val (.long y2), .second, .val (.ref a1), .unset, .unset, .unset, .unset, .unset] [(.double (FP.l2d y0)), (.int (3 : Int32))])
    refine own_go (fun _ => XS.lload X1.here hx rfl (hb hby at_44) rfl ) ?_
    show own_R p.tables e below _ T1 (mkF m 46 #[.val (.int ln), .val (.int p0), .val (.int p1), .val (.int p2), .val (.int b01), .val (.int b2), .val (.int (3 : Int32)), .val (.long y0), .second, .val (.long y1), .second, .val (.long y2), .second, .val (.ref a1), .unset, .unset, .unset, .unset, .unset] [(.long y1), (.double (FP.l2d y0)), (.int (3 : Int32))])
    refine own_go (fun _ => XS.l2dS X1.here hx rfl (hb hby at_46) rfl rfl) ?_
    show own_R p.tables e below _ T1 (mkF m 47 #[.val (.int ln), .val (.int p0), .val (.int p1), .val (.int p2), .val (.int b01), .val (.int b2), .val (.int (3 : Int32)), .val (.long y0), .second, .val (.long y1), .second, .val (.long y2), .second, .val (.ref a1), .unset, .unset, .unset, .unset, .unset] [(.double (FP.l2d y1)), (.double (FP.l2d y0)), (.int (3 : Int32))])
    refine own_go (fun _ => XS.lload X1.here hx rfl (hb hby at_47) rfl ) ?_
    show own_R p.tables e below _ T1 (mkF m 49 #[.val (.int ln), .val (.int p0), .val (.int p1), .val (.int p2), .val (.int b01), .val (.int b2), .val (.int (3 : Int32)), .val (.long y0), .second, .val (.long y1), .second, .val (.long y2), .second, .val (.ref a1), .unset, .unset, .unset, .unset, .unset] [(.long y2), (.double (FP.l2d y1)), (.double (FP.l2d y0)), (.int (3 : Int32))])
    refine own_go (fun _ => XS.l2dS X1.here hx rfl (hb hby at_49) rfl rfl) ?_
    show own_R p.tables e below _ T1 (mkF m 50 #[.val (.int ln), .val (.int p0), .val (.int p1), .val (.int p2), .val (.int b01), .val (.int b2), .val (.int (3 : Int32)), .val (.long y0), .second, .val (.long y1), .second, .val (.long y2), .second, .val (.ref a1), .unset, .unset, .unset, .unset, .unset] [(.double (FP.l2d y2)), (.double (FP.l2d y1)), (.double (FP.l2d y0)), (.int (3 : Int32))])
    obtain ⟨v2, T2, L2, X2, Q2, st2⟩ := own_callS X1 hx hZ hown (y := (⟨"com/example/pass2/pass2/util/VectorsDotPinLaw", "vec", "(IDDD)[D"⟩ : MethodName)) (hw _ (List.mem_of_getElem? (i := 0) rfl)) (hw _ (List.mem_of_getElem? (i := 1) rfl)) (hw _ (List.mem_of_getElem? (i := 2) rfl)) (hw _ (List.mem_of_getElem? (i := 3) rfl)) (by decide) (rmVec3 l Z a0 hw [] T1.heap n0 (FP.l2d y0) (FP.l2d y1) (FP.l2d y2) (Nat.le_trans Z0 K1.1)) (W := 0) (g := (mkF m 50 #[.val (.int ln), .val (.int p0), .val (.int p1), .val (.int p2), .val (.int b01), .val (.int b2), .val (.int (3 : Int32)), .val (.long y0), .second, .val (.long y1), .second, .val (.long y2), .second, .val (.ref a1), .unset, .unset, .unset, .unset, .unset] [(.double (FP.l2d y2)), (.double (FP.l2d y1)), (.double (FP.l2d y0)), (.int (3 : Int32))])) rfl (by rw [hml]; rfl) (argsL := [(.int (3 : Int32)), (.double (FP.l2d y0)), (.double (FP.l2d y1)), (.double (FP.l2d y2))]) (rest := []) (lenOf pd__IDDD__D rfl) rfl rfl (by show 2 * 0 + _ ≤ _; exact Nat.le_of_eq rfl) (hb hby at_50) rfl (by decide) (by decide) (by decide) (by decide)
    obtain ⟨a2, k2, rfl, N2q, K2, q2, V2⟩ := Q2
    have N2 := Fr.app N1 N2q
    have V1b := V1.keep K2 nin0
    refine own_go st2 ?_
    show own_R p.tables e below _ T2 (mkF m 53 #[.val (.int ln), .val (.int p0), .val (.int p1), .val (.int p2), .val (.int b01), .val (.int b2), .val (.int (3 : Int32)), .val (.long y0), .second, .val (.long y1), .second, .val (.long y2), .second, .val (.ref a1), .unset, .unset, .unset, .unset, .unset] [(.ref a2)])
    refine own_go (fun _ => XS.astore X2.here hx rfl (hb hby at_53) rfl rfl (l' := #[.val (.int ln), .val (.int p0), .val (.int p1), .val (.int p2), .val (.int b01), .val (.int b2), .val (.int (3 : Int32)), .val (.long y0), .second, .val (.long y1), .second, .val (.long y2), .second, .val (.ref a1), .val (.ref a2), .unset, .unset, .unset, .unset]) rfl) ?_
    show own_R p.tables e below _ T2 (mkF m 55 #[.val (.int ln), .val (.int p0), .val (.int p1), .val (.int p2), .val (.int b01), .val (.int b2), .val (.int (3 : Int32)), .val (.long y0), .second, .val (.long y1), .second, .val (.long y2), .second, .val (.ref a1), .val (.ref a2), .unset, .unset, .unset, .unset] [])
    refine own_go (fun _ => XS.aload X2.here hx rfl (hb hby at_55) rfl rfl) ?_
    show own_R p.tables e below _ T2 (mkF m 57 #[.val (.int ln), .val (.int p0), .val (.int p1), .val (.int p2), .val (.int b01), .val (.int b2), .val (.int (3 : Int32)), .val (.long y0), .second, .val (.long y1), .second, .val (.long y2), .second, .val (.ref a1), .val (.ref a2), .unset, .unset, .unset, .unset] [(.ref a1)])
    refine own_go (fun _ => XS.aload X2.here hx rfl (hb hby at_57) rfl rfl) ?_
    show own_R p.tables e below _ T2 (mkF m 59 #[.val (.int ln), .val (.int p0), .val (.int p1), .val (.int p2), .val (.int b01), .val (.int b2), .val (.int (3 : Int32)), .val (.long y0), .second, .val (.long y1), .second, .val (.long y2), .second, .val (.ref a1), .val (.ref a2), .unset, .unset, .unset, .unset] [(.ref a2), (.ref a1)])
    have A0 := own_dh_add own_dz D0 (by omega)
    have A1 := own_dh_add A0 D1 (by omega)
    have A2 := own_dh_add A1 D2 (by omega)
    obtain ⟨v3, T3, L3, X3, Q3, st3⟩ := own_callS X2 hx hZ hown (y := (⟨"com/example/pass2/pass2/util/Vectors", "dot", "([D[D)D"⟩ : MethodName)) (hw _ (List.mem_of_getElem? (i := 5) rfl)) (hw _ (List.mem_of_getElem? (i := 6) rfl)) (hw _ (List.mem_of_getElem? (i := 7) rfl)) (hw _ (List.mem_of_getElem? (i := 8) rfl)) (by decide) (rmDot3 l Z a0 hw [] T2.heap n0 a1 a2 (FP.i2d p0) (FP.i2d p1) (FP.i2d p2) (FP.l2d y0) (FP.l2d y1) (FP.l2d y2) V1b V2 D0.nn A0.nn D1.nn A1.nn D2.nn A2.nn) (W := 0) (g := (mkF m 59 #[.val (.int ln), .val (.int p0), .val (.int p1), .val (.int p2), .val (.int b01), .val (.int b2), .val (.int (3 : Int32)), .val (.long y0), .second, .val (.long y1), .second, .val (.long y2), .second, .val (.ref a1), .val (.ref a2), .unset, .unset, .unset, .unset] [(.ref a2), (.ref a1)])) rfl (by rw [hml]; rfl) (argsL := [(.ref a1), (.ref a2)]) (rest := []) (lenOf pd___D_D_D rfl) rfl rfl (by show 2 * 0 + _ ≤ _; exact Nat.le_of_eq rfl) (hb hby at_59) rfl (by decide) (by decide) (by decide) (by decide)
    obtain ⟨rfl, N3q, e3⟩ := Q3
    have N3 := Fr.app N2 N3q
    refine own_go st3 ?_
    show own_R p.tables e below _ T3 (mkF m 62 #[.val (.int ln), .val (.int p0), .val (.int p1), .val (.int p2), .val (.int b01), .val (.int b2), .val (.int (3 : Int32)), .val (.long y0), .second, .val (.long y1), .second, .val (.long y2), .second, .val (.ref a1), .val (.ref a2), .unset, .unset, .unset, .unset] [(.double (FP.dadd (FP.dadd (FP.dadd FP.dconst0 (FP.dmul (FP.i2d p0) (FP.l2d y0))) (FP.dmul (FP.i2d p1) (FP.l2d y1))) (FP.dmul (FP.i2d p2) (FP.l2d y2))))])
    generalize FP.dadd (FP.dadd (FP.dadd FP.dconst0 (FP.dmul (FP.i2d p0) (FP.l2d y0))) (FP.dmul (FP.i2d p1) (FP.l2d y1))) (FP.dmul (FP.i2d p2) (FP.l2d y2)) = got at A2 ⊢
    show own_R p.tables e below _ T3 (mkF m 62 #[.val (.int ln), .val (.int p0), .val (.int p1), .val (.int p2), .val (.int b01), .val (.int b2), .val (.int (3 : Int32)), .val (.long y0), .second, .val (.long y1), .second, .val (.long y2), .second, .val (.ref a1), .val (.ref a2), .unset, .unset, .unset, .unset] [(.double got)])
    have R0 : (0 : Int64).toInt = 0 := by decide
    refine own_go (fun _ => XS.dstore X3.here hx rfl (hb hby at_62) rfl (l' := #[.val (.int ln), .val (.int p0), .val (.int p1), .val (.int p2), .val (.int b01), .val (.int b2), .val (.int (3 : Int32)), .val (.long y0), .second, .val (.long y1), .second, .val (.long y2), .second, .val (.ref a1), .val (.ref a2), .val (.double got), .second, .unset, .unset]) rfl) ?_
    show own_R p.tables e below _ T3 (mkF m 64 #[.val (.int ln), .val (.int p0), .val (.int p1), .val (.int p2), .val (.int b01), .val (.int b2), .val (.int (3 : Int32)), .val (.long y0), .second, .val (.long y1), .second, .val (.long y2), .second, .val (.ref a1), .val (.ref a2), .val (.double got), .second, .unset, .unset] [])
    refine own_go (fun _ => XS.lconst X3.here hx rfl (hb hby at_64)) ?_
    show own_R p.tables e below _ T3 (mkF m 65 #[.val (.int ln), .val (.int p0), .val (.int p1), .val (.int p2), .val (.int b01), .val (.int b2), .val (.int (3 : Int32)), .val (.long y0), .second, .val (.long y1), .second, .val (.long y2), .second, .val (.ref a1), .val (.ref a2), .val (.double got), .second, .unset, .unset] [(.long (0 : Int64))])
    refine own_go (fun _ => XS.lstore X3.here hx rfl (hb hby at_65) rfl (l' := #[.val (.int ln), .val (.int p0), .val (.int p1), .val (.int p2), .val (.int b01), .val (.int b2), .val (.int (3 : Int32)), .val (.long y0), .second, .val (.long y1), .second, .val (.long y2), .second, .val (.ref a1), .val (.ref a2), .val (.double got), .second, .val (.long (0 : Int64)), .second]) rfl) ?_
    show own_R p.tables e below _ T3 (mkF m 67 #[.val (.int ln), .val (.int p0), .val (.int p1), .val (.int p2), .val (.int b01), .val (.int b2), .val (.int (3 : Int32)), .val (.long y0), .second, .val (.long y1), .second, .val (.long y2), .second, .val (.ref a1), .val (.ref a2), .val (.double got), .second, .val (.long (0 : Int64)), .second] [])
    refine own_go (fun _ => XS.iload X3.here hx rfl (hb hby at_67) rfl ) ?_
    show own_R p.tables e below _ T3 (mkF m 69 #[.val (.int ln), .val (.int p0), .val (.int p1), .val (.int p2), .val (.int b01), .val (.int b2), .val (.int (3 : Int32)), .val (.long y0), .second, .val (.long y1), .second, .val (.long y2), .second, .val (.ref a1), .val (.ref a2), .val (.double got), .second, .val (.long (0 : Int64)), .second] [(.int (3 : Int32))])
    refine own_go (fun _ => XS.iconst X3.here hx rfl (hb hby at_69)) ?_
    show own_R p.tables e below _ T3 (mkF m 70 #[.val (.int ln), .val (.int p0), .val (.int p1), .val (.int p2), .val (.int b01), .val (.int b2), .val (.int (3 : Int32)), .val (.long y0), .second, .val (.long y1), .second, .val (.long y2), .second, .val (.ref a1), .val (.ref a2), .val (.double got), .second, .val (.long (0 : Int64)), .second] [(.int (1 : Int32)), (.int (3 : Int32))])
    refine own_go (fun _ => XS.icmpNo X3.here hx rfl (hb hby at_70) rfl (flt (by decide)).1) ?_
    show own_R p.tables e below _ T3 (mkF m 73 #[.val (.int ln), .val (.int p0), .val (.int p1), .val (.int p2), .val (.int b01), .val (.int b2), .val (.int (3 : Int32)), .val (.long y0), .second, .val (.long y1), .second, .val (.long y2), .second, .val (.ref a1), .val (.ref a2), .val (.double got), .second, .val (.long (0 : Int64)), .second] [])
    refine own_go (fun _ => XS.lload X3.here hx rfl (hb hby at_73) rfl ) ?_
    show own_R p.tables e below _ T3 (mkF m 75 #[.val (.int ln), .val (.int p0), .val (.int p1), .val (.int p2), .val (.int b01), .val (.int b2), .val (.int (3 : Int32)), .val (.long y0), .second, .val (.long y1), .second, .val (.long y2), .second, .val (.ref a1), .val (.ref a2), .val (.double got), .second, .val (.long (0 : Int64)), .second] [(.long (0 : Int64))])
    refine own_go (fun _ => XS.iloadN X3.here hx rfl (hb hby at_75) rfl ) ?_
    show own_R p.tables e below _ T3 (mkF m 76 #[.val (.int ln), .val (.int p0), .val (.int p1), .val (.int p2), .val (.int b01), .val (.int b2), .val (.int (3 : Int32)), .val (.long y0), .second, .val (.long y1), .second, .val (.long y2), .second, .val (.ref a1), .val (.ref a2), .val (.double got), .second, .val (.long (0 : Int64)), .second] [(.int p0), (.long (0 : Int64))])
    refine own_go (fun _ => XS.i2l X3.here hx rfl (hb hby at_76) rfl) ?_
    show own_R p.tables e below _ T3 (mkF m 77 #[.val (.int ln), .val (.int p0), .val (.int p1), .val (.int p2), .val (.int b01), .val (.int b2), .val (.int (3 : Int32)), .val (.long y0), .second, .val (.long y1), .second, .val (.long y2), .second, .val (.ref a1), .val (.ref a2), .val (.double got), .second, .val (.long (0 : Int64)), .second] [(.long (p0.toInt64)), (.long (0 : Int64))])
    refine own_go (fun _ => XS.lload X3.here hx rfl (hb hby at_77) rfl ) ?_
    show own_R p.tables e below _ T3 (mkF m 79 #[.val (.int ln), .val (.int p0), .val (.int p1), .val (.int p2), .val (.int b01), .val (.int b2), .val (.int (3 : Int32)), .val (.long y0), .second, .val (.long y1), .second, .val (.long y2), .second, .val (.ref a1), .val (.ref a2), .val (.double got), .second, .val (.long (0 : Int64)), .second] [(.long y0), (.long (p0.toInt64)), (.long (0 : Int64))])
    refine own_go (fun _ => XS.lmul X3.here hx rfl (hb hby at_79) rfl) ?_
    show own_R p.tables e below _ T3 (mkF m 80 #[.val (.int ln), .val (.int p0), .val (.int p1), .val (.int p2), .val (.int b01), .val (.int b2), .val (.int (3 : Int32)), .val (.long y0), .second, .val (.long y1), .second, .val (.long y2), .second, .val (.ref a1), .val (.ref a2), .val (.double got), .second, .val (.long (0 : Int64)), .second] [(.long ((p0.toInt64) * y0)), (.long (0 : Int64))])
    refine own_go (fun _ => XS.ladd X3.here hx rfl (hb hby at_80) rfl) ?_
    show own_R p.tables e below _ T3 (mkF m 81 #[.val (.int ln), .val (.int p0), .val (.int p1), .val (.int p2), .val (.int b01), .val (.int b2), .val (.int (3 : Int32)), .val (.long y0), .second, .val (.long y1), .second, .val (.long y2), .second, .val (.ref a1), .val (.ref a2), .val (.double got), .second, .val (.long (0 : Int64)), .second] [(.long ((0 : Int64) + ((p0.toInt64) * y0)))])
    refine own_go (fun _ => XS.lstore X3.here hx rfl (hb hby at_81) rfl (l' := #[.val (.int ln), .val (.int p0), .val (.int p1), .val (.int p2), .val (.int b01), .val (.int b2), .val (.int (3 : Int32)), .val (.long y0), .second, .val (.long y1), .second, .val (.long y2), .second, .val (.ref a1), .val (.ref a2), .val (.double got), .second, .val (.long ((0 : Int64) + ((p0.toInt64) * y0))), .second]) rfl) ?_
    show own_R p.tables e below _ T3 (mkF m 83 #[.val (.int ln), .val (.int p0), .val (.int p1), .val (.int p2), .val (.int b01), .val (.int b2), .val (.int (3 : Int32)), .val (.long y0), .second, .val (.long y1), .second, .val (.long y2), .second, .val (.ref a1), .val (.ref a2), .val (.double got), .second, .val (.long ((0 : Int64) + ((p0.toInt64) * y0))), .second] [])
    have R1 : ((0 : Int64) + (p0.toInt64 * y0)).toInt = 0 + M0 := by rw [FP.Core.int64_add (by rw [R0, PL0]; omega) (by rw [R0, PL0]; omega), R0, PL0]
    generalize (0 : Int64) + ((p0.toInt64) * y0) = r1 at R1 ⊢
    show own_R p.tables e below _ T3 (mkF m 83 #[.val (.int ln), .val (.int p0), .val (.int p1), .val (.int p2), .val (.int b01), .val (.int b2), .val (.int (3 : Int32)), .val (.long y0), .second, .val (.long y1), .second, .val (.long y2), .second, .val (.ref a1), .val (.ref a2), .val (.double got), .second, .val (.long r1), .second] [])
    refine own_go (fun _ => XS.iload X3.here hx rfl (hb hby at_83) rfl ) ?_
    show own_R p.tables e below _ T3 (mkF m 85 #[.val (.int ln), .val (.int p0), .val (.int p1), .val (.int p2), .val (.int b01), .val (.int b2), .val (.int (3 : Int32)), .val (.long y0), .second, .val (.long y1), .second, .val (.long y2), .second, .val (.ref a1), .val (.ref a2), .val (.double got), .second, .val (.long r1), .second] [(.int (3 : Int32))])
    refine own_go (fun _ => XS.iconst X3.here hx rfl (hb hby at_85)) ?_
    show own_R p.tables e below _ T3 (mkF m 86 #[.val (.int ln), .val (.int p0), .val (.int p1), .val (.int p2), .val (.int b01), .val (.int b2), .val (.int (3 : Int32)), .val (.long y0), .second, .val (.long y1), .second, .val (.long y2), .second, .val (.ref a1), .val (.ref a2), .val (.double got), .second, .val (.long r1), .second] [(.int (2 : Int32)), (.int (3 : Int32))])
    refine own_go (fun _ => XS.icmpNo X3.here hx rfl (hb hby at_86) rfl (flt (by decide)).1) ?_
    show own_R p.tables e below _ T3 (mkF m 89 #[.val (.int ln), .val (.int p0), .val (.int p1), .val (.int p2), .val (.int b01), .val (.int b2), .val (.int (3 : Int32)), .val (.long y0), .second, .val (.long y1), .second, .val (.long y2), .second, .val (.ref a1), .val (.ref a2), .val (.double got), .second, .val (.long r1), .second] [])
    refine own_go (fun _ => XS.lload X3.here hx rfl (hb hby at_89) rfl ) ?_
    show own_R p.tables e below _ T3 (mkF m 91 #[.val (.int ln), .val (.int p0), .val (.int p1), .val (.int p2), .val (.int b01), .val (.int b2), .val (.int (3 : Int32)), .val (.long y0), .second, .val (.long y1), .second, .val (.long y2), .second, .val (.ref a1), .val (.ref a2), .val (.double got), .second, .val (.long r1), .second] [(.long r1)])
    refine own_go (fun _ => XS.iloadN X3.here hx rfl (hb hby at_91) rfl ) ?_
    show own_R p.tables e below _ T3 (mkF m 92 #[.val (.int ln), .val (.int p0), .val (.int p1), .val (.int p2), .val (.int b01), .val (.int b2), .val (.int (3 : Int32)), .val (.long y0), .second, .val (.long y1), .second, .val (.long y2), .second, .val (.ref a1), .val (.ref a2), .val (.double got), .second, .val (.long r1), .second] [(.int p1), (.long r1)])
    refine own_go (fun _ => XS.i2l X3.here hx rfl (hb hby at_92) rfl) ?_
    show own_R p.tables e below _ T3 (mkF m 93 #[.val (.int ln), .val (.int p0), .val (.int p1), .val (.int p2), .val (.int b01), .val (.int b2), .val (.int (3 : Int32)), .val (.long y0), .second, .val (.long y1), .second, .val (.long y2), .second, .val (.ref a1), .val (.ref a2), .val (.double got), .second, .val (.long r1), .second] [(.long (p1.toInt64)), (.long r1)])
    refine own_go (fun _ => XS.lload X3.here hx rfl (hb hby at_93) rfl ) ?_
    show own_R p.tables e below _ T3 (mkF m 95 #[.val (.int ln), .val (.int p0), .val (.int p1), .val (.int p2), .val (.int b01), .val (.int b2), .val (.int (3 : Int32)), .val (.long y0), .second, .val (.long y1), .second, .val (.long y2), .second, .val (.ref a1), .val (.ref a2), .val (.double got), .second, .val (.long r1), .second] [(.long y1), (.long (p1.toInt64)), (.long r1)])
    refine own_go (fun _ => XS.lmul X3.here hx rfl (hb hby at_95) rfl) ?_
    show own_R p.tables e below _ T3 (mkF m 96 #[.val (.int ln), .val (.int p0), .val (.int p1), .val (.int p2), .val (.int b01), .val (.int b2), .val (.int (3 : Int32)), .val (.long y0), .second, .val (.long y1), .second, .val (.long y2), .second, .val (.ref a1), .val (.ref a2), .val (.double got), .second, .val (.long r1), .second] [(.long ((p1.toInt64) * y1)), (.long r1)])
    refine own_go (fun _ => XS.ladd X3.here hx rfl (hb hby at_96) rfl) ?_
    show own_R p.tables e below _ T3 (mkF m 97 #[.val (.int ln), .val (.int p0), .val (.int p1), .val (.int p2), .val (.int b01), .val (.int b2), .val (.int (3 : Int32)), .val (.long y0), .second, .val (.long y1), .second, .val (.long y2), .second, .val (.ref a1), .val (.ref a2), .val (.double got), .second, .val (.long r1), .second] [(.long (r1 + ((p1.toInt64) * y1)))])
    refine own_go (fun _ => XS.lstore X3.here hx rfl (hb hby at_97) rfl (l' := #[.val (.int ln), .val (.int p0), .val (.int p1), .val (.int p2), .val (.int b01), .val (.int b2), .val (.int (3 : Int32)), .val (.long y0), .second, .val (.long y1), .second, .val (.long y2), .second, .val (.ref a1), .val (.ref a2), .val (.double got), .second, .val (.long (r1 + ((p1.toInt64) * y1))), .second]) rfl) ?_
    show own_R p.tables e below _ T3 (mkF m 99 #[.val (.int ln), .val (.int p0), .val (.int p1), .val (.int p2), .val (.int b01), .val (.int b2), .val (.int (3 : Int32)), .val (.long y0), .second, .val (.long y1), .second, .val (.long y2), .second, .val (.ref a1), .val (.ref a2), .val (.double got), .second, .val (.long (r1 + ((p1.toInt64) * y1))), .second] [])
    have R2 : (r1 + (p1.toInt64 * y1)).toInt = 0 + M0 + M1 := by rw [FP.Core.int64_add (by rw [R1, PL1]; omega) (by rw [R1, PL1]; omega), R1, PL1]
    generalize r1 + ((p1.toInt64) * y1) = r2 at R2 ⊢
    show own_R p.tables e below _ T3 (mkF m 99 #[.val (.int ln), .val (.int p0), .val (.int p1), .val (.int p2), .val (.int b01), .val (.int b2), .val (.int (3 : Int32)), .val (.long y0), .second, .val (.long y1), .second, .val (.long y2), .second, .val (.ref a1), .val (.ref a2), .val (.double got), .second, .val (.long r2), .second] [])
    refine own_go (fun _ => XS.iload X3.here hx rfl (hb hby at_99) rfl ) ?_
    show own_R p.tables e below _ T3 (mkF m 101 #[.val (.int ln), .val (.int p0), .val (.int p1), .val (.int p2), .val (.int b01), .val (.int b2), .val (.int (3 : Int32)), .val (.long y0), .second, .val (.long y1), .second, .val (.long y2), .second, .val (.ref a1), .val (.ref a2), .val (.double got), .second, .val (.long r2), .second] [(.int (3 : Int32))])
    refine own_go (fun _ => XS.iconst X3.here hx rfl (hb hby at_101)) ?_
    show own_R p.tables e below _ T3 (mkF m 102 #[.val (.int ln), .val (.int p0), .val (.int p1), .val (.int p2), .val (.int b01), .val (.int b2), .val (.int (3 : Int32)), .val (.long y0), .second, .val (.long y1), .second, .val (.long y2), .second, .val (.ref a1), .val (.ref a2), .val (.double got), .second, .val (.long r2), .second] [(.int (3 : Int32)), (.int (3 : Int32))])
    refine own_go (fun _ => XS.icmpNo X3.here hx rfl (hb hby at_102) rfl (flt (by decide)).1) ?_
    show own_R p.tables e below _ T3 (mkF m 105 #[.val (.int ln), .val (.int p0), .val (.int p1), .val (.int p2), .val (.int b01), .val (.int b2), .val (.int (3 : Int32)), .val (.long y0), .second, .val (.long y1), .second, .val (.long y2), .second, .val (.ref a1), .val (.ref a2), .val (.double got), .second, .val (.long r2), .second] [])
    refine own_go (fun _ => XS.lload X3.here hx rfl (hb hby at_105) rfl ) ?_
    show own_R p.tables e below _ T3 (mkF m 107 #[.val (.int ln), .val (.int p0), .val (.int p1), .val (.int p2), .val (.int b01), .val (.int b2), .val (.int (3 : Int32)), .val (.long y0), .second, .val (.long y1), .second, .val (.long y2), .second, .val (.ref a1), .val (.ref a2), .val (.double got), .second, .val (.long r2), .second] [(.long r2)])
    refine own_go (fun _ => XS.iloadN X3.here hx rfl (hb hby at_107) rfl ) ?_
    show own_R p.tables e below _ T3 (mkF m 108 #[.val (.int ln), .val (.int p0), .val (.int p1), .val (.int p2), .val (.int b01), .val (.int b2), .val (.int (3 : Int32)), .val (.long y0), .second, .val (.long y1), .second, .val (.long y2), .second, .val (.ref a1), .val (.ref a2), .val (.double got), .second, .val (.long r2), .second] [(.int p2), (.long r2)])
    refine own_go (fun _ => XS.i2l X3.here hx rfl (hb hby at_108) rfl) ?_
    show own_R p.tables e below _ T3 (mkF m 109 #[.val (.int ln), .val (.int p0), .val (.int p1), .val (.int p2), .val (.int b01), .val (.int b2), .val (.int (3 : Int32)), .val (.long y0), .second, .val (.long y1), .second, .val (.long y2), .second, .val (.ref a1), .val (.ref a2), .val (.double got), .second, .val (.long r2), .second] [(.long (p2.toInt64)), (.long r2)])
    refine own_go (fun _ => XS.lload X3.here hx rfl (hb hby at_109) rfl ) ?_
    show own_R p.tables e below _ T3 (mkF m 111 #[.val (.int ln), .val (.int p0), .val (.int p1), .val (.int p2), .val (.int b01), .val (.int b2), .val (.int (3 : Int32)), .val (.long y0), .second, .val (.long y1), .second, .val (.long y2), .second, .val (.ref a1), .val (.ref a2), .val (.double got), .second, .val (.long r2), .second] [(.long y2), (.long (p2.toInt64)), (.long r2)])
    refine own_go (fun _ => XS.lmul X3.here hx rfl (hb hby at_111) rfl) ?_
    show own_R p.tables e below _ T3 (mkF m 112 #[.val (.int ln), .val (.int p0), .val (.int p1), .val (.int p2), .val (.int b01), .val (.int b2), .val (.int (3 : Int32)), .val (.long y0), .second, .val (.long y1), .second, .val (.long y2), .second, .val (.ref a1), .val (.ref a2), .val (.double got), .second, .val (.long r2), .second] [(.long ((p2.toInt64) * y2)), (.long r2)])
    refine own_go (fun _ => XS.ladd X3.here hx rfl (hb hby at_112) rfl) ?_
    show own_R p.tables e below _ T3 (mkF m 113 #[.val (.int ln), .val (.int p0), .val (.int p1), .val (.int p2), .val (.int b01), .val (.int b2), .val (.int (3 : Int32)), .val (.long y0), .second, .val (.long y1), .second, .val (.long y2), .second, .val (.ref a1), .val (.ref a2), .val (.double got), .second, .val (.long r2), .second] [(.long (r2 + ((p2.toInt64) * y2)))])
    refine own_go (fun _ => XS.lstore X3.here hx rfl (hb hby at_113) rfl (l' := #[.val (.int ln), .val (.int p0), .val (.int p1), .val (.int p2), .val (.int b01), .val (.int b2), .val (.int (3 : Int32)), .val (.long y0), .second, .val (.long y1), .second, .val (.long y2), .second, .val (.ref a1), .val (.ref a2), .val (.double got), .second, .val (.long (r2 + ((p2.toInt64) * y2))), .second]) rfl) ?_
    show own_R p.tables e below _ T3 (mkF m 115 #[.val (.int ln), .val (.int p0), .val (.int p1), .val (.int p2), .val (.int b01), .val (.int b2), .val (.int (3 : Int32)), .val (.long y0), .second, .val (.long y1), .second, .val (.long y2), .second, .val (.ref a1), .val (.ref a2), .val (.double got), .second, .val (.long (r2 + ((p2.toInt64) * y2))), .second] [])
    have R3 : (r2 + (p2.toInt64 * y2)).toInt = 0 + M0 + M1 + M2 := by rw [FP.Core.int64_add (by rw [R2, PL2]; omega) (by rw [R2, PL2]; omega), R2, PL2]
    generalize r2 + ((p2.toInt64) * y2) = r3 at R3 ⊢
    show own_R p.tables e below _ T3 (mkF m 115 #[.val (.int ln), .val (.int p0), .val (.int p1), .val (.int p2), .val (.int b01), .val (.int b2), .val (.int (3 : Int32)), .val (.long y0), .second, .val (.long y1), .second, .val (.long y2), .second, .val (.ref a1), .val (.ref a2), .val (.double got), .second, .val (.long r3), .second] [])
    have RL := own_dh_l2d r3 (by omega)
    rw [R3] at RL
    refine own_go (fun _ => XS.dload X3.here hx rfl (hb hby at_115) rfl ) ?_
    show own_R p.tables e below _ T3 (mkF m 117 #[.val (.int ln), .val (.int p0), .val (.int p1), .val (.int p2), .val (.int b01), .val (.int b2), .val (.int (3 : Int32)), .val (.long y0), .second, .val (.long y1), .second, .val (.long y2), .second, .val (.ref a1), .val (.ref a2), .val (.double got), .second, .val (.long r3), .second] [(.double got)])
    refine own_go (fun _ => XS.lload X3.here hx rfl (hb hby at_117) rfl ) ?_
    show own_R p.tables e below _ T3 (mkF m 119 #[.val (.int ln), .val (.int p0), .val (.int p1), .val (.int p2), .val (.int b01), .val (.int b2), .val (.int (3 : Int32)), .val (.long y0), .second, .val (.long y1), .second, .val (.long y2), .second, .val (.ref a1), .val (.ref a2), .val (.double got), .second, .val (.long r3), .second] [(.long r3), (.double got)])
    refine own_go (fun _ => XS.l2dS X3.here hx rfl (hb hby at_119) rfl rfl) ?_
    show own_R p.tables e below _ T3 (mkF m 120 #[.val (.int ln), .val (.int p0), .val (.int p1), .val (.int p2), .val (.int b01), .val (.int b2), .val (.int (3 : Int32)), .val (.long y0), .second, .val (.long y1), .second, .val (.long y2), .second, .val (.ref a1), .val (.ref a2), .val (.double got), .second, .val (.long r3), .second] [(.double (FP.l2d r3)), (.double got)])
    refine own_go (fun _ => XS.dcmpS X3.here hx rfl (hb hby at_120) rfl rfl) ?_
    show own_R p.tables e below _ T3 (mkF m 121 #[.val (.int ln), .val (.int p0), .val (.int p1), .val (.int p2), .val (.int b01), .val (.int b2), .val (.int (3 : Int32)), .val (.long y0), .second, .val (.long y1), .second, .val (.long y2), .second, .val (.ref a1), .val (.ref a2), .val (.double got), .second, .val (.long r3), .second] [(.int (cmpValue (FP.dcmp got (FP.l2d r3)) .l))])
    refine own_go (fun _ => XS.ifNo X3.here hx rfl (hb hby at_121) rfl ((if0 _ _).trans (teq (own_cmp0 A2 RL (by omega) _)).2)) ?_
    show own_R p.tables e below _ T3 (mkF m 124 #[.val (.int ln), .val (.int p0), .val (.int p1), .val (.int p2), .val (.int b01), .val (.int b2), .val (.int (3 : Int32)), .val (.long y0), .second, .val (.long y1), .second, .val (.long y2), .second, .val (.ref a1), .val (.ref a2), .val (.double got), .second, .val (.long r3), .second] [])
    refine own_go (fun _ => XS.iconst X3.here hx rfl (hb hby at_124)) ?_
    show own_R p.tables e below _ T3 (mkF m 125 #[.val (.int ln), .val (.int p0), .val (.int p1), .val (.int p2), .val (.int b01), .val (.int b2), .val (.int (3 : Int32)), .val (.long y0), .second, .val (.long y1), .second, .val (.long y2), .second, .val (.ref a1), .val (.ref a2), .val (.double got), .second, .val (.long r3), .second] [(.int (1 : Int32))])
    refine own_go (fun _ => XS.goto X3.here hx rfl (pc0 := 125) (pc' := 129) rfl (hb hby at_125) (by decide) (by decide)) ?_
    show own_R p.tables e below _ T3 (mkF m 129 #[.val (.int ln), .val (.int p0), .val (.int p1), .val (.int p2), .val (.int b01), .val (.int b2), .val (.int (3 : Int32)), .val (.long y0), .second, .val (.long y1), .second, .val (.long y2), .second, .val (.ref a1), .val (.ref a2), .val (.double got), .second, .val (.long r3), .second] [(.int (1 : Int32))])
    exact own_end X3 (some (.int (1 : Int32))) (fun h => by rw [hret] at h; cases h) hlk (fun fs hr => retN X3 hx (t := .boolean) hret (by simp) (hb hby at_129) hr) ⟨rfl, N3⟩ (by decide) (by decide)
set_option maxRecDepth 65536 in
set_option maxHeartbeats 40000000 in
theorem comes_1 {Post : Tables → Env → Array Value → State → Outcome → State → Prop} (hpost : ∀ tb e args s v u, (limb_1_1.after args s (.returned v) u = true ∧ limb_1_2.after args s (.returned v) u = true ∧ True) → FrameEnd s (.returned v) u (Jvm.fieldLocs frame_1_writes args s ++ Jvm.arrayLocs frame_1_arrays args s ++ Jvm.staticLocs frame_1_statics s) 16 128 → Post tb e args s (.returned v) u) :
    ArmFor flags0 classFile x code maxLocals ret World_1 tables_1 room_1 Calls_1 rest_1 Pre_1 Post := by
  intro l hfl _ _ p e ha hc hk s m args below hf hA hF happ hP
  obtain ⟨hcalls, hrest, hpre⟩ := hP
  obtain ⟨-, -, -, hnamed, -, -, -, hat⟩ := (Spec.applies_iff hf).mp happ
  obtain ⟨hg, hn⟩ := and_e (Cond.before_iff.mp (show (Jvm.Cond.and given_1 narrow_1).before args s = true from hpre))
  obtain ⟨gc, q0⟩ := and_e hg
  obtain ⟨g0, q1⟩ := and_e q0
  obtain ⟨g1, q2⟩ := and_e q1
  obtain ⟨g2, q3⟩ := and_e q2
  obtain ⟨g3, q4⟩ := and_e q3
  obtain ⟨g4, q5⟩ := and_e q4
  have g5 := q5
  obtain ⟨w0, w1, w2, w3, w4, w5, rfl⟩ : ∃ w0 w1 w2 w3 w4 w5 : Value, args = #[w0, w1, w2, w3, w4, w5] := by
    have hs : args.size = 6 := by simpa [Cond.value, given_1] using gc
    obtain ⟨L⟩ := args
    match L, hs with
    | [w0, w1, w2, w3, w4, w5], _ => exact ⟨w0, w1, w2, w3, w4, w5, rfl⟩
  have hw := fun d (hd : d ∈ tables_1) => atoms_spec (ws := Jvm.Cond.code x code maxLocals ret :: tables_1) hat d (List.mem_cons_of_mem _ hd)
  have hfit : Fit s := fun {y c} hc i hi => by
    obtain ⟨ha, rfl⟩ := Array.getElem?_eq_some_iff.mp hc
    have q := List.all_eq_true.mp ((Array.all_eq_true_iff_forall_mem.mp hF) _ (Array.getElem_mem ha)) i (List.mem_range.mpr hi)
    simpa [Array.getElem?_eq_getElem hi] using q
  obtain ⟨i0, ei0⟩ := is_v g0
  obtain rfl : w0 = (.int i0) := Option.some.inj ei0
  obtain ⟨i1, ei1⟩ := is_v g1
  obtain rfl : w1 = (.int i1) := Option.some.inj ei1
  obtain ⟨i2, ei2⟩ := is_v g2
  obtain rfl : w2 = (.int i2) := Option.some.inj ei2
  obtain ⟨i3, ei3⟩ := is_v g3
  obtain rfl : w3 = (.int i3) := Option.some.inj ei3
  obtain ⟨i4, ei4⟩ := is_v g4
  obtain rfl : w4 = (.int i4) := Option.some.inj ei4
  obtain ⟨i5, ei5⟩ := is_v g5
  obtain rfl : w5 = (.int i5) := Option.some.inj ei5
  obtain ⟨n, o, h1, h2, h3, _, L, rfl, ⟨rfl, N⟩, hq⟩ := rm0 l s _ hw tables_1 s.heap s.heap.size i0 i1 i2 i3 i4 i5 (Nat.le_refl _) p e ha hc hk s m _ below hf ((Spec.applies_iff_loose hf).mp happ).1 ⟨rfl, State.Warmed39.refl s, rfl⟩ trivial
  refine ⟨n, _, h1, h2, h3, hpost _ _ _ _ _ _ ⟨Cond.after_iff.mpr rfl, Cond.after_iff.mpr (eq_i res_at (Term.int_eval (1)) rfl), trivial⟩ ⟨hq.1, hq.2.1, (hq.2.2.sift fun y hy => Or.inr (N y hy)).mono (by decide) (by decide)⟩⟩
theorem main_1_1 : Claimed_1_1 := comes_1 fun _ _ _ _ _ _ h hF => ⟨h.1, hF⟩
theorem main_1_2 : Claimed_1_2 := comes_1 fun _ _ _ _ _ _ h hF => ⟨h.2.1, hF⟩

end Jvm.Pilot.@@N@@
namespace Jvm.Pilot.@@N@@
open Jvm Jvm.ClassFile Sem Op Lib Jvm.Free Jvm.Stand Jvm.Pilot.@@N@@.Jvm.D
/-! MADE BY PROGRAM (witnessworld.py) out of the Statement's table words and the real class files: 11 classes; the members and pool entries that the words name. The judged class is class 1, her method 2. -/
namespace start1
open Jvm.ClassFile
def u (s : String) : CpInfo := .utf8 (stringToUtf16 s)
/-- a pool by its gaps: so many unusable entries, then the entry; so many at the end -/
def gap : Nat → List CpInfo → List CpInfo
  | 0, r => r
  | n + 1, r => .unusable :: gap n r
def poolList (es : List (Nat × CpInfo)) (last : Nat) : List CpInfo := es.foldr (fun e r => gap e.1 (e.2 :: r)) (gap last [])
def pool (es : List (Nat × CpInfo)) (last : Nat) : Array CpInfo := ⟨poolList es last⟩
def fileOf (pool : Array CpInfo) (this : Nat) (attrs : Array Attribute := #[]) (ms : Array MethodInfo := #[]) (fl : Nat := 33) (sup : Nat := 0) (ifs : Array Nat := #[]) (fds : Array FieldInfo := #[]) : ClassFile where
  minorVersion := 0
  majorVersion := 65
  constantPool := pool
  accessFlags := fl
  thisClass := this
  superClass := sup
  interfaces := ifs
  fields := fds
  methods := ms
  attributes := attrs
def plain (name : String) (sup : Option ClassId) : Class where
  name := name
  kind := .ordinary
  loader := none
  accessFlags := 33
  super := sup
  interfaces := #[]
  cf := none
  fields := #[]
  methods := #[]
  instanceTypes := #[]
  staticTypes := #[]
  resolved := #[]
  callSites := []
  init := .initialized
  statics := none
  mirror := none

def pool0 : Array CpInfo := pool [(5, u "<init>"), (0, u "()V"), (1, .class_ 10), (1, u "java/lang/Object")] 113

def k0m0 : Method := { name := "<init>", desc := "()V", sig := { parameters := [], returnType := none }, accessFlags := 1, code := none }
/-- java/lang/Object -/
def k0 : Class := { plain "java/lang/Object" none with
  accessFlags := 33
  interfaces := #[]
  cf := some (fileOf pool0 8 #[] #[{ accessFlags := 1, nameIndex := 5, descriptorIndex := 6, attributes := #[] }] 33 0 #[] #[])
  fields := #[]
  methods := #[k0m0]
  instanceTypes := #[]
  staticTypes := #[]
  resolved := Array.replicate 124 none
  statics := none }

def pool1 : Array CpInfo := pool [(2, .class_ 4), (1, u "java/lang/Object"), (0, u "<init>"), (0, u "()V"), (0, .methodref 8 9), (0, .class_ 10), (0, .nameAndType 11 12), (0, u "com/example/pass2/pass2/util/VectorsDotPinLaw"), (0, u "vec"), (0, u "(IDDD)[D"), (0, .methodref 14 15), (0, .class_ 16), (0, .nameAndType 17 18), (0, u "com/example/pass2/pass2/util/Vectors"), (0, u "dot"), (0, u "([D[D)D"), (3, u "law"), (0, u "(IIIIII)Z")] 4

def k1m0 : Method := { name := "<init>", desc := "()V", sig := { parameters := [], returnType := none }, accessFlags := 1, code := none }
def k1c1 : Code := { maxStack := 5, maxLocals := 7, code := method_2_code, exceptionTable := #[], attributes := #[] }
def k1m1 : Method := { name := "vec", desc := "(IDDD)[D", sig := { parameters := [.int, .double, .double, .double], returnType := some (.array .double) }, accessFlags := 10, code := some k1c1 }
def k1c2 : Code := { maxStack := 7, maxLocals := 19, code := code, exceptionTable := #[], attributes := #[] }
def k1m2 : Method := { name := "law", desc := "(IIIIII)Z", sig := { parameters := [.int, .int, .int, .int, .int, .int], returnType := some .boolean }, accessFlags := 9, code := some k1c2 }
/-- com/example/pass2/pass2/util/VectorsDotPinLaw -/
def k1 : Class := { plain "com/example/pass2/pass2/util/VectorsDotPinLaw" (some 0) with
  accessFlags := 49
  interfaces := #[]
  cf := some (fileOf pool1 8 #[] #[{ accessFlags := 1, nameIndex := 5, descriptorIndex := 6, attributes := #[] }, { accessFlags := 10, nameIndex := 11, descriptorIndex := 12, attributes := #[] }, { accessFlags := 9, nameIndex := 22, descriptorIndex := 23, attributes := #[] }] 49 2 #[] #[])
  fields := #[]
  methods := #[k1m0, k1m1, k1m2]
  instanceTypes := #[]
  staticTypes := #[]
  resolved := Array.replicate 28 none
  statics := none }

def pool2 : Array CpInfo := pool [(2, .class_ 4), (1, u "java/lang/Object"), (0, u "<init>"), (0, u "()V"), (1, .class_ 10), (1, u "com/example/pass2/pass2/util/Vectors"), (0, u "dot"), (0, u "([D[D)D")] 13

def k2m0 : Method := { name := "<init>", desc := "()V", sig := { parameters := [], returnType := none }, accessFlags := 2, code := none }
def k2c1 : Code := { maxStack := 6, maxLocals := 5, code := prog_53_method_2_code, exceptionTable := #[], attributes := #[] }
def k2m1 : Method := { name := "dot", desc := "([D[D)D", sig := { parameters := [(.array .double), (.array .double)], returnType := some .double }, accessFlags := 9, code := some k2c1 }
/-- com/example/pass2/pass2/util/Vectors -/
def k2 : Class := { plain "com/example/pass2/pass2/util/Vectors" (some 0) with
  accessFlags := 49
  interfaces := #[]
  cf := some (fileOf pool2 8 #[] #[{ accessFlags := 2, nameIndex := 5, descriptorIndex := 6, attributes := #[] }, { accessFlags := 9, nameIndex := 11, descriptorIndex := 12, attributes := #[] }] 49 2 #[] #[])
  fields := #[]
  methods := #[k2m0, k2m1]
  instanceTypes := #[]
  staticTypes := #[]
  resolved := Array.replicate 26 none
  statics := none }

def pool3 : Array CpInfo := pool [(1, u "java/lang/Cloneable"), (0, .class_ 1), (0, u "java/lang/Object"), (0, .class_ 3)] 3

/-- java/lang/Cloneable -/
def k3 : Class := { plain "java/lang/Cloneable" (some 0) with
  accessFlags := 1537
  interfaces := #[]
  cf := some (fileOf pool3 2 #[] #[] 1537 4 #[] #[])
  fields := #[]
  methods := #[]
  instanceTypes := #[]
  staticTypes := #[]
  resolved := Array.replicate 8 none
  statics := none }

def pool4 : Array CpInfo := pool [(1, u "java/io/Serializable"), (0, .class_ 1), (0, u "java/lang/Object"), (0, .class_ 3)] 3

/-- java/io/Serializable -/
def k4 : Class := { plain "java/io/Serializable" (some 0) with
  accessFlags := 1537
  interfaces := #[]
  cf := some (fileOf pool4 2 #[] #[] 1537 4 #[] #[])
  fields := #[]
  methods := #[]
  instanceTypes := #[]
  staticTypes := #[]
  resolved := Array.replicate 8 none
  statics := none }

/-- the primitive byte -/
def k5 : Class := { plain "byte" none with kind := .primitive 'B', accessFlags := 0x411 }
/-- [B -/
def k6 : Class := { plain "[B" (some 0) with kind := .array 5 .byte, interfaces := #[3, 4], accessFlags := 1041 }

/-- the primitive double -/
def k7 : Class := { plain "double" none with kind := .primitive 'D', accessFlags := 0x411 }
/-- [D -/
def k8 : Class := { plain "[D" (some 0) with kind := .array 7 .double, interfaces := #[3, 4], accessFlags := 1041 }

/-- the primitive int -/
def k9 : Class := { plain "int" none with kind := .primitive 'I', accessFlags := 0x411 }
/-- [I -/
def k10 : Class := { plain "[I" (some 0) with kind := .array 9 .int, interfaces := #[3, 4], accessFlags := 1041 }

def heap : Heap := #[]
def classes : Array Class := #[k0, k1, k2, k3, k4, k5, k6, k7, k8, k9, k10]
def interned : List (Array UInt16 × Addr) := []
def slotsUsed : Nat := 0
def theMethod : MethodId := ⟨1, 2⟩
def args0 : Array Value := #[.int 1, .int 2, .int 3, .int 4, .int 5, .int 6]
def aboutOver (below : List Frame) : State where
  vm := { classes := classes, interned := interned.toArray }
  heap := heap
  slotsUsed := slotsUsed
  threads := #[{ frames := .invoking theMethod args0 :: below }]
def below0 : List Frame := [.native { method := ⟨0, 0⟩, args := #[] }]
def about1 : State := aboutOver below0
def p0 : Program := .bare "" "" ""
def e0 : Env := launch0.env 0 0 0
theorem w_frames : about1.frames = Frame.invoking theMethod args0 :: below0 := rfl
set_option maxRecDepth 65536 in
theorem w_args : argsFit about1.vm theMethod args0 = true := by decide +kernel
set_option maxRecDepth 65536 in
theorem w_heap : heapFits about1 = true := by decide +kernel
set_option maxRecDepth 65536 in
theorem w_runnable : about1.curStatus? = some .runnable := by decide +kernel
set_option maxRecDepth 65536 in
theorem w_alone : about1.alone = true := by decide +kernel
set_option maxRecDepth 65536 in
theorem w_named : about1.methodNamed? x = some theMethod := by decide +kernel
set_option maxRecDepth 65536 in
theorem w_hears : about1.hears theMethod below0 = true := by decide +kernel
set_option maxRecDepth 65536 in
theorem w_ripe : about1.ripe theMethod args0 below0 = true := by decide +kernel
theorem w_running : about1.status = .running := rfl
set_option maxRecDepth 65536 in
theorem w_room : about1.hasRoom e0.platform room_1 = true :=
  launch0.hasRoom_least _ room_1 (by decide +kernel) (by decide +kernel) (by decide +kernel) (by decide +kernel) (by decide +kernel) (by decide +kernel)
theorem allAtoms_all (ts : List Jvm.Cond) (a : Array Jvm.Value) (st : Jvm.State) : (allAtoms ts).before a st = ts.all (fun c => c.before a st) := by
  induction ts with
  | nil => rfl
  | cons c t ih =>
    show (Jvm.Cond.and c (allAtoms t)).before a st = _
    rw [Jvm.Cond.before_and, ih, List.all_cons]
def words1 : List Jvm.Cond := Jvm.Cond.code x code maxLocals ret :: tables_1
/-- a 'code' word, met by the world's own term for the bytes: nothing is compared byte by byte -/
theorem code_word {y : MethodName} {bytes : ByteArray} {mx : Nat} {rt : Option FieldType} {a : Array Value} {s : State} {m : MethodId} {meth : Method} {c : Code} (h1 : s.methodNamed? y = some m) (h2 : s.vm.method? m = some meth) (h3 : meth.code = some c) (h4 : c.code = bytes)
    (h5 : (c.maxLocals == mx && c.exceptionTable.isEmpty && decide (c.maxStack ≤ mostOperands) && decide (meth.sig.returnType = rt) && !meth.locks && decide (parseMethodDescriptor y.desc = some meth.sig)) = true) : (Jvm.Cond.code y bytes mx rt).before a s = true := by
  simp only [Bool.and_eq_true, beq_iff_eq, Bool.not_eq_true', decide_eq_true_eq] at h5
  obtain ⟨⟨⟨⟨⟨g1, g2⟩, g3⟩, g4⟩, g5⟩, g6⟩ := h5
  simp [Cond.before, Cond.holds, Cond.value, h1, h2, h3, h4, g1, g2, g3, g4, g5, g6]
def isCode : Jvm.Cond → Bool
  | .code _ _ _ _ => true
  | _ => false
theorem all_split {L : List Jvm.Cond} {P : Jvm.Cond → Bool} (h1 : L.all (fun c => isCode c || P c) = true) (h2 : ∀ c ∈ L.filter isCode, P c = true) : L.all P = true := by
  refine List.all_eq_true.mpr fun c hc => ?_
  have h := List.all_eq_true.mp h1 c hc
  rcases Bool.eq_false_or_eq_true (isCode c) with hi | hi
  · exact h2 c (List.mem_filter.mpr ⟨hc, hi⟩)
  · simpa [hi] using h
set_option maxRecDepth 65536 in
theorem w_c0 : (Jvm.Cond.code x code maxLocals ret).before args0 about1 = true := code_word (m := ⟨1, 2⟩) (meth := k1m2) (c := k1c2) (by decide +kernel) rfl rfl rfl (by decide +kernel)
set_option maxRecDepth 65536 in
theorem w_c1 : (Jvm.Cond.code ({ cls := "com/example/pass2/pass2/util/VectorsDotPinLaw", name := "vec", desc := "(IDDD)[D" } : Jvm.MethodName) method_2_code (7 : Nat) (Option.some (Jvm.ClassFile.FieldType.array Jvm.ClassFile.FieldType.double))).before args0 about1 = true := code_word (m := ⟨1, 1⟩) (meth := k1m1) (c := k1c1) (by decide +kernel) rfl rfl rfl (by decide +kernel)
set_option maxRecDepth 65536 in
theorem w_c2 : (Jvm.Cond.code ({ cls := "com/example/pass2/pass2/util/Vectors", name := "dot", desc := "([D[D)D" } : Jvm.MethodName) prog_53_method_2_code (5 : Nat) (Option.some Jvm.ClassFile.FieldType.double)).before args0 about1 = true := code_word (m := ⟨2, 1⟩) (meth := k2m1) (c := k2c1) (by decide +kernel) rfl rfl rfl (by decide +kernel)
def codes1 : List Jvm.Cond := [Jvm.Cond.code x code maxLocals ret, Jvm.Cond.code ({ cls := "com/example/pass2/pass2/util/VectorsDotPinLaw", name := "vec", desc := "(IDDD)[D" } : Jvm.MethodName) method_2_code (7 : Nat) (Option.some (Jvm.ClassFile.FieldType.array Jvm.ClassFile.FieldType.double)), Jvm.Cond.code ({ cls := "com/example/pass2/pass2/util/Vectors", name := "dot", desc := "([D[D)D" } : Jvm.MethodName) prog_53_method_2_code (5 : Nat) (Option.some Jvm.ClassFile.FieldType.double)]
set_option maxRecDepth 65536 in
theorem codes_eq : words1.filter isCode = codes1 := rfl
theorem w_codes : ∀ c ∈ words1.filter isCode, c.before args0 about1 = true := by
  rw [codes_eq]
  intro c hc
  simp only [codes1, List.mem_cons, List.not_mem_nil, or_false] at hc
  rcases hc with rfl | rfl | rfl
  · exact w_c0
  · exact w_c1
  · exact w_c2
set_option maxRecDepth 65536 in
theorem w_t1 : words1.all (fun c => isCode c || c.before args0 about1) = true := by decide +kernel
theorem w_tables : (allAtoms (Jvm.Cond.code x code maxLocals ret :: tables_1)).before args0 about1 = true := by
  rw [allAtoms_all]
  show words1.all (fun c => c.before args0 about1) = true
  refine all_split ?_ w_codes
  rw [w_t1]
set_option maxRecDepth 65536 in
theorem w_case : (Jvm.Cond.and given_1 narrow_1).before args0 about1 = true := by decide +kernel
theorem w_applies : (headSpec (Jvm.Cond.code x code maxLocals ret :: tables_1) room_1).applies x e0.platform about1 = true :=
  (Spec.applies_iff w_frames).mpr ⟨w_running, w_runnable, w_alone, w_named, w_hears, w_ripe, w_room, w_tables⟩
theorem atStart : AtStart classFile x code maxLocals ret World_1 tables_1 room_1 Calls_1 rest_1 Pre_1 launch0 p0 e0 about1 theMethod args0 below0 :=
  ⟨lists_1, trivial, launch0.admits_env _ _ _, launch0.least_env, fairChoices_fair.cas, fairChoices_fair.clock, w_frames, w_args, w_heap, w_applies, trivial, trivial, w_case⟩
end start1
theorem witness_1 : WitnessClaimed_1 := ⟨start1.p0, start1.e0, start1.about1, start1.theMethod, start1.args0, start1.below0, start1.atStart⟩
end Jvm.Pilot.@@N@@
