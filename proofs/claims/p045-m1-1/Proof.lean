import JvmDerived
import JvmDerived.Pilot.@@N@@Statement
import JvmDerived.Pilot.@@N@@Code
set_option linter.unusedVariables false
set_option linter.unusedSimpArgs false
namespace Jvm.Pilot.@@N@@
open Jvm Jvm.ClassFile Sem Op Lib Jvm.Free Jvm.Stand Jvm.LawKit Jvm.RoadKit Bundle Jvm.Pilot.@@N@@.Jvm.D

section OwnKit
variable {p : Program} {l : Launch} {e : Env} {R : Room} {s : State} {m : MethodId} {args : Array Value} {below : List Frame} {meth : Method} {c : Code} {T : State} {locs : List Loc} {cells slots : Nat} {Z : State} {a0 : Array Value} {h : Heap}
/-- from T at frame F the walk reaches a state that P holds of -/
def own_R (tb : Tables) (e : Env) (below : List Frame) (P : State → Prop) (T : State) (F : JFrame) : Prop := ∃ t, Steps tb e below (T.setTop F) t ∧ P t
theorem own_go {tb : Tables} {e : Env} {below : List Frame} {P : State → Prop} {T T' : State} {F F' : JFrame} (h : ∀ t, Steps tb e below (T'.setTop F') t → Steps tb e below (T.setTop F) t) (r : own_R tb e below P T' F') : own_R tb e below P T F := by
  obtain ⟨t, a, b⟩ := r
  exact ⟨t, h t a, b⟩
/-- what a body's end must meet -/
def own_E (s : State) (below : List Frame) (Q : Option Value → Heap → List Loc → Prop) (C N : Nat) (t : State) : Prop := ∃ v L, t.status = .running ∧ Ended t below (.returned v) ∧ Q v t.heap L ∧ FrameEnd s (.returned v) t L C N
/-- a body's contract -/
abbrev own_C (l : Launch) (Z : State) (y : MethodName) (bytes : ByteArray) (ml : Nat) (ret : Option FieldType) (ws : List Jvm.Cond) (rm : Room) (as : Array Value) (h0 : Heap) (Q : Option Value → Heap → List Loc → Prop) : Prop :=
  MetFree l y (head1 (Jvm.Cond.code y bytes ml ret :: ws) rm) (fun a U => a = as ∧ Z.Warmed39 U.vm ∧ U.heap = h0) (fun _ _ _ _ _ => True) (fun _ U o U' => ∃ v L, o = .returned v ∧ Q v U'.heap L ∧ FrameEnd U o U' L rm.cells rm.slots)
theorem own_body {y : MethodName} {bytes : ByteArray} {ml : Nat} {ret : Option FieldType} {ws : List Jvm.Cond} {rm : Room} {as : Array Value} {h0 : Heap} {Q : Option Value → Heap → List Loc → Prop} {ls : Array Slot}
    (hy : plainFor y = true) (hef : ∀ m, entryFrame m as ml = mkF m 0 ls [])
    (H : ∀ (p : Program) (e : Env) (s : State) (m : MethodId) (below : List Frame) (meth : Method) (c : Code) (T : State), Z.Warmed39 s.vm → p.tables.exec = Jvm.exec → c.code = bytes → c.maxLocals = ml → s.vm.findClass y.cls = some m.cls → meth.name = y.name → meth.sig.returnType = ret → meth.locks = false →
      Stand p l e rm s m as below meth c T [] 0 0 → T.heap = h0 → own_R p.tables e below (own_E s below Q rm.cells rm.slots) T (mkF m 0 ls [])) :
    own_C l Z y bytes ml ret ws rm as h0 Q := by
  refine MetFree.of_bodySF hy hisR ?_
  intro p e s m args below meth c s₁ Bd hml0 hP hK
  obtain ⟨rfl, hZ, hh⟩ := hP
  obtain ⟨t, st, v, L, h1, h2, h3, h4⟩ := H p e s m below meth c s₁ hZ Bd.exec Bd.bytes hml0 (findClass_of_methodNamed Bd.named) (name_of_methodNamed Bd.named Bd.method).1 Bd.returns Bd.notSynchronized (Stand.of_body Bd) (by rw [← hh, Bd.state]; rfl)
  exact ⟨t, _, castTop (hef m) st, h1, h2, v, L, rfl, h3, h4⟩
theorem own_end {Q : Option Value → Heap → List Loc → Prop} {C N : Nat} {F : JFrame} (X : Stand p l e R s m args below meth c T locs cells slots) (v : Option Value) (hv : meth.sig.returnType = none → v = none) (hlk : meth.locks = false)
    (hst : ∀ fs, (∀ (f : JFrame) (acts : List Action), f.method = m → f.locked = none → f.entered = [] → (doReturn e (T.setTop f) acts v).1 = T.setFrames fs) → Steps p.tables e below (T.setTop F) (T.setFrames fs))
    (hQ : Q v T.heap locs) (hc : cells ≤ C) (hn : slots ≤ N) : own_R p.tables e below (own_E s below Q C N) T F := by
  obtain ⟨fs, hr, hrun, hended, hW, hsame⟩ := X.leave (v := v) hv hlk
  exact ⟨_, hst fs hr, v, locs, hrun, hended, hQ, ⟨_, rfl⟩, hW, hsame.mono hc hn⟩
theorem own_retI (X : Stand p l e R s m args below meth c T locs cells slots) (hx : p.tables.exec = Jvm.exec) {pc : Nat} {Ls : Array Slot} {z : Int32} {rest : List Value} (hret : meth.sig.returnType = some .int) (hd : decode c.code pc = .ok (.ireturn, 1)) {fs : List Frame}
    (hl : ∀ (f : JFrame) (acts : List Action), f.method = m → f.locked = none → f.entered = [] → (doReturn e (T.setTop f) acts (some (.int z))).1 = T.setFrames fs) : Steps p.tables e below (T.setTop (mkF m pc Ls (.int z :: rest))) (T.setFrames fs) := by
  have hm' : T.vm.method? m = some meth := X.method'
  have hn : narrow .int (.int z) = .int z := rfl
  show Steps p.tables e below (T.setTop { method := m, pc := pc, locals := Ls, stack := _ :: rest, locked := none }) _
  jvm_step X.here [X.here.top, hx, hd, hm', hret, hn]
  first | (intro acts; rw [hl _ acts rfl rfl rfl]) | rw [hl _ _ rfl rfl rfl]
  exact Steps.refl _
theorem own_retJ (X : Stand p l e R s m args below meth c T locs cells slots) (hx : p.tables.exec = Jvm.exec) {pc : Nat} {Ls : Array Slot} {z : Int64} {rest : List Value} (hret : meth.sig.returnType = some .long) (hd : decode c.code pc = .ok (.lreturn, 1)) {fs : List Frame}
    (hl : ∀ (f : JFrame) (acts : List Action), f.method = m → f.locked = none → f.entered = [] → (doReturn e (T.setTop f) acts (some (.long z))).1 = T.setFrames fs) : Steps p.tables e below (T.setTop (mkF m pc Ls (.long z :: rest))) (T.setFrames fs) := by
  have hm' : T.vm.method? m = some meth := X.method'
  have hn : narrow .long (.long z) = .long z := rfl
  show Steps p.tables e below (T.setTop { method := m, pc := pc, locals := Ls, stack := _ :: rest, locked := none }) _
  jvm_step X.here [X.here.top, hx, hd, hm', hret, hn]
  first | (intro acts; rw [hl _ acts rfl rfl rfl]) | rw [hl _ _ rfl rfl rfl]
  exact Steps.refl _
theorem own_retD (X : Stand p l e R s m args below meth c T locs cells slots) (hx : p.tables.exec = Jvm.exec) {pc : Nat} {Ls : Array Slot} {z : UInt64} {rest : List Value} (hret : meth.sig.returnType = some .double) (hd : decode c.code pc = .ok (.dreturn, 1)) {fs : List Frame}
    (hl : ∀ (f : JFrame) (acts : List Action), f.method = m → f.locked = none → f.entered = [] → (doReturn e (T.setTop f) acts (some (.double z))).1 = T.setFrames fs) : Steps p.tables e below (T.setTop (mkF m pc Ls (.double z :: rest))) (T.setFrames fs) := by
  have hm' : T.vm.method? m = some meth := X.method'
  have hn : narrow .double (.double z) = .double z := rfl
  show Steps p.tables e below (T.setTop { method := m, pc := pc, locals := Ls, stack := _ :: rest, locked := none }) _
  jvm_step X.here [X.here.top, hx, hd, hm', hret, hn]
  first | (intro acts; rw [hl _ acts rfl rfl rfl]) | rw [hl _ _ rfl rfl rfl]
  exact Steps.refl _
theorem own_retA (X : Stand p l e R s m args below meth c T locs cells slots) (hx : p.tables.exec = Jvm.exec) {pc : Nat} {Ls : Array Slot} {z : Value} {t : FieldType} {rest : List Value} (hret : meth.sig.returnType = some t) (ht : t.isReference = true) (hz : z.isRef = true) (hd : decode c.code pc = .ok (.areturn, 1)) {fs : List Frame}
    (hl : ∀ (f : JFrame) (acts : List Action), f.method = m → f.locked = none → f.entered = [] → (doReturn e (T.setTop f) acts (some z)).1 = T.setFrames fs) : Steps p.tables e below (T.setTop (mkF m pc Ls (z :: rest))) (T.setFrames fs) := by
  have hm' : T.vm.method? m = some meth := X.method'
  show Steps p.tables e below (T.setTop { method := m, pc := pc, locals := Ls, stack := _ :: rest, locked := none }) _
  jvm_step X.here [X.here.top, hx, hd, hm', hret, ht, hz]
  first | (intro acts; rw [hl _ acts rfl rfl rfl]) | rw [hl _ _ rfl rfl rfl]
  exact Steps.refl _
theorem own_len {a : Addr} {k : ClassId} {ty : FieldType} {n : Int32} {vs : List Value} {d : Value} (X : Stand p l e R s m args below meth c T locs cells slots) (hx : p.tables.exec = Jvm.exec) (hZ : Z.Warmed39 s.vm) (eT : T.heap = h) (V : Arv Z h a k ty n vs d)
    {g : JFrame} (hg : g.method = m) {rest : List Value} (hs : g.stack = .ref a :: rest) (hd : decode c.code g.pc = .ok (.arraylength, 1)) :
    ∀ t, Steps p.tables e below (T.setTop { g with pc := g.pc + 1, stack := .int n :: rest }) t → Steps p.tables e below (T.setTop g) t := by
  obtain ⟨cl, Ar, -, S, N, -, -⟩ := V
  intro t st
  refine X.arraylength hx (by rw [eT]; exact Ar.1) (State.isArrayOf_alike hZ.alike Ar.2.1) hg hs hd t ?_
  rw [len_of S N]
  exact st
theorem own_ldD {a : Addr} {k : ClassId} {n j : Int32} {vs : List Value} {d v : Value} (X : Stand p l e R s m args below meth c T locs cells slots) (hx : p.tables.exec = Jvm.exec) (hZ : Z.Warmed39 s.vm) (eT : T.heap = h) (V : Arv Z h a k .double n vs d) (hj : ¬ j < 0 ∧ j < n) (hv : vs.getD j.toNatClampNeg d = v)
    {g : JFrame} (hg : g.method = m) {rest : List Value} (hs : g.stack = .int j :: .ref a :: rest) (hd : decode c.code g.pc = .ok (.daload, 1)) :
    ∀ t, Steps p.tables e below (T.setTop { g with pc := g.pc + 1, stack := v :: rest }) t → Steps p.tables e below (T.setTop g) t := by
  obtain ⟨cl, Ar, -, S, N, H, -⟩ := V
  intro t st
  exact X.daload hx (by rw [eT]; exact Ar.1) (State.isArrayOf_alike hZ.alike Ar.2.1) Ar.2.2 (inb_of S hj) (H.at (inb_of S hj) hv) hg hs hd t st
theorem own_ldZ {a : Addr} {k : ClassId} {n j : Int32} {vs : List Value} {d v : Value} (X : Stand p l e R s m args below meth c T locs cells slots) (hx : p.tables.exec = Jvm.exec) (hZ : Z.Warmed39 s.vm) (eT : T.heap = h) (V : Arv Z h a k .boolean n vs d) (hj : ¬ j < 0 ∧ j < n) (hv : vs.getD j.toNatClampNeg d = v)
    {g : JFrame} (hg : g.method = m) {rest : List Value} (hs : g.stack = .int j :: .ref a :: rest) (hd : decode c.code g.pc = .ok (.baload, 1)) :
    ∀ t, Steps p.tables e below (T.setTop { g with pc := g.pc + 1, stack := v :: rest }) t → Steps p.tables e below (T.setTop g) t := by
  obtain ⟨cl, Ar, -, S, N, H, -⟩ := V
  intro t st
  exact X.baloadBooleans hx (by rw [eT]; exact Ar.1) (State.isArrayOf_alike hZ.alike Ar.2.1) Ar.2.2 (inb_of S hj) (H.at (inb_of S hj) hv) hg hs hd t st
theorem own_stD {a : Addr} {k : ClassId} {n j : Int32} {vs : List Value} {d : Value} {x : UInt64} (X : Stand p l e R s m args below meth c T locs cells slots) (hx : p.tables.exec = Jvm.exec) (hZ : Z.Warmed39 s.vm) (eT : T.heap = h) (V : Arv Z h a k .double n vs d) (hj : ¬ j < 0 ∧ j < n) (i : Nat) (hji : j.toNatClampNeg = i) (hi : i < vs.length)
    {g : JFrame} (hg : g.method = m) {rest : List Value} (hs : g.stack = .double x :: .int j :: .ref a :: rest) (hd : decode c.code g.pc = .ok (.dastore, 1)) :
    ∃ T' h', Stand p l e R s m args below meth c T' (locs ++ [⟨a, j.toNatClampNeg⟩]) cells slots ∧ T'.heap = h' ∧ Wr h h' a j.toNatClampNeg (.double x) ∧ Arv Z h' a k .double n (vs.set i (.double x)) d ∧ ∀ t, Steps p.tables e below (T'.setTop { g with pc := g.pc + 1, stack := rest }) t → Steps p.tables e below (T.setTop g) t := by
  obtain ⟨cl, Ar, q, S, N, H, G⟩ := V
  obtain ⟨T', h', X', e', W, st⟩ := stD X hx hZ eT Ar (inb_of S hj) hg hs hd
  exact ⟨T', h', X', e', W, Arv.set Ar q S N H G rfl W i hji hi, st⟩
theorem own_stZ {a : Addr} {k : ClassId} {n j : Int32} {vs : List Value} {d : Value} {x : Int32} (X : Stand p l e R s m args below meth c T locs cells slots) (hx : p.tables.exec = Jvm.exec) (hZ : Z.Warmed39 s.vm) (eT : T.heap = h) (V : Arv Z h a k .boolean n vs d) (hj : ¬ j < 0 ∧ j < n) (i : Nat) (hji : j.toNatClampNeg = i) (hi : i < vs.length) (h01 : x = 0 ∨ x = 1)
    {g : JFrame} (hg : g.method = m) {rest : List Value} (hs : g.stack = .int x :: .int j :: .ref a :: rest) (hd : decode c.code g.pc = .ok (.bastore, 1)) :
    ∃ T' h', Stand p l e R s m args below meth c T' (locs ++ [⟨a, j.toNatClampNeg⟩]) cells slots ∧ T'.heap = h' ∧ Wr h h' a j.toNatClampNeg (.int x) ∧ Arv Z h' a k .boolean n (vs.set i (.int x)) d ∧ ∀ t, Steps p.tables e below (T'.setTop { g with pc := g.pc + 1, stack := rest }) t → Steps p.tables e below (T.setTop g) t := by
  obtain ⟨cl, Ar, q, S, N, H, G⟩ := V
  obtain ⟨T', h', X', e', W, st⟩ := stZ X hx hZ eT Ar (inb_of S hj) hg hs hd
  have en : nar .boolean x = x := by rcases h01 with rfl | rfl <;> rfl
  rw [en] at W
  exact ⟨T', h', X', e', W, Arv.set Ar q S N H G (by rcases h01 with rfl | rfl <;> rfl) W i hji hi, st⟩
/-- a payer's form: what the three calls ask -/
abbrev own_B (l : Launch) (R : Room) (p : Program) (e : Env) (below : List Frame) (s : State) (args : Array Value) (y : MethodName) (W : Nat) (as : Array Value) (h : Heap) (kc ks : Nat) (Q : Option Value → Heap → List Loc → Prop) : Prop :=
  Back l R p e below s args y 3 W (fun A a => a = as ∧ A.U.heap = h ∧ A.cells + kc ≤ R.cells ∧ A.slots + ks ≤ R.slots) (fun A _ v B => ∃ L, Q v B.U.heap L ∧ B.locs = A.locs ++ L ∧ B.cells = A.cells + kc ∧ B.slots = A.slots + ks)
theorem own_backS (X : Stand p l e R s m args below meth c T locs cells slots) (hx : p.tables.exec = Jvm.exec) (hZ : Z.Warmed39 s.vm) {own : String} (hown : s.vm.findClass own = some m.cls) {index : Nat} {y : MethodName} {bytes : ByteArray} {maxL : Nat} {ret : Option FieldType}
    (w1 : (Jvm.Cond.methodLink own index y).before a0 Z = true) (w2 : (Jvm.Cond.static y).before a0 Z = true) (w3 : (Jvm.Cond.initialized y.cls).before a0 Z = true) (w4 : (Jvm.Cond.code y bytes maxL ret).before a0 Z = true) (hy : y.cls ≠ "java/lang/invoke/MethodHandle" ∧ y.cls ≠ "java/lang/invoke/VarHandle")
    {W kc ks : Nat} {as : Array Value} {Q : Option Value → Heap → List Loc → Prop} (hK : own_B l R p e below s args y W as h kc ks Q) 
    {g : JFrame} (hg : g.method = m) (hsize : g.locals.size = c.maxLocals) {argsL rest : List Value} (hlen : ∀ sig, parseMethodDescriptor y.desc = some sig → argsL.length = sig.parameters.length)
    (hst : g.stack = argsL.reverse ++ rest) (has : argsL.toArray = as) (hW : 2 * g.monitorRoom + (rest.map fun v => v.category).sum ≤ W) (hd : decode c.code g.pc = .ok (.invokestatic index, 3)) (eT : T.heap = h)
    (hc : cells + kc ≤ R.cells) (hs : slots + ks ≤ R.slots) :
    ∃ v T' L, Stand p l e R s m args below meth c T' (locs ++ L) (cells + kc) (slots + ks) ∧ Q v T'.heap L ∧ ∀ t, Steps p.tables e below (T'.setTop { g with pc := g.pc + 3, stack := v.toList ++ rest }) t → Steps p.tables e below (T.setTop g) t := by
  obtain ⟨v, vm1, ⟨T1, L1, k1, n1⟩, -, X1, ⟨Lc, hQ, l1, y1, z1⟩, st⟩ := Jvm.LawKit.callS X hx (y := y) hown (mvT hZ w1) (mvT hZ w2) (mvT hZ w3) (mvT hZ w4) hy hK hg hsize (argsL := argsL) (rest := rest) hlen hst hW hd (fun _ _ => ⟨has, eT, hc, hs⟩)
  dsimp only [Pt.U, Pt.locs, Pt.cells, Pt.slots] at X1 l1 y1 z1 st hQ
  subst l1 y1 z1
  exact ⟨v, T1, Lc, X1, hQ, st⟩
theorem own_callS (X : Stand p l e R s m args below meth c T locs cells slots) (hx : p.tables.exec = Jvm.exec) (hZ : Z.Warmed39 s.vm) {own : String} (hown : s.vm.findClass own = some m.cls) {index : Nat} {y : MethodName} {bytes : ByteArray} {maxL : Nat} {ret : Option FieldType}
    (w1 : (Jvm.Cond.methodLink own index y).before a0 Z = true) (w2 : (Jvm.Cond.static y).before a0 Z = true) (w3 : (Jvm.Cond.initialized y.cls).before a0 Z = true) (w4 : (Jvm.Cond.code y bytes maxL ret).before a0 Z = true) (hy : y.cls ≠ "java/lang/invoke/MethodHandle" ∧ y.cls ≠ "java/lang/invoke/VarHandle")
    {rm : Room} {as : Array Value} {Q : Option Value → Heap → List Loc → Prop} (hM : own_C l Z y bytes maxL ret [] rm as h Q) {W : Nat}
    {g : JFrame} (hg : g.method = m) (hsize : g.locals.size = c.maxLocals) {argsL rest : List Value} (hlen : ∀ sig, parseMethodDescriptor y.desc = some sig → argsL.length = sig.parameters.length)
    (hst : g.stack = argsL.reverse ++ rest) (has : argsL.toArray = as) (hW : 2 * g.monitorRoom + (rest.map fun v => v.category).sum ≤ W) (hd : decode c.code g.pc = .ok (.invokestatic index, 3)) (eT : T.heap = h)
    (hf : rm.frames + 1 ≤ R.frames) (hl : W + (maxL + 11) + rm.locals ≤ R.locals) (hc : cells + rm.cells ≤ R.cells) (hs : slots + rm.slots ≤ R.slots) :
    ∃ v T' L, Stand p l e R s m args below meth c T' (locs ++ L) (cells + rm.cells) (slots + rm.slots) ∧ Q v T'.heap L ∧ ∀ t, Steps p.tables e below (T'.setTop { g with pc := g.pc + 3, stack := v.toList ++ rest }) t → Steps p.tables e below (T.setTop g) t :=
  own_backS X hx hZ hown w1 w2 w3 w4 hy (backOf (W := W) hM hZ w4 w3 hf hl) hg hsize hlen hst has hW hd eT hc hs
theorem own_backI (X : Stand p l e R s m args below meth c T locs cells slots) (hx : p.tables.exec = Jvm.exec) (hZ : Z.Warmed39 s.vm) {own : String} (hown : s.vm.findClass own = some m.cls) {index : Nat} {y : MethodName} {bytes : ByteArray} {maxL : Nat} 
    (hy1 : y.name = "<init>") (w1 : (Jvm.Cond.methodLink own index y).before a0 Z = true) (w2 : (Jvm.Cond.instanceMethod y).before a0 Z = true) (w4 : (Jvm.Cond.code y bytes maxL none).before a0 Z = true) (w3 : (Jvm.Cond.initialized y.cls).before a0 Z = true) (hy : y.cls ≠ "java/lang/invoke/MethodHandle" ∧ y.cls ≠ "java/lang/invoke/VarHandle")
    {W kc ks : Nat} {as : Array Value} {Q : Option Value → Heap → List Loc → Prop} (hK : own_B l R p e below s args y W as h kc ks Q) 
    {g : JFrame} (hg : g.method = m) (hsize : g.locals.size = c.maxLocals) {a : Addr} {argsL rest : List Value} (hlen : ∀ sig, parseMethodDescriptor y.desc = some sig → argsL.length = sig.parameters.length)
    (hst : g.stack = argsL.reverse ++ .ref a :: rest) (has : (.ref a :: argsL).toArray = as) (hW : 2 * g.monitorRoom + (rest.map fun v => v.category).sum ≤ W) (hd : decode c.code g.pc = .ok (.invokespecial index, 3)) (eT : T.heap = h)
    (hc : cells + kc ≤ R.cells) (hs : slots + ks ≤ R.slots) :
    ∃ v T' L, Stand p l e R s m args below meth c T' (locs ++ L) (cells + kc) (slots + ks) ∧ Q v T'.heap L ∧ ∀ t, Steps p.tables e below (T'.setTop { g with pc := g.pc + 3, stack := v.toList ++ rest }) t → Steps p.tables e below (T.setTop g) t := by
  obtain ⟨v, vm1, ⟨T1, L1, k1, n1⟩, -, X1, ⟨Lc, hQ, l1, y1, z1⟩, st⟩ := X.specialBack hx (y := y) hy1 hown (mvT hZ w1) (mvT hZ w2) (mvT hZ w4) hy hK hg hsize (Steps.refl _) (a := a) (argsL := argsL) (rest := rest) hlen hst hW hd (fun _ _ => ⟨has, eT, hc, hs⟩)
  dsimp only [Pt.U, Pt.locs, Pt.cells, Pt.slots] at X1 l1 y1 z1 st hQ
  subst l1 y1 z1
  exact ⟨v, T1, Lc, X1, hQ, fun _ k => st.trans k⟩
theorem own_callI (X : Stand p l e R s m args below meth c T locs cells slots) (hx : p.tables.exec = Jvm.exec) (hZ : Z.Warmed39 s.vm) {own : String} (hown : s.vm.findClass own = some m.cls) {index : Nat} {y : MethodName} {bytes : ByteArray} {maxL : Nat} 
    (hy1 : y.name = "<init>") (w1 : (Jvm.Cond.methodLink own index y).before a0 Z = true) (w2 : (Jvm.Cond.instanceMethod y).before a0 Z = true) (w4 : (Jvm.Cond.code y bytes maxL none).before a0 Z = true) (w3 : (Jvm.Cond.initialized y.cls).before a0 Z = true) (hy : y.cls ≠ "java/lang/invoke/MethodHandle" ∧ y.cls ≠ "java/lang/invoke/VarHandle")
    {rm : Room} {as : Array Value} {Q : Option Value → Heap → List Loc → Prop} (hM : own_C l Z y bytes maxL none [] rm as h Q) {W : Nat}
    {g : JFrame} (hg : g.method = m) (hsize : g.locals.size = c.maxLocals) {a : Addr} {argsL rest : List Value} (hlen : ∀ sig, parseMethodDescriptor y.desc = some sig → argsL.length = sig.parameters.length)
    (hst : g.stack = argsL.reverse ++ .ref a :: rest) (has : (.ref a :: argsL).toArray = as) (hW : 2 * g.monitorRoom + (rest.map fun v => v.category).sum ≤ W) (hd : decode c.code g.pc = .ok (.invokespecial index, 3)) (eT : T.heap = h)
    (hf : rm.frames + 1 ≤ R.frames) (hl : W + (maxL + 11) + rm.locals ≤ R.locals) (hc : cells + rm.cells ≤ R.cells) (hs : slots + rm.slots ≤ R.slots) :
    ∃ v T' L, Stand p l e R s m args below meth c T' (locs ++ L) (cells + rm.cells) (slots + rm.slots) ∧ Q v T'.heap L ∧ ∀ t, Steps p.tables e below (T'.setTop { g with pc := g.pc + 3, stack := v.toList ++ rest }) t → Steps p.tables e below (T.setTop g) t :=
  own_backI X hx hZ hown hy1 w1 w2 w4 w3 hy (backOf (W := W) hM hZ w4 w3 hf hl) hg hsize hlen hst has hW hd eT hc hs
theorem own_backV (X : Stand p l e R s m args below meth c T locs cells slots) (hx : p.tables.exec = Jvm.exec) (hZ : Z.Warmed39 s.vm) {own C : String} (hown : s.vm.findClass own = some m.cls) {index : Nat} {y : MethodName} {bytes : ByteArray} {maxL : Nat} {ret : Option FieldType}
    (w1 : (Jvm.Cond.methodLink own index y).before a0 Z = true) (w2 : (Jvm.Cond.declares y).before a0 Z = true) (w5 : (Jvm.Cond.selects C y y).before a0 Z = true) (w6 : (Jvm.Cond.instanceMethod y).before a0 Z = true) (w4 : (Jvm.Cond.code y bytes maxL ret).before a0 Z = true) (w3 : (Jvm.Cond.initialized y.cls).before a0 Z = true) (hy : y.cls ≠ "java/lang/invoke/MethodHandle" ∧ y.cls ≠ "java/lang/invoke/VarHandle")
    {W kc ks : Nat} {as : Array Value} {Q : Option Value → Heap → List Loc → Prop} (hK : own_B l R p e below s args y W as h kc ks Q) {b : Addr} (hE : Exa Z h b C) 
    {g : JFrame} (hg : g.method = m) (hsize : g.locals.size = c.maxLocals) {argsL rest : List Value} (hlen : ∀ sig, parseMethodDescriptor y.desc = some sig → argsL.length = sig.parameters.length)
    (hst : g.stack = argsL.reverse ++ .ref b :: rest) (has : (.ref b :: argsL).toArray = as) (hW : 2 * g.monitorRoom + (rest.map fun v => v.category).sum ≤ W) (hd : decode c.code g.pc = .ok (.invokevirtual index, 3)) (eT : T.heap = h)
    (hc : cells + kc ≤ R.cells) (hs : slots + ks ≤ R.slots) :
    ∃ v T' L, Stand p l e R s m args below meth c T' (locs ++ L) (cells + kc) (slots + ks) ∧ Q v T'.heap L ∧ ∀ t, Steps p.tables e below (T'.setTop { g with pc := g.pc + 3, stack := v.toList ++ rest }) t → Steps p.tables e below (T.setTop g) t := by
  obtain ⟨cq, kq, qa, qb, qc⟩ := isOf hZ eT hE
  obtain ⟨v, vm1, ⟨T1, L1, k1, n1⟩, -, X1, ⟨Lc, hQ, l1, y1, z1⟩, st⟩ := X.virtualBack hx (y := y) (z := y) hown (mvT hZ w1) (mvT hZ w2) (notFace_of_selects (args := #[]) (mvT hZ w5)) (mvT hZ w5) (mvT hZ w6) hy hK qa qc hg hsize (Steps.refl _) (argsL := argsL) (rest := rest) hlen hst hW hd (fun _ _ => ⟨has, eT, hc, hs⟩)
  dsimp only [Pt.U, Pt.locs, Pt.cells, Pt.slots] at X1 l1 y1 z1 st hQ
  subst l1 y1 z1
  exact ⟨v, T1, Lc, X1, hQ, fun _ k => st.trans k⟩
theorem own_callV (X : Stand p l e R s m args below meth c T locs cells slots) (hx : p.tables.exec = Jvm.exec) (hZ : Z.Warmed39 s.vm) {own C : String} (hown : s.vm.findClass own = some m.cls) {index : Nat} {y : MethodName} {bytes : ByteArray} {maxL : Nat} {ret : Option FieldType}
    (w1 : (Jvm.Cond.methodLink own index y).before a0 Z = true) (w2 : (Jvm.Cond.declares y).before a0 Z = true) (w5 : (Jvm.Cond.selects C y y).before a0 Z = true) (w6 : (Jvm.Cond.instanceMethod y).before a0 Z = true) (w4 : (Jvm.Cond.code y bytes maxL ret).before a0 Z = true) (w3 : (Jvm.Cond.initialized y.cls).before a0 Z = true) (hy : y.cls ≠ "java/lang/invoke/MethodHandle" ∧ y.cls ≠ "java/lang/invoke/VarHandle")
    {rm : Room} {as : Array Value} {Q : Option Value → Heap → List Loc → Prop} (hM : own_C l Z y bytes maxL ret [] rm as h Q) {b : Addr} (hE : Exa Z h b C) {W : Nat}
    {g : JFrame} (hg : g.method = m) (hsize : g.locals.size = c.maxLocals) {argsL rest : List Value} (hlen : ∀ sig, parseMethodDescriptor y.desc = some sig → argsL.length = sig.parameters.length)
    (hst : g.stack = argsL.reverse ++ .ref b :: rest) (has : (.ref b :: argsL).toArray = as) (hW : 2 * g.monitorRoom + (rest.map fun v => v.category).sum ≤ W) (hd : decode c.code g.pc = .ok (.invokevirtual index, 3)) (eT : T.heap = h)
    (hf : rm.frames + 1 ≤ R.frames) (hl : W + (maxL + 11) + rm.locals ≤ R.locals) (hc : cells + rm.cells ≤ R.cells) (hs : slots + rm.slots ≤ R.slots) :
    ∃ v T' L, Stand p l e R s m args below meth c T' (locs ++ L) (cells + rm.cells) (slots + rm.slots) ∧ Q v T'.heap L ∧ ∀ t, Steps p.tables e below (T'.setTop { g with pc := g.pc + 3, stack := v.toList ++ rest }) t → Steps p.tables e below (T.setTop g) t :=
  own_backV X hx hZ hown w1 w2 w5 w6 w4 w3 hy (backOf (W := W) hM hZ w4 w3 hf hl) hE hg hsize hlen hst has hW hd eT hc hs
end OwnKit

theorem d1_0 : decode prog_7_method_1_code 0 = .ok (.aload_n 0, 1) := by decide +kernel
theorem d1_1 : decode prog_7_method_1_code 1 = .ok (.invokespecial 1, 3) := by decide +kernel
theorem d1_4 : decode prog_7_method_1_code 4 = .ok (.aload_n 0, 1) := by decide +kernel
theorem d1_5 : decode prog_7_method_1_code 5 = .ok (.aload_n 1, 1) := by decide +kernel
theorem d1_6 : decode prog_7_method_1_code 6 = .ok (.putfield 7, 3) := by decide +kernel
theorem d1_9 : decode prog_7_method_1_code 9 = .ok (.aload_n 0, 1) := by decide +kernel
theorem d1_10 : decode prog_7_method_1_code 10 = .ok (.iload_n 2, 1) := by decide +kernel
theorem d1_11 : decode prog_7_method_1_code 11 = .ok (.putfield 13, 3) := by decide +kernel
theorem d1_14 : decode prog_7_method_1_code 14 = .ok (.return_, 1) := by decide +kernel

theorem d3_0 : decode prog_7_method_5_code 0 = .ok (.dconst 0, 1) := by decide +kernel
theorem d3_1 : decode prog_7_method_5_code 1 = .ok (.dstore_n 1, 1) := by decide +kernel
theorem d3_2 : decode prog_7_method_5_code 2 = .ok (.iconst 0, 1) := by decide +kernel
theorem d3_3 : decode prog_7_method_5_code 3 = .ok (.istore_n 3, 1) := by decide +kernel
theorem d3_4 : decode prog_7_method_5_code 4 = .ok (.iconst 1, 1) := by decide +kernel
theorem d3_5 : decode prog_7_method_5_code 5 = .ok (.istore 4, 2) := by decide +kernel
theorem d3_7 : decode prog_7_method_5_code 7 = .ok (.iload 4, 2) := by decide +kernel
theorem d3_9 : decode prog_7_method_5_code 9 = .ok (.aload_n 0, 1) := by decide +kernel
theorem d3_10 : decode prog_7_method_5_code 10 = .ok (.getfield 7, 3) := by decide +kernel
theorem d3_13 : decode prog_7_method_5_code 13 = .ok (.arraylength, 1) := by decide +kernel
theorem d3_14 : decode prog_7_method_5_code 14 = .ok (.if_icmp .gt 33, 3) := by decide +kernel
theorem d3_17 : decode prog_7_method_5_code 17 = .ok (.aload_n 0, 1) := by decide +kernel
theorem d3_18 : decode prog_7_method_5_code 18 = .ok (.getfield 7, 3) := by decide +kernel
theorem d3_21 : decode prog_7_method_5_code 21 = .ok (.iload 4, 2) := by decide +kernel
theorem d3_23 : decode prog_7_method_5_code 23 = .ok (.iconst 1, 1) := by decide +kernel
theorem d3_24 : decode prog_7_method_5_code 24 = .ok (.isub, 1) := by decide +kernel
theorem d3_25 : decode prog_7_method_5_code 25 = .ok (.baload, 1) := by decide +kernel
theorem d3_26 : decode prog_7_method_5_code 26 = .ok (.ifCond .eq 15, 3) := by decide +kernel
theorem d3_29 : decode prog_7_method_5_code 29 = .ok (.iinc 3 1, 3) := by decide +kernel
theorem d3_32 : decode prog_7_method_5_code 32 = .ok (.dload_n 1, 1) := by decide +kernel
theorem d3_33 : decode prog_7_method_5_code 33 = .ok (.iload_n 3, 1) := by decide +kernel
theorem d3_34 : decode prog_7_method_5_code 34 = .ok (.i2d, 1) := by decide +kernel
theorem d3_35 : decode prog_7_method_5_code 35 = .ok (.iload 4, 2) := by decide +kernel
theorem d3_37 : decode prog_7_method_5_code 37 = .ok (.i2d, 1) := by decide +kernel
theorem d3_38 : decode prog_7_method_5_code 38 = .ok (.ddiv, 1) := by decide +kernel
theorem d3_39 : decode prog_7_method_5_code 39 = .ok (.dadd, 1) := by decide +kernel
theorem d3_40 : decode prog_7_method_5_code 40 = .ok (.dstore_n 1, 1) := by decide +kernel
theorem d3_41 : decode prog_7_method_5_code 41 = .ok (.iinc 4 1, 3) := by decide +kernel
theorem d3_44 : decode prog_7_method_5_code 44 = .ok (.goto (-37), 3) := by decide +kernel
theorem d3_47 : decode prog_7_method_5_code 47 = .ok (.iload_n 3, 1) := by decide +kernel
theorem d3_48 : decode prog_7_method_5_code 48 = .ok (.ifCond .ne 7, 3) := by decide +kernel
theorem d3_51 : decode prog_7_method_5_code 51 = .ok (.dconst 0, 1) := by decide +kernel
theorem d3_52 : decode prog_7_method_5_code 52 = .ok (.goto 10, 3) := by decide +kernel
theorem d3_55 : decode prog_7_method_5_code 55 = .ok (.dload_n 1, 1) := by decide +kernel
theorem d3_56 : decode prog_7_method_5_code 56 = .ok (.aload_n 0, 1) := by decide +kernel
theorem d3_57 : decode prog_7_method_5_code 57 = .ok (.getfield 13, 3) := by decide +kernel
theorem d3_60 : decode prog_7_method_5_code 60 = .ok (.i2d, 1) := by decide +kernel
theorem d3_61 : decode prog_7_method_5_code 61 = .ok (.ddiv, 1) := by decide +kernel
theorem d3_62 : decode prog_7_method_5_code 62 = .ok (.dreturn, 1) := by decide +kernel

theorem d4_0 : decode method_2_code 0 = .ok (.iload_n 0, 1) := by decide +kernel
theorem d4_1 : decode method_2_code 1 = .ok (.ifCond .eq 11, 3) := by decide +kernel
theorem d4_4 : decode method_2_code 4 = .ok (.iload_n 1, 1) := by decide +kernel
theorem d4_5 : decode method_2_code 5 = .ok (.i2d, 1) := by decide +kernel
theorem d4_6 : decode method_2_code 6 = .ok (.iload_n 2, 1) := by decide +kernel
theorem d4_7 : decode method_2_code 7 = .ok (.i2d, 1) := by decide +kernel
theorem d4_8 : decode method_2_code 8 = .ok (.ddiv, 1) := by decide +kernel
theorem d4_9 : decode method_2_code 9 = .ok (.goto 4, 3) := by decide +kernel
theorem d4_12 : decode method_2_code 12 = .ok (.dconst 0, 1) := by decide +kernel
theorem d4_13 : decode method_2_code 13 = .ok (.dreturn, 1) := by decide +kernel

theorem pn_0 : plainFor x = true := by first | exact plainFor_of_name (by first | (simp [plainName, overriddenIn]; done) | decide +kernel) | decide +kernel

theorem pn_1 : plainFor (⟨"com/example/kookaburra/kookaburra/eval/Ranking", "<init>", "([ZI)V"⟩ : MethodName) = true := by first | exact plainFor_of_name (by first | (simp [plainName, overriddenIn]; done) | decide +kernel) | decide +kernel

theorem pn_3 : plainFor (⟨"com/example/kookaburra/kookaburra/eval/Ranking", "averagePrecision", "()D"⟩ : MethodName) = true := by first | exact plainFor_of_name (by first | (simp [plainName, overriddenIn]; done) | decide +kernel) | decide +kernel

theorem pn_4 : plainFor (⟨"com/example/kookaburra/kookaburra/eval/RankingAveragePrecisionPinLaw", "term", "(ZII)D"⟩ : MethodName) = true := by first | exact plainFor_of_name (by first | (simp [plainName, overriddenIn]; done) | decide +kernel) | decide +kernel

theorem pd___ZI_V : parseMethodDescriptor "([ZI)V" = some ⟨[(.array .boolean), .int], none⟩ := by decide +kernel
theorem pd___D : parseMethodDescriptor "()D" = some ⟨[], some .double⟩ := by decide +kernel
theorem pd___V : parseMethodDescriptor "()V" = some ⟨[], none⟩ := by decide +kernel
theorem pd__ZII_D : parseMethodDescriptor "(ZII)D" = some ⟨[.boolean, .int, .int], some .double⟩ := by decide +kernel

def own_Qr (r : Option Value) (h0 : Heap) (n0 : Nat) (v : Option Value) (h : Heap) (L : List Loc) : Prop := v = r ∧ Fr n0 L ∧ h = h0
def own_tm (r f i : Int32) : UInt64 := if r = 0 then FP.dconst0 else FP.ddiv (FP.i2d f) (FP.i2d i)
set_option maxRecDepth 65536 in
set_option maxHeartbeats 4000000 in
theorem rmTm (l : Launch) (Z : State) (a0 : Array Value) (hw : ∀ d ∈ tables_1, d.before a0 Z = true) (ws : List Jvm.Cond) (h0 : Heap) (n0 : Nat) (r f i : Int32) (hi : i ≠ 0) :
    own_C l Z (⟨"com/example/kookaburra/kookaburra/eval/RankingAveragePrecisionPinLaw", "term", "(ZII)D"⟩ : MethodName) method_2_code 3 (some .double) ws ({ frames := 0, cells := 0, slots := 0, locals := 0 } : Room) #[(.int r), (.int f), (.int i)] h0 (own_Qr (some (.double (own_tm r f i))) h0 n0) := by
  refine own_body (ls := #[.val (.int r), .val (.int f), .val (.int i)]) pn_4 (fun m => by first | (simp [entryFrame, mkF, argsToLocals, Value.category]; done) | rfl) ?_
  intro p e s m below meth c T0 hZ hx hby hml hown hnm hret hlk X0 e0
  replace hml : c.maxLocals = 3 := hml
  have N0 := Fr.nil n0
  refine own_go (fun _ => XS.iloadN X0.here hx rfl (hb hby d4_0) rfl ) ?_
  show own_R p.tables e below _ T0 (mkF m 1 #[.val (.int r), .val (.int f), .val (.int i)] [(.int r)])
  by_cases hr : r = (0 : Int32)
  · show own_R p.tables e below _ T0 (mkF m 1 #[.val (.int r), .val (.int f), .val (.int i)] [(.int r)])
    refine own_go (fun _ => XS.ifYes X0.here hx rfl (pc0 := 1) (pc' := 12) rfl (hb hby d4_1) rfl ((if0 _ _).trans (teq hr).1) (by decide) (by decide)) ?_
    show own_R p.tables e below _ T0 (mkF m 12 #[.val (.int r), .val (.int f), .val (.int i)] [])
    refine own_go (fun _ => XS.dconst0 X0.here hx rfl (hb hby d4_12) rfl) ?_
    show own_R p.tables e below _ T0 (mkF m 13 #[.val (.int r), .val (.int f), .val (.int i)] [(.double FP.dconst0)])
    have ev : own_tm r f i = FP.dconst0 := if_pos hr
    exact own_end X0 (some (.double FP.dconst0)) (fun h => by rw [hret] at h; cases h) hlk (fun fs hr => own_retD X0 hx hret (hb hby d4_13) hr) ⟨by rw [ev], N0, e0⟩ (by decide) (by decide)
  · show own_R p.tables e below _ T0 (mkF m 1 #[.val (.int r), .val (.int f), .val (.int i)] [(.int r)])
    refine own_go (fun _ => XS.ifNo X0.here hx rfl (hb hby d4_1) rfl ((if0 _ _).trans (feq hr).1)) ?_
    show own_R p.tables e below _ T0 (mkF m 4 #[.val (.int r), .val (.int f), .val (.int i)] [])
    refine own_go (fun _ => XS.iloadN X0.here hx rfl (hb hby d4_4) rfl ) ?_
    show own_R p.tables e below _ T0 (mkF m 5 #[.val (.int r), .val (.int f), .val (.int i)] [(.int f)])
    refine own_go (fun _ => XS.i2dS X0.here hx rfl (hb hby d4_5) rfl rfl) ?_
    show own_R p.tables e below _ T0 (mkF m 6 #[.val (.int r), .val (.int f), .val (.int i)] [(.double (FP.i2d f))])
    refine own_go (fun _ => XS.iloadN X0.here hx rfl (hb hby d4_6) rfl ) ?_
    show own_R p.tables e below _ T0 (mkF m 7 #[.val (.int r), .val (.int f), .val (.int i)] [(.int i), (.double (FP.i2d f))])
    refine own_go (fun _ => XS.i2dS X0.here hx rfl (hb hby d4_7) rfl rfl) ?_
    show own_R p.tables e below _ T0 (mkF m 8 #[.val (.int r), .val (.int f), .val (.int i)] [(.double (FP.i2d i)), (.double (FP.i2d f))])
    refine own_go (fun _ => XS.ddivS X0.here hx rfl (hb hby d4_8) rfl (Jvm.Free.Fl.ddiv_out (Jvm.Free.Fl.i2d_fin f).noNaN (Jvm.Free.Fl.i2d_fin i) (Jvm.Free.Fl.i2d_nz hi)) rfl) ?_
    show own_R p.tables e below _ T0 (mkF m 9 #[.val (.int r), .val (.int f), .val (.int i)] [(.double (FP.ddiv (FP.i2d f) (FP.i2d i)))])
    refine own_go (fun _ => XS.goto X0.here hx rfl (pc0 := 9) (pc' := 13) rfl (hb hby d4_9) (by decide) (by decide)) ?_
    show own_R p.tables e below _ T0 (mkF m 13 #[.val (.int r), .val (.int f), .val (.int i)] [(.double (FP.ddiv (FP.i2d f) (FP.i2d i)))])
    have ev : own_tm r f i = FP.ddiv (FP.i2d f) (FP.i2d i) := if_neg hr
    exact own_end X0 (some (.double (FP.ddiv (FP.i2d f) (FP.i2d i)))) (fun h => by rw [hret] at h; cases h) hlk (fun fs hr => own_retD X0 hx hret (hb hby d4_13) hr) ⟨by rw [ev], N0, e0⟩ (by decide) (by decide)
def own_Qi (Z : State) (a t : Addr) (rc : Int32) (h0 : Heap) (n0 : Nat) (v : Option Value) (h : Heap) (L : List Loc) : Prop := v = none ∧ Fr n0 L ∧ Keep h0 h [a] ∧ Exa Z h a "com/example/kookaburra/kookaburra/eval/Ranking" ∧ Fld Z h a "com/example/kookaburra/kookaburra/eval/Ranking" "relevantAt" "[Z" (.ref t) ∧ Fld Z h a "com/example/kookaburra/kookaburra/eval/Ranking" "relevantCount" "I" (.int rc)
set_option maxRecDepth 65536 in
set_option maxHeartbeats 4000000 in
theorem rmInit (l : Launch) (Z : State) (a0 : Array Value) (hw : ∀ d ∈ tables_1, d.before a0 Z = true) (ws : List Jvm.Cond) (h0 : Heap) (n0 : Nat) (a t : Addr) (rc : Int32) (g9 : n0 ≤ a) (E : Exa Z h0 a "com/example/kookaburra/kookaburra/eval/Ranking") (FrelevantAt : Fld Z h0 a "com/example/kookaburra/kookaburra/eval/Ranking" "relevantAt" "[Z" .null) (FrelevantCount : Fld Z h0 a "com/example/kookaburra/kookaburra/eval/Ranking" "relevantCount" "I" (.int 0)) :
    own_C l Z (⟨"com/example/kookaburra/kookaburra/eval/Ranking", "<init>", "([ZI)V"⟩ : MethodName) prog_7_method_1_code 3 none ws ({ frames := 1, cells := 0, slots := 0, locals := 12 } : Room) #[(.ref a), (.ref t), (.int rc)] h0 (own_Qi Z a t rc h0 n0) := by
  refine own_body (ls := #[.val (.ref a), .val (.ref t), .val (.int rc)]) pn_1 (fun m => by first | (simp [entryFrame, mkF, argsToLocals, Value.category]; done) | rfl) ?_
  intro p e s m below meth c T0 hZ hx hby hml hown hnm hret hlk X0 e0
  replace hml : c.maxLocals = 3 := hml
  have N0 := Fr.nil n0
  refine own_go (fun _ => XS.aloadN X0.here hx rfl (hb hby d1_0) rfl rfl) ?_
  show own_R p.tables e below _ T0 (mkF m 1 #[.val (.ref a), .val (.ref t), .val (.int rc)] [(.ref a)])
  obtain ⟨T1, X1, e1, st1⟩ := initO X0 hx hZ hown (hw _ (List.mem_of_getElem? (i := 9) rfl)) (hw _ (List.mem_of_getElem? (i := 10) rfl)) (hw _ (List.mem_of_getElem? (i := 11) rfl)) e0 (g := (mkF m 1 #[.val (.ref a), .val (.ref t), .val (.int rc)] [(.ref a)])) rfl (by rw [hml]; rfl) rfl (hb hby d1_1) (by decide) (W := 0) (by show 2 * 0 + _ ≤ _; exact Nat.le_of_eq rfl) (by decide)
  refine own_go st1 ?_
  show own_R p.tables e below _ T1 (mkF m 4 #[.val (.ref a), .val (.ref t), .val (.int rc)] [])
  refine own_go (fun _ => XS.aloadN X1.here hx rfl (hb hby d1_4) rfl rfl) ?_
  show own_R p.tables e below _ T1 (mkF m 5 #[.val (.ref a), .val (.ref t), .val (.int rc)] [(.ref a)])
  refine own_go (fun _ => XS.aloadN X1.here hx rfl (hb hby d1_5) rfl rfl) ?_
  show own_R p.tables e below _ T1 (mkF m 6 #[.val (.ref a), .val (.ref t), .val (.int rc)] [(.ref t), (.ref a)])
  obtain ⟨T2, h2, X2, e2, W2, st2⟩ := putF X1 hx hZ hown (host := "") (Or.inl (hw _ (List.mem_of_getElem? (i := 12) rfl))) Via.refl e1 FrelevantAt E (Or.inr ⟨(hw _ (List.mem_of_getElem? (i := 13) rfl)), rfl, hnm⟩) (hw _ (List.mem_of_getElem? (i := 4) rfl)) (ty := (.array .boolean)) (by decide) rfl rfl (g := (mkF m 6 #[.val (.ref a), .val (.ref t), .val (.int rc)] [(.ref t), (.ref a)])) rfl rfl (hb hby d1_6)
  refine own_go st2 ?_
  show own_R p.tables e below _ T2 (mkF m 9 #[.val (.ref a), .val (.ref t), .val (.int rc)] [])
  have N2 := Fr.snoc X2 N0 g9
  have K2 : Keep h0 h2 [a] := (Keep.refl h0 [a]).wr W2 (Or.inl (List.mem_singleton.mpr rfl))
  have E2 : Exa Z h2 a "com/example/kookaburra/kookaburra/eval/Ranking" := E.wr W2
  have FrelevantAt2 := FrelevantAt.same W2
  have FrelevantCount2 := FrelevantCount.other W2 (Or.inr (slot_ne (Or.inr (hw _ (List.mem_of_getElem? (i := 15) rfl))) (Or.inr (hw _ (List.mem_of_getElem? (i := 13) rfl))) (by decide) (t := .int) (t' := (.array .boolean)) (by decide) (by decide)))
  refine own_go (fun _ => XS.aloadN X2.here hx rfl (hb hby d1_9) rfl rfl) ?_
  show own_R p.tables e below _ T2 (mkF m 10 #[.val (.ref a), .val (.ref t), .val (.int rc)] [(.ref a)])
  refine own_go (fun _ => XS.iloadN X2.here hx rfl (hb hby d1_10) rfl ) ?_
  show own_R p.tables e below _ T2 (mkF m 11 #[.val (.ref a), .val (.ref t), .val (.int rc)] [(.int rc), (.ref a)])
  obtain ⟨T3, h3, X3, e3, W3, st3⟩ := putF X2 hx hZ hown (host := "") (Or.inl (hw _ (List.mem_of_getElem? (i := 14) rfl))) Via.refl e2 FrelevantCount2 E2 (Or.inr ⟨(hw _ (List.mem_of_getElem? (i := 15) rfl)), rfl, hnm⟩) (hw _ (List.mem_of_getElem? (i := 4) rfl)) (ty := .int) (by decide) rfl rfl (g := (mkF m 11 #[.val (.ref a), .val (.ref t), .val (.int rc)] [(.int rc), (.ref a)])) rfl rfl (hb hby d1_11)
  refine own_go st3 ?_
  show own_R p.tables e below _ T3 (mkF m 14 #[.val (.ref a), .val (.ref t), .val (.int rc)] [])
  have N3 := Fr.snoc X3 N2 g9
  have K3 : Keep h0 h3 [a] := K2.wr W3 (Or.inl (List.mem_singleton.mpr rfl))
  have E3 : Exa Z h3 a "com/example/kookaburra/kookaburra/eval/Ranking" := E2.wr W3
  have FrelevantAt3 := FrelevantAt2.other W3 (Or.inr (slot_ne (Or.inr (hw _ (List.mem_of_getElem? (i := 13) rfl))) (Or.inr (hw _ (List.mem_of_getElem? (i := 15) rfl))) (by decide) (t := (.array .boolean)) (t' := .int) (by decide) (by decide)))
  have FrelevantCount3 := FrelevantCount2.same W3
  exact own_end X3 none (fun _ => rfl) hlk (fun fs hr => X3.returnOut hx hret (hb hby d1_14) hr) (by show own_Qi Z a t rc h0 n0 _ T3.heap _; rw [e3]; exact ⟨rfl, N3, K3, E3, FrelevantAt3, FrelevantCount3⟩) (by decide) (by decide)
def own_st : List Int32 → Nat → Int32 → UInt64 → Int32 × UInt64
  | [], _, f, s => (f, s)
  | b :: r, i, f, s => if b = 0 then own_st r (i + 1) f s else own_st r (i + 1) (f + 1) (FP.dadd s (FP.ddiv (FP.i2d (f + 1)) (FP.i2d (Int32.ofNat i))))
def own_ok : List Int32 → Nat → Int32 → UInt64 → Bool
  | [], _, _, _ => true
  | b :: r, i, f, s => if b = 0 then own_ok r (i + 1) f s else decide (FP.ddiv (FP.i2d (f + 1)) (FP.i2d (Int32.ofNat i)) &&& 0x7fffffffffffffff ≤ 0x7ff0000000000000) && (decide (FP.dadd s (FP.ddiv (FP.i2d (f + 1)) (FP.i2d (Int32.ofNat i))) &&& 0x7fffffffffffffff ≤ 0x7ff0000000000000) && own_ok r (i + 1) (f + 1) (FP.dadd s (FP.ddiv (FP.i2d (f + 1)) (FP.i2d (Int32.ofNat i)))))
theorem own_st_app (k : Nat) : ∀ (bs : List Int32) (i : Nat) (f : Int32) (s : UInt64), own_st (bs ++ List.replicate k 0) i f s = own_st bs i f s
  | [], i, f, s => by
    induction k generalizing i with
    | zero => rfl
    | succ k ih => exact (if_pos rfl).trans (ih (i + 1))
  | b :: r, i, f, s => by
    show (if b = 0 then own_st (r ++ List.replicate k 0) (i + 1) f s else own_st (r ++ List.replicate k 0) (i + 1) (f + 1) _) = (if b = 0 then own_st r (i + 1) f s else own_st r (i + 1) (f + 1) _)
    rw [own_st_app k r, own_st_app k r]
theorem own_ok_app (k : Nat) : ∀ (bs : List Int32) (i : Nat) (f : Int32) (s : UInt64), own_ok (bs ++ List.replicate k 0) i f s = own_ok bs i f s
  | [], i, f, s => by
    induction k generalizing i with
    | zero => rfl
    | succ k ih => exact (if_pos rfl).trans (ih (i + 1))
  | b :: r, i, f, s => by
    show (if b = 0 then own_ok (r ++ List.replicate k 0) (i + 1) f s else _ && (_ && own_ok (r ++ List.replicate k 0) (i + 1) (f + 1) _)) = (if b = 0 then own_ok r (i + 1) f s else _ && (_ && own_ok r (i + 1) (f + 1) _))
    rw [own_ok_app k r, own_ok_app k r]
def own_ap (q : Int32 × UInt64) (rc : Int32) : UInt64 := if q.1 = 0 then FP.dconst0 else FP.ddiv q.2 (FP.i2d rc)
theorem own_ix : ∀ (N i : Fin 8), i.val < N.val → ((¬ (Int32.ofNat (i.val + 1) - (1 : Int32)) < 0 ∧ (Int32.ofNat (i.val + 1) - (1 : Int32)) < Int32.ofNat N.val) ∧ (Int32.ofNat (i.val + 1) - (1 : Int32)).toNatClampNeg = i.val) ∧ (¬ Int32.ofNat N.val < Int32.ofNat (i.val + 1)) ∧ Int32.ofNat (i.val + 1) + (1 : Int32) = Int32.ofNat (i.val + 1 + 1) := by
  decide +kernel
theorem own_iy : ∀ N : Fin 8, Int32.ofNat N.val < Int32.ofNat (N.val + 1) := by decide +kernel
set_option maxRecDepth 65536 in
set_option maxHeartbeats 4000000 in
theorem rmAP (l : Launch) (Z : State) (a0 : Array Value) (hw : ∀ d ∈ tables_1, d.before a0 Z = true) (ws : List Jvm.Cond) (h0 : Heap) (n0 : Nat) (a t : Addr) {kt : ClassId} (rc : Int32) (bs : List Int32) (hN : bs.length ≤ 7) (hok : own_ok bs 1 0 FP.dconst0 = true) (hfin : ¬ (own_st bs 1 0 FP.dconst0).1 = 0 → Jvm.Free.Fl.NoNaN64 (FP.ddiv (own_st bs 1 0 FP.dconst0).2 (FP.i2d rc))) (F : Fld Z h0 a "com/example/kookaburra/kookaburra/eval/Ranking" "relevantAt" "[Z" (.ref t)) (Fc : Fld Z h0 a "com/example/kookaburra/kookaburra/eval/Ranking" "relevantCount" "I" (.int rc)) (V : Arv Z h0 t kt .boolean (Int32.ofNat bs.length) (bs.map Value.int) (.int 0)) :
    own_C l Z (⟨"com/example/kookaburra/kookaburra/eval/Ranking", "averagePrecision", "()D"⟩ : MethodName) prog_7_method_5_code 5 (some .double) ws ({ frames := 0, cells := 0, slots := 0, locals := 0 } : Room) #[(.ref a)] h0 (own_Qr (some (.double (own_ap (own_st bs 1 0 FP.dconst0) rc))) h0 n0) := by
  refine own_body (ls := #[.val (.ref a), .unset, .unset, .unset, .unset]) pn_3 (fun m => by first | (simp [entryFrame, mkF, argsToLocals, Value.category]; done) | rfl) ?_
  intro p e s m below meth c T0 hZ hx hby hml hown hnm hret hlk X0 e0
  replace hml : c.maxLocals = 5 := hml
  have N0 := Fr.nil n0
  have loop : ∀ (k i : Nat) (f : Int32) (sm : UInt64) (Tl : State), Stand p l e ({ frames := 0, cells := 0, slots := 0, locals := 0 } : Room) s m #[(.ref a)] below meth c Tl [] 0 0 → Tl.heap = h0 → i + k = bs.length → own_st bs 1 0 FP.dconst0 = own_st (bs.drop i) (i + 1) f sm → own_ok (bs.drop i) (i + 1) f sm = true → own_R p.tables e below (own_E s below (own_Qr (some (.double (own_ap (own_st bs 1 0 FP.dconst0) rc))) h0 n0) (({ frames := 0, cells := 0, slots := 0, locals := 0 } : Room)).cells (({ frames := 0, cells := 0, slots := 0, locals := 0 } : Room)).slots) Tl (mkF m 7 #[.val (.ref a), .val (.double sm), .second, .val (.int f), .val (.int (Int32.ofNat (i + 1)))] []) := by
    intro k
    induction k with
    | zero =>
      intro i f sm Tl Xl el hik hinv hok1
      obtain rfl : i = bs.length := by omega
      rw [List.drop_length] at hinv
      replace hinv : own_st bs 1 0 FP.dconst0 = (f, sm) := hinv
      show own_R p.tables e below _ Tl (mkF m 7 #[.val (.ref a), .val (.double sm), .second, .val (.int f), .val (.int (Int32.ofNat (bs.length + 1)))] [])
      refine own_go (fun _ => XS.iload Xl.here hx rfl (hb hby d3_7) rfl ) ?_
      show own_R p.tables e below _ Tl (mkF m 9 #[.val (.ref a), .val (.double sm), .second, .val (.int f), .val (.int (Int32.ofNat (bs.length + 1)))] [(.int (Int32.ofNat (bs.length + 1)))])
      refine own_go (fun _ => XS.aloadN Xl.here hx rfl (hb hby d3_9) rfl rfl) ?_
      show own_R p.tables e below _ Tl (mkF m 10 #[.val (.ref a), .val (.double sm), .second, .val (.int f), .val (.int (Int32.ofNat (bs.length + 1)))] [(.ref a), (.int (Int32.ofNat (bs.length + 1)))])
      obtain ⟨Ta1, Xa1, ea1, sta1⟩ := getF Xl hx hZ hown (host := "") (Or.inl (hw _ (List.mem_of_getElem? (i := 12) rfl))) Via.refl el F (g := (mkF m 10 #[.val (.ref a), .val (.double sm), .second, .val (.int f), .val (.int (Int32.ofNat (bs.length + 1)))] [(.ref a), (.int (Int32.ofNat (bs.length + 1)))])) rfl rfl (hb hby d3_10)
      refine own_go sta1 ?_
      show own_R p.tables e below _ Ta1 (mkF m 13 #[.val (.ref a), .val (.double sm), .second, .val (.int f), .val (.int (Int32.ofNat (bs.length + 1)))] [(.ref t), (.int (Int32.ofNat (bs.length + 1)))])
      refine own_go (own_len Xa1 hx hZ ea1 V (g := (mkF m 13 #[.val (.ref a), .val (.double sm), .second, .val (.int f), .val (.int (Int32.ofNat (bs.length + 1)))] [(.ref t), (.int (Int32.ofNat (bs.length + 1)))])) rfl rfl (hb hby d3_13)) ?_
      show own_R p.tables e below _ Ta1 (mkF m 14 #[.val (.ref a), .val (.double sm), .second, .val (.int f), .val (.int (Int32.ofNat (bs.length + 1)))] [(.int (Int32.ofNat bs.length)), (.int (Int32.ofNat (bs.length + 1)))])
      refine own_go (fun _ => XS.icmpYes Xa1.here hx rfl (pc0 := 14) (pc' := 47) rfl (hb hby d3_14) rfl (tlt (own_iy ⟨bs.length, by omega⟩)).2.2.1 (by decide) (by decide)) ?_
      show own_R p.tables e below _ Ta1 (mkF m 47 #[.val (.ref a), .val (.double sm), .second, .val (.int f), .val (.int (Int32.ofNat (bs.length + 1)))] [])
      refine own_go (fun _ => XS.iloadN Xa1.here hx rfl (hb hby d3_47) rfl ) ?_
      show own_R p.tables e below _ Ta1 (mkF m 48 #[.val (.ref a), .val (.double sm), .second, .val (.int f), .val (.int (Int32.ofNat (bs.length + 1)))] [(.int f)])
      by_cases hf : f = (0 : Int32)
      · show own_R p.tables e below _ Ta1 (mkF m 48 #[.val (.ref a), .val (.double sm), .second, .val (.int f), .val (.int (Int32.ofNat (bs.length + 1)))] [(.int f)])
        refine own_go (fun _ => XS.ifNo Xa1.here hx rfl (hb hby d3_48) rfl ((if0 _ _).trans (teq hf).2)) ?_
        show own_R p.tables e below _ Ta1 (mkF m 51 #[.val (.ref a), .val (.double sm), .second, .val (.int f), .val (.int (Int32.ofNat (bs.length + 1)))] [])
        refine own_go (fun _ => XS.dconst0 Xa1.here hx rfl (hb hby d3_51) rfl) ?_
        show own_R p.tables e below _ Ta1 (mkF m 52 #[.val (.ref a), .val (.double sm), .second, .val (.int f), .val (.int (Int32.ofNat (bs.length + 1)))] [(.double FP.dconst0)])
        refine own_go (fun _ => XS.goto Xa1.here hx rfl (pc0 := 52) (pc' := 62) rfl (hb hby d3_52) (by decide) (by decide)) ?_
        show own_R p.tables e below _ Ta1 (mkF m 62 #[.val (.ref a), .val (.double sm), .second, .val (.int f), .val (.int (Int32.ofNat (bs.length + 1)))] [(.double FP.dconst0)])
        have ev : own_ap (own_st bs 1 0 FP.dconst0) rc = FP.dconst0 := by rw [hinv]; exact if_pos hf
        exact own_end Xa1 (some (.double FP.dconst0)) (fun h => by rw [hret] at h; cases h) hlk (fun fs hr => own_retD Xa1 hx hret (hb hby d3_62) hr) ⟨by rw [ev], N0, ea1⟩ (by decide) (by decide)
      · show own_R p.tables e below _ Ta1 (mkF m 48 #[.val (.ref a), .val (.double sm), .second, .val (.int f), .val (.int (Int32.ofNat (bs.length + 1)))] [(.int f)])
        refine own_go (fun _ => XS.ifYes Xa1.here hx rfl (pc0 := 48) (pc' := 55) rfl (hb hby d3_48) rfl ((if0 _ _).trans (feq hf).2) (by decide) (by decide)) ?_
        show own_R p.tables e below _ Ta1 (mkF m 55 #[.val (.ref a), .val (.double sm), .second, .val (.int f), .val (.int (Int32.ofNat (bs.length + 1)))] [])
        refine own_go (fun _ => XS.dloadN Xa1.here hx rfl (hb hby d3_55) rfl ) ?_
        show own_R p.tables e below _ Ta1 (mkF m 56 #[.val (.ref a), .val (.double sm), .second, .val (.int f), .val (.int (Int32.ofNat (bs.length + 1)))] [(.double sm)])
        refine own_go (fun _ => XS.aloadN Xa1.here hx rfl (hb hby d3_56) rfl rfl) ?_
        show own_R p.tables e below _ Ta1 (mkF m 57 #[.val (.ref a), .val (.double sm), .second, .val (.int f), .val (.int (Int32.ofNat (bs.length + 1)))] [(.ref a), (.double sm)])
        obtain ⟨Ta2, Xa2, ea2, sta2⟩ := getF Xa1 hx hZ hown (host := "") (Or.inl (hw _ (List.mem_of_getElem? (i := 14) rfl))) Via.refl ea1 Fc (g := (mkF m 57 #[.val (.ref a), .val (.double sm), .second, .val (.int f), .val (.int (Int32.ofNat (bs.length + 1)))] [(.ref a), (.double sm)])) rfl rfl (hb hby d3_57)
        refine own_go sta2 ?_
        show own_R p.tables e below _ Ta2 (mkF m 60 #[.val (.ref a), .val (.double sm), .second, .val (.int f), .val (.int (Int32.ofNat (bs.length + 1)))] [(.int rc), (.double sm)])
        have hf2 : Jvm.Free.Fl.NoNaN64 (FP.ddiv sm (FP.i2d rc)) := by have := hfin (by rw [hinv]; exact hf); rw [hinv] at this; exact this
        refine own_go (fun _ => XS.i2dS Xa2.here hx rfl (hb hby d3_60) rfl rfl) ?_
        show own_R p.tables e below _ Ta2 (mkF m 61 #[.val (.ref a), .val (.double sm), .second, .val (.int f), .val (.int (Int32.ofNat (bs.length + 1)))] [(.double (FP.i2d rc)), (.double sm)])
        refine own_go (fun _ => XS.ddivS Xa2.here hx rfl (hb hby d3_61) rfl hf2 rfl) ?_
        show own_R p.tables e below _ Ta2 (mkF m 62 #[.val (.ref a), .val (.double sm), .second, .val (.int f), .val (.int (Int32.ofNat (bs.length + 1)))] [(.double (FP.ddiv sm (FP.i2d rc)))])
        have ev : own_ap (own_st bs 1 0 FP.dconst0) rc = FP.ddiv sm (FP.i2d rc) := by rw [hinv]; exact if_neg hf
        exact own_end Xa2 (some (.double (FP.ddiv sm (FP.i2d rc)))) (fun h => by rw [hret] at h; cases h) hlk (fun fs hr => own_retD Xa2 hx hret (hb hby d3_62) hr) ⟨by rw [ev], N0, ea2⟩ (by decide) (by decide)
    | succ k ih =>
      intro i f sm Tl Xl el hik hinv hok1
      have hi : i < bs.length := by omega
      obtain ⟨⟨i1, i2⟩, i3, i4⟩ := own_ix ⟨bs.length, by omega⟩ ⟨i, by omega⟩ hi
      dsimp only at i1 i2 i3 i4
      obtain ⟨b, hb0⟩ : ∃ b, bs[i]? = some b := ⟨bs[i], List.getElem?_eq_getElem hi⟩
      have hbe : bs[i] = b := by rw [List.getElem?_eq_getElem hi] at hb0; exact Option.some.inj hb0
      have hdr : bs.drop i = b :: bs.drop (i + 1) := by rw [List.drop_eq_getElem_cons hi, hbe]
      rw [hdr] at hinv hok1
      show own_R p.tables e below _ Tl (mkF m 7 #[.val (.ref a), .val (.double sm), .second, .val (.int f), .val (.int (Int32.ofNat (i + 1)))] [])
      refine own_go (fun _ => XS.iload Xl.here hx rfl (hb hby d3_7) rfl ) ?_
      show own_R p.tables e below _ Tl (mkF m 9 #[.val (.ref a), .val (.double sm), .second, .val (.int f), .val (.int (Int32.ofNat (i + 1)))] [(.int (Int32.ofNat (i + 1)))])
      refine own_go (fun _ => XS.aloadN Xl.here hx rfl (hb hby d3_9) rfl rfl) ?_
      show own_R p.tables e below _ Tl (mkF m 10 #[.val (.ref a), .val (.double sm), .second, .val (.int f), .val (.int (Int32.ofNat (i + 1)))] [(.ref a), (.int (Int32.ofNat (i + 1)))])
      obtain ⟨Tb1, Xb1, eb1, stb1⟩ := getF Xl hx hZ hown (host := "") (Or.inl (hw _ (List.mem_of_getElem? (i := 12) rfl))) Via.refl el F (g := (mkF m 10 #[.val (.ref a), .val (.double sm), .second, .val (.int f), .val (.int (Int32.ofNat (i + 1)))] [(.ref a), (.int (Int32.ofNat (i + 1)))])) rfl rfl (hb hby d3_10)
      refine own_go stb1 ?_
      show own_R p.tables e below _ Tb1 (mkF m 13 #[.val (.ref a), .val (.double sm), .second, .val (.int f), .val (.int (Int32.ofNat (i + 1)))] [(.ref t), (.int (Int32.ofNat (i + 1)))])
      refine own_go (own_len Xb1 hx hZ eb1 V (g := (mkF m 13 #[.val (.ref a), .val (.double sm), .second, .val (.int f), .val (.int (Int32.ofNat (i + 1)))] [(.ref t), (.int (Int32.ofNat (i + 1)))])) rfl rfl (hb hby d3_13)) ?_
      show own_R p.tables e below _ Tb1 (mkF m 14 #[.val (.ref a), .val (.double sm), .second, .val (.int f), .val (.int (Int32.ofNat (i + 1)))] [(.int (Int32.ofNat bs.length)), (.int (Int32.ofNat (i + 1)))])
      refine own_go (fun _ => XS.icmpNo Xb1.here hx rfl (hb hby d3_14) rfl (flt i3).2.2.1) ?_
      show own_R p.tables e below _ Tb1 (mkF m 17 #[.val (.ref a), .val (.double sm), .second, .val (.int f), .val (.int (Int32.ofNat (i + 1)))] [])
      refine own_go (fun _ => XS.aloadN Xb1.here hx rfl (hb hby d3_17) rfl rfl) ?_
      show own_R p.tables e below _ Tb1 (mkF m 18 #[.val (.ref a), .val (.double sm), .second, .val (.int f), .val (.int (Int32.ofNat (i + 1)))] [(.ref a)])
      obtain ⟨Tb2, Xb2, eb2, stb2⟩ := getF Xb1 hx hZ hown (host := "") (Or.inl (hw _ (List.mem_of_getElem? (i := 12) rfl))) Via.refl eb1 F (g := (mkF m 18 #[.val (.ref a), .val (.double sm), .second, .val (.int f), .val (.int (Int32.ofNat (i + 1)))] [(.ref a)])) rfl rfl (hb hby d3_18)
      refine own_go stb2 ?_
      show own_R p.tables e below _ Tb2 (mkF m 21 #[.val (.ref a), .val (.double sm), .second, .val (.int f), .val (.int (Int32.ofNat (i + 1)))] [(.ref t)])
      refine own_go (fun _ => XS.iload Xb2.here hx rfl (hb hby d3_21) rfl ) ?_
      show own_R p.tables e below _ Tb2 (mkF m 23 #[.val (.ref a), .val (.double sm), .second, .val (.int f), .val (.int (Int32.ofNat (i + 1)))] [(.int (Int32.ofNat (i + 1))), (.ref t)])
      refine own_go (fun _ => XS.iconst Xb2.here hx rfl (hb hby d3_23)) ?_
      show own_R p.tables e below _ Tb2 (mkF m 24 #[.val (.ref a), .val (.double sm), .second, .val (.int f), .val (.int (Int32.ofNat (i + 1)))] [(.int (1 : Int32)), (.int (Int32.ofNat (i + 1))), (.ref t)])
      refine own_go (fun _ => XS.isub Xb2.here hx rfl (hb hby d3_24) rfl) ?_
      show own_R p.tables e below _ Tb2 (mkF m 25 #[.val (.ref a), .val (.double sm), .second, .val (.int f), .val (.int (Int32.ofNat (i + 1)))] [(.int ((Int32.ofNat (i + 1)) - (1 : Int32))), (.ref t)])
      refine own_go (own_ldZ Xb2 hx hZ eb2 V (j := ((Int32.ofNat (i + 1)) - (1 : Int32))) i1 (v := (.int b)) (by rw [i2]; simp [List.getD, hb0]) (g := (mkF m 25 #[.val (.ref a), .val (.double sm), .second, .val (.int f), .val (.int (Int32.ofNat (i + 1)))] [(.int ((Int32.ofNat (i + 1)) - (1 : Int32))), (.ref t)])) rfl rfl (hb hby d3_25)) ?_
      show own_R p.tables e below _ Tb2 (mkF m 26 #[.val (.ref a), .val (.double sm), .second, .val (.int f), .val (.int (Int32.ofNat (i + 1)))] [(.int b)])
      by_cases hb1 : b = (0 : Int32)
      · show own_R p.tables e below _ Tb2 (mkF m 26 #[.val (.ref a), .val (.double sm), .second, .val (.int f), .val (.int (Int32.ofNat (i + 1)))] [(.int b)])
        refine own_go (fun _ => XS.ifYes Xb2.here hx rfl (pc0 := 26) (pc' := 41) rfl (hb hby d3_26) rfl ((if0 _ _).trans (teq hb1).1) (by decide) (by decide)) ?_
        show own_R p.tables e below _ Tb2 (mkF m 41 #[.val (.ref a), .val (.double sm), .second, .val (.int f), .val (.int (Int32.ofNat (i + 1)))] [])
        have hinv2 : own_st bs 1 0 FP.dconst0 = own_st (bs.drop (i + 1)) (i + 1 + 1) f sm := by rw [hinv]; exact if_pos hb1
        have hok2 : own_ok (bs.drop (i + 1)) (i + 1 + 1) f sm = true := by rw [← hok1]; exact (if_pos hb1).symm
        refine own_go (fun _ => XS.iinc Xb2.here hx rfl (hb hby d3_41) rfl (l' := #[.val (.ref a), .val (.double sm), .second, .val (.int f), .val (.int ((Int32.ofNat (i + 1)) + (1 : Int32)))]) rfl) ?_
        show own_R p.tables e below _ Tb2 (mkF m 44 #[.val (.ref a), .val (.double sm), .second, .val (.int f), .val (.int ((Int32.ofNat (i + 1)) + (1 : Int32)))] [])
        refine own_go (fun _ => XS.goto Xb2.here hx rfl (pc0 := 44) (pc' := 7) rfl (hb hby d3_44) (by decide) (by decide)) ?_
        show own_R p.tables e below _ Tb2 (mkF m 7 #[.val (.ref a), .val (.double sm), .second, .val (.int f), .val (.int ((Int32.ofNat (i + 1)) + (1 : Int32)))] [])
        rw [i4]
        exact ih (i + 1) f sm _ Xb2 eb2 (by omega) hinv2 hok2
      · show own_R p.tables e below _ Tb2 (mkF m 26 #[.val (.ref a), .val (.double sm), .second, .val (.int f), .val (.int (Int32.ofNat (i + 1)))] [(.int b)])
        refine own_go (fun _ => XS.ifNo Xb2.here hx rfl (hb hby d3_26) rfl ((if0 _ _).trans (feq hb1).1)) ?_
        show own_R p.tables e below _ Tb2 (mkF m 29 #[.val (.ref a), .val (.double sm), .second, .val (.int f), .val (.int (Int32.ofNat (i + 1)))] [])
        have hinv2 : own_st bs 1 0 FP.dconst0 = own_st (bs.drop (i + 1)) (i + 1 + 1) (f + 1) (FP.dadd sm (FP.ddiv (FP.i2d (f + (1 : Int32))) (FP.i2d (Int32.ofNat (i + 1))))) := by rw [hinv]; exact if_neg hb1
        have hok2 := ((if_neg hb1).symm.trans hok1 : (decide ((FP.ddiv (FP.i2d (f + (1 : Int32))) (FP.i2d (Int32.ofNat (i + 1)))) &&& 0x7fffffffffffffff ≤ 0x7ff0000000000000) && (decide (FP.dadd sm (FP.ddiv (FP.i2d (f + (1 : Int32))) (FP.i2d (Int32.ofNat (i + 1)))) &&& 0x7fffffffffffffff ≤ 0x7ff0000000000000) && own_ok (bs.drop (i + 1)) (i + 1 + 1) (f + 1) (FP.dadd sm (FP.ddiv (FP.i2d (f + (1 : Int32))) (FP.i2d (Int32.ofNat (i + 1))))))) = true)
        simp only [Bool.and_eq_true, decide_eq_true_eq] at hok2
        obtain ⟨o1, o2, o3⟩ := hok2
        refine own_go (fun _ => XS.iinc Xb2.here hx rfl (hb hby d3_29) rfl (l' := #[.val (.ref a), .val (.double sm), .second, .val (.int (f + (1 : Int32))), .val (.int (Int32.ofNat (i + 1)))]) rfl) ?_
        show own_R p.tables e below _ Tb2 (mkF m 32 #[.val (.ref a), .val (.double sm), .second, .val (.int (f + (1 : Int32))), .val (.int (Int32.ofNat (i + 1)))] [])
        refine own_go (fun _ => XS.dloadN Xb2.here hx rfl (hb hby d3_32) rfl ) ?_
        show own_R p.tables e below _ Tb2 (mkF m 33 #[.val (.ref a), .val (.double sm), .second, .val (.int (f + (1 : Int32))), .val (.int (Int32.ofNat (i + 1)))] [(.double sm)])
        refine own_go (fun _ => XS.iloadN Xb2.here hx rfl (hb hby d3_33) rfl ) ?_
        show own_R p.tables e below _ Tb2 (mkF m 34 #[.val (.ref a), .val (.double sm), .second, .val (.int (f + (1 : Int32))), .val (.int (Int32.ofNat (i + 1)))] [(.int (f + (1 : Int32))), (.double sm)])
        refine own_go (fun _ => XS.i2dS Xb2.here hx rfl (hb hby d3_34) rfl rfl) ?_
        show own_R p.tables e below _ Tb2 (mkF m 35 #[.val (.ref a), .val (.double sm), .second, .val (.int (f + (1 : Int32))), .val (.int (Int32.ofNat (i + 1)))] [(.double (FP.i2d (f + (1 : Int32)))), (.double sm)])
        refine own_go (fun _ => XS.iload Xb2.here hx rfl (hb hby d3_35) rfl ) ?_
        show own_R p.tables e below _ Tb2 (mkF m 37 #[.val (.ref a), .val (.double sm), .second, .val (.int (f + (1 : Int32))), .val (.int (Int32.ofNat (i + 1)))] [(.int (Int32.ofNat (i + 1))), (.double (FP.i2d (f + (1 : Int32)))), (.double sm)])
        refine own_go (fun _ => XS.i2dS Xb2.here hx rfl (hb hby d3_37) rfl rfl) ?_
        show own_R p.tables e below _ Tb2 (mkF m 38 #[.val (.ref a), .val (.double sm), .second, .val (.int (f + (1 : Int32))), .val (.int (Int32.ofNat (i + 1)))] [(.double (FP.i2d (Int32.ofNat (i + 1)))), (.double (FP.i2d (f + (1 : Int32)))), (.double sm)])
        refine own_go (fun _ => XS.ddivS Xb2.here hx rfl (hb hby d3_38) rfl o1 rfl) ?_
        show own_R p.tables e below _ Tb2 (mkF m 39 #[.val (.ref a), .val (.double sm), .second, .val (.int (f + (1 : Int32))), .val (.int (Int32.ofNat (i + 1)))] [(.double (FP.ddiv (FP.i2d (f + (1 : Int32))) (FP.i2d (Int32.ofNat (i + 1))))), (.double sm)])
        refine own_go (fun _ => XS.daddS Xb2.here hx rfl (hb hby d3_39) rfl o2 rfl) ?_
        show own_R p.tables e below _ Tb2 (mkF m 40 #[.val (.ref a), .val (.double sm), .second, .val (.int (f + (1 : Int32))), .val (.int (Int32.ofNat (i + 1)))] [(.double (FP.dadd sm (FP.ddiv (FP.i2d (f + (1 : Int32))) (FP.i2d (Int32.ofNat (i + 1))))))])
        refine own_go (fun _ => XS.dstoreN Xb2.here hx rfl (hb hby d3_40) rfl (l' := #[.val (.ref a), .val (.double (FP.dadd sm (FP.ddiv (FP.i2d (f + (1 : Int32))) (FP.i2d (Int32.ofNat (i + 1)))))), .second, .val (.int (f + (1 : Int32))), .val (.int (Int32.ofNat (i + 1)))]) rfl) ?_
        show own_R p.tables e below _ Tb2 (mkF m 41 #[.val (.ref a), .val (.double (FP.dadd sm (FP.ddiv (FP.i2d (f + (1 : Int32))) (FP.i2d (Int32.ofNat (i + 1)))))), .second, .val (.int (f + (1 : Int32))), .val (.int (Int32.ofNat (i + 1)))] [])
        refine own_go (fun _ => XS.iinc Xb2.here hx rfl (hb hby d3_41) rfl (l' := #[.val (.ref a), .val (.double (FP.dadd sm (FP.ddiv (FP.i2d (f + (1 : Int32))) (FP.i2d (Int32.ofNat (i + 1)))))), .second, .val (.int (f + (1 : Int32))), .val (.int ((Int32.ofNat (i + 1)) + (1 : Int32)))]) rfl) ?_
        show own_R p.tables e below _ Tb2 (mkF m 44 #[.val (.ref a), .val (.double (FP.dadd sm (FP.ddiv (FP.i2d (f + (1 : Int32))) (FP.i2d (Int32.ofNat (i + 1)))))), .second, .val (.int (f + (1 : Int32))), .val (.int ((Int32.ofNat (i + 1)) + (1 : Int32)))] [])
        refine own_go (fun _ => XS.goto Xb2.here hx rfl (pc0 := 44) (pc' := 7) rfl (hb hby d3_44) (by decide) (by decide)) ?_
        show own_R p.tables e below _ Tb2 (mkF m 7 #[.val (.ref a), .val (.double (FP.dadd sm (FP.ddiv (FP.i2d (f + (1 : Int32))) (FP.i2d (Int32.ofNat (i + 1)))))), .second, .val (.int (f + (1 : Int32))), .val (.int ((Int32.ofNat (i + 1)) + (1 : Int32)))] [])
        rw [i4]
        exact ih (i + 1) _ _ _ Xb2 eb2 (by omega) hinv2 o3
  refine own_go (fun _ => XS.dconst0 X0.here hx rfl (hb hby d3_0) rfl) ?_
  show own_R p.tables e below _ T0 (mkF m 1 #[.val (.ref a), .unset, .unset, .unset, .unset] [(.double FP.dconst0)])
  refine own_go (fun _ => XS.dstoreN X0.here hx rfl (hb hby d3_1) rfl (l' := #[.val (.ref a), .val (.double FP.dconst0), .second, .unset, .unset]) rfl) ?_
  show own_R p.tables e below _ T0 (mkF m 2 #[.val (.ref a), .val (.double FP.dconst0), .second, .unset, .unset] [])
  refine own_go (fun _ => XS.iconst X0.here hx rfl (hb hby d3_2)) ?_
  show own_R p.tables e below _ T0 (mkF m 3 #[.val (.ref a), .val (.double FP.dconst0), .second, .unset, .unset] [(.int (0 : Int32))])
  refine own_go (fun _ => XS.istoreN X0.here hx rfl (hb hby d3_3) rfl (l' := #[.val (.ref a), .val (.double FP.dconst0), .second, .val (.int (0 : Int32)), .unset]) rfl) ?_
  show own_R p.tables e below _ T0 (mkF m 4 #[.val (.ref a), .val (.double FP.dconst0), .second, .val (.int (0 : Int32)), .unset] [])
  refine own_go (fun _ => XS.iconst X0.here hx rfl (hb hby d3_4)) ?_
  show own_R p.tables e below _ T0 (mkF m 5 #[.val (.ref a), .val (.double FP.dconst0), .second, .val (.int (0 : Int32)), .unset] [(.int (1 : Int32))])
  refine own_go (fun _ => XS.istore X0.here hx rfl (hb hby d3_5) rfl (l' := #[.val (.ref a), .val (.double FP.dconst0), .second, .val (.int (0 : Int32)), .val (.int (1 : Int32))]) rfl) ?_
  show own_R p.tables e below _ T0 (mkF m 7 #[.val (.ref a), .val (.double FP.dconst0), .second, .val (.int (0 : Int32)), .val (.int (1 : Int32))] [])
  exact loop bs.length 0 0 FP.dconst0 T0 X0 e0 (by omega) rfl hok
def own_T (r1 r2 r3 r4 r5 : Int32) : UInt64 × UInt64 × UInt64 × UInt64 × UInt64 :=
  (own_tm r1 r1 1, own_tm r2 (r1 + r2) 2, own_tm r3 (r1 + r2 + r3) 3, own_tm r4 (r1 + r2 + r3 + r4) 4, own_tm r5 (r1 + r2 + r3 + r4 + r5) 5)
def own_nb (x : UInt64) : Bool := decide (x &&& 0x7fffffffffffffff ≤ 0x7ff0000000000000)
def own_fact (r1 r2 r3 r4 r5 : Int32) : Bool :=
  let s1 := FP.dadd FP.dconst0 (own_tm r1 r1 1)
  let s2 := FP.dadd s1 (own_tm r2 (r1 + r2) 2)
  let s3 := FP.dadd s2 (own_tm r3 (r1 + r2 + r3) 3)
  let s4 := FP.dadd s3 (own_tm r4 (r1 + r2 + r3 + r4) 4)
  let s5 := FP.dadd s4 (own_tm r5 (r1 + r2 + r3 + r4 + r5) 5)
  own_nb s1 && (own_nb s2 && (own_nb s3 && (own_nb s4 && (own_nb s5 && (own_ok [r1, r2, r3, r4, r5] 1 0 FP.dconst0 && (decide (own_st [r1, r2, r3, r4, r5] 1 0 FP.dconst0 = (r1 + r2 + r3 + r4 + r5, s5)) && decide (0 ≤ (r1 + r2 + r3 + r4 + r5).toInt ∧ (r1 + r2 + r3 + r4 + r5).toInt ≤ 5)))))))
theorem own_facts : ∀ x1 x2 x3 x4 x5 : Bool, own_fact (if x1 then 1 else 0) (if x2 then 1 else 0) (if x3 then 1 else 0) (if x4 then 1 else 0) (if x5 then 1 else 0) = true := by decide +kernel
theorem own_bit {r : Int32} (h : r = 0 ∨ r = 1) : ∃ x : Bool, r = if x then 1 else 0 := by
  rcases h with rfl | rfl
  · exact ⟨false, rfl⟩
  · exact ⟨true, rfl⟩
theorem own_factR {r1 r2 r3 r4 r5 : Int32} (h1 : r1 = 0 ∨ r1 = 1) (h2 : r2 = 0 ∨ r2 = 1) (h3 : r3 = 0 ∨ r3 = 1) (h4 : r4 = 0 ∨ r4 = 1) (h5 : r5 = 0 ∨ r5 = 1) : own_fact r1 r2 r3 r4 r5 = true := by
  obtain ⟨x1, rfl⟩ := own_bit h1
  obtain ⟨x2, rfl⟩ := own_bit h2
  obtain ⟨x3, rfl⟩ := own_bit h3
  obtain ⟨x4, rfl⟩ := own_bit h4
  obtain ⟨x5, rfl⟩ := own_bit h5
  exact own_facts x1 x2 x3 x4 x5
def own_n5 (n : Int32) : Prop := n = 0 ∨ n = 1 ∨ n = 2 ∨ n = 3 ∨ n = 4 ∨ n = 5
theorem own_rem6 (x y : Int32) (hx : 0 ≤ x.toInt) (hy : y.toInt = 6) : own_n5 (x % y) := by
  have q := (c_irem x y 6 hy).1 hx
  have : (x % y).toInt = 0 ∨ (x % y).toInt = 1 ∨ (x % y).toInt = 2 ∨ (x % y).toInt = 3 ∨ (x % y).toInt = 4 ∨ (x % y).toInt = 5 := by omega
  unfold own_n5
  simp only [← Int32.toInt_inj]
  exact this
def own_Q0 (n0 : Nat) (v : Option Value) (h : Heap) (L : List Loc) : Prop := v = some (.int (1 : Int32)) ∧ Fr n0 L
set_option maxRecDepth 65536 in
set_option maxHeartbeats 40000000 in
theorem rm0 (l : Launch) (Z : State) (a0 : Array Value) (hw : ∀ d ∈ tables_1, d.before a0 Z = true) (ws : List Jvm.Cond) (h0 : Heap) (n0 : Nat) (nn bits cc : Int32) (Z0 : n0 ≤ h0.size) :
    own_C l Z x code maxLocals ret ws room_1 #[(.int nn), (.int bits), (.int cc)] h0 (own_Q0 n0) := by
  refine own_body (ls := #[.val (.int nn), .val (.int bits), .val (.int cc), .unset, .unset, .unset, .unset, .unset, .unset, .unset, .unset, .unset, .unset, .unset, .unset, .unset, .unset, .unset, .unset, .unset, .unset, .unset, .unset, .unset]) pn_0 (fun m => by first | (simp [entryFrame, mkF, argsToLocals, Value.category, maxLocals]; done) | rfl) ?_
  intro p e s m below meth c T0 hZ hx hby hml hown hnm hret hlk X0 e0
  replace hml : c.maxLocals = 24 := hml
  have N0 := Fr.nil n0
  refine own_go (fun _ => XS.iloadN X0.here hx rfl (hb hby at_0) rfl ) ?_
  show own_R p.tables e below _ T0 (mkF m 1 #[.val (.int nn), .val (.int bits), .val (.int cc), .unset, .unset, .unset, .unset, .unset, .unset, .unset, .unset, .unset, .unset, .unset, .unset, .unset, .unset, .unset, .unset, .unset, .unset, .unset, .unset, .unset] [(.int nn)])
  refine own_go (X0.ldcInt hx hown (mvT hZ (hw _ (List.mem_of_getElem? (i := 0) rfl))) (g := (mkF m 1 #[.val (.int nn), .val (.int bits), .val (.int cc), .unset, .unset, .unset, .unset, .unset, .unset, .unset, .unset, .unset, .unset, .unset, .unset, .unset, .unset, .unset, .unset, .unset, .unset, .unset, .unset, .unset] [(.int nn)])) rfl (hb hby at_1)) ?_
  show own_R p.tables e below _ T0 (mkF m 3 #[.val (.int nn), .val (.int bits), .val (.int cc), .unset, .unset, .unset, .unset, .unset, .unset, .unset, .unset, .unset, .unset, .unset, .unset, .unset, .unset, .unset, .unset, .unset, .unset, .unset, .unset, .unset] [(.int (2147483647 : Int32)), (.int nn)])
  refine own_go (fun _ => XS.iand X0.here hx rfl (hb hby at_3) rfl) ?_
  show own_R p.tables e below _ T0 (mkF m 4 #[.val (.int nn), .val (.int bits), .val (.int cc), .unset, .unset, .unset, .unset, .unset, .unset, .unset, .unset, .unset, .unset, .unset, .unset, .unset, .unset, .unset, .unset, .unset, .unset, .unset, .unset, .unset] [(.int (nn &&& (2147483647 : Int32)))])
  refine own_go (fun _ => XS.bipush X0.here hx rfl (hb hby at_4)) ?_
  show own_R p.tables e below _ T0 (mkF m 6 #[.val (.int nn), .val (.int bits), .val (.int cc), .unset, .unset, .unset, .unset, .unset, .unset, .unset, .unset, .unset, .unset, .unset, .unset, .unset, .unset, .unset, .unset, .unset, .unset, .unset, .unset, .unset] [(.int (6 : Int32)), (.int (nn &&& (2147483647 : Int32)))])
  refine own_go (fun _ => iremM (g := (mkF m 6 #[.val (.int nn), .val (.int bits), .val (.int cc), .unset, .unset, .unset, .unset, .unset, .unset, .unset, .unset, .unset, .unset, .unset, .unset, .unset, .unset, .unset, .unset, .unset, .unset, .unset, .unset, .unset] [(.int (6 : Int32)), (.int (nn &&& (2147483647 : Int32)))])) X0 hx rfl (hb hby at_6) rfl (by decide)) ?_
  show own_R p.tables e below _ T0 (mkF m 7 #[.val (.int nn), .val (.int bits), .val (.int cc), .unset, .unset, .unset, .unset, .unset, .unset, .unset, .unset, .unset, .unset, .unset, .unset, .unset, .unset, .unset, .unset, .unset, .unset, .unset, .unset, .unset] [(.int ((nn &&& (2147483647 : Int32)) % (6 : Int32)))])
  refine own_go (fun _ => XS.istoreN X0.here hx rfl (hb hby at_7) rfl (l' := #[.val (.int nn), .val (.int bits), .val (.int cc), .val (.int ((nn &&& (2147483647 : Int32)) % (6 : Int32))), .unset, .unset, .unset, .unset, .unset, .unset, .unset, .unset, .unset, .unset, .unset, .unset, .unset, .unset, .unset, .unset, .unset, .unset, .unset, .unset]) rfl) ?_
  show own_R p.tables e below _ T0 (mkF m 8 #[.val (.int nn), .val (.int bits), .val (.int cc), .val (.int ((nn &&& (2147483647 : Int32)) % (6 : Int32))), .unset, .unset, .unset, .unset, .unset, .unset, .unset, .unset, .unset, .unset, .unset, .unset, .unset, .unset, .unset, .unset, .unset, .unset, .unset, .unset] [])
  have hn : own_n5 ((nn &&& (2147483647 : Int32)) % (6 : Int32)) := own_rem6 _ _ (c_and nn 2147483647 (by decide)).1 (by decide)
  generalize (nn &&& (2147483647 : Int32)) % (6 : Int32) = n at hn ⊢
  show own_R p.tables e below _ T0 (mkF m 8 #[.val (.int nn), .val (.int bits), .val (.int cc), .val (.int n), .unset, .unset, .unset, .unset, .unset, .unset, .unset, .unset, .unset, .unset, .unset, .unset, .unset, .unset, .unset, .unset, .unset, .unset, .unset, .unset] [])
  refine own_go (fun _ => XS.iloadN X0.here hx rfl (hb hby at_8) rfl ) ?_
  show own_R p.tables e below _ T0 (mkF m 9 #[.val (.int nn), .val (.int bits), .val (.int cc), .val (.int n), .unset, .unset, .unset, .unset, .unset, .unset, .unset, .unset, .unset, .unset, .unset, .unset, .unset, .unset, .unset, .unset, .unset, .unset, .unset, .unset] [(.int n)])
  refine own_go (fun _ => XS.iconst X0.here hx rfl (hb hby at_9)) ?_
  show own_R p.tables e below _ T0 (mkF m 10 #[.val (.int nn), .val (.int bits), .val (.int cc), .val (.int n), .unset, .unset, .unset, .unset, .unset, .unset, .unset, .unset, .unset, .unset, .unset, .unset, .unset, .unset, .unset, .unset, .unset, .unset, .unset, .unset] [(.int (1 : Int32)), (.int n)])
  have J0 : ∀ r1 : Int32, r1 = 0 ∨ r1 = 1 → (n < (1 : Int32) → r1 = 0) → own_R p.tables e below (own_E s below (own_Q0 n0) (room_1).cells (room_1).slots) T0 (mkF m 26 #[.val (.int nn), .val (.int bits), .val (.int cc), .val (.int n), .val (.int r1), .unset, .unset, .unset, .unset, .unset, .unset, .unset, .unset, .unset, .unset, .unset, .unset, .unset, .unset, .unset, .unset, .unset, .unset, .unset] []) := by
    intro r1 hr1 zr1
    show own_R p.tables e below _ T0 (mkF m 26 #[.val (.int nn), .val (.int bits), .val (.int cc), .val (.int n), .val (.int r1), .unset, .unset, .unset, .unset, .unset, .unset, .unset, .unset, .unset, .unset, .unset, .unset, .unset, .unset, .unset, .unset, .unset, .unset, .unset] [])
    refine own_go (fun _ => XS.iloadN X0.here hx rfl (hb hby at_26) rfl ) ?_
    show own_R p.tables e below _ T0 (mkF m 27 #[.val (.int nn), .val (.int bits), .val (.int cc), .val (.int n), .val (.int r1), .unset, .unset, .unset, .unset, .unset, .unset, .unset, .unset, .unset, .unset, .unset, .unset, .unset, .unset, .unset, .unset, .unset, .unset, .unset] [(.int n)])
    refine own_go (fun _ => XS.iconst X0.here hx rfl (hb hby at_27)) ?_
    show own_R p.tables e below _ T0 (mkF m 28 #[.val (.int nn), .val (.int bits), .val (.int cc), .val (.int n), .val (.int r1), .unset, .unset, .unset, .unset, .unset, .unset, .unset, .unset, .unset, .unset, .unset, .unset, .unset, .unset, .unset, .unset, .unset, .unset, .unset] [(.int (2 : Int32)), (.int n)])
    have J1 : ∀ r2 : Int32, r2 = 0 ∨ r2 = 1 → (n < (2 : Int32) → r2 = 0) → own_R p.tables e below (own_E s below (own_Q0 n0) (room_1).cells (room_1).slots) T0 (mkF m 44 #[.val (.int nn), .val (.int bits), .val (.int cc), .val (.int n), .val (.int r1), .val (.int r2), .unset, .unset, .unset, .unset, .unset, .unset, .unset, .unset, .unset, .unset, .unset, .unset, .unset, .unset, .unset, .unset, .unset, .unset] []) := by
      intro r2 hr2 zr2
      show own_R p.tables e below _ T0 (mkF m 44 #[.val (.int nn), .val (.int bits), .val (.int cc), .val (.int n), .val (.int r1), .val (.int r2), .unset, .unset, .unset, .unset, .unset, .unset, .unset, .unset, .unset, .unset, .unset, .unset, .unset, .unset, .unset, .unset, .unset, .unset] [])
      refine own_go (fun _ => XS.iloadN X0.here hx rfl (hb hby at_44) rfl ) ?_
      show own_R p.tables e below _ T0 (mkF m 45 #[.val (.int nn), .val (.int bits), .val (.int cc), .val (.int n), .val (.int r1), .val (.int r2), .unset, .unset, .unset, .unset, .unset, .unset, .unset, .unset, .unset, .unset, .unset, .unset, .unset, .unset, .unset, .unset, .unset, .unset] [(.int n)])
      refine own_go (fun _ => XS.iconst X0.here hx rfl (hb hby at_45)) ?_
      show own_R p.tables e below _ T0 (mkF m 46 #[.val (.int nn), .val (.int bits), .val (.int cc), .val (.int n), .val (.int r1), .val (.int r2), .unset, .unset, .unset, .unset, .unset, .unset, .unset, .unset, .unset, .unset, .unset, .unset, .unset, .unset, .unset, .unset, .unset, .unset] [(.int (3 : Int32)), (.int n)])
      have J2 : ∀ r3 : Int32, r3 = 0 ∨ r3 = 1 → (n < (3 : Int32) → r3 = 0) → own_R p.tables e below (own_E s below (own_Q0 n0) (room_1).cells (room_1).slots) T0 (mkF m 62 #[.val (.int nn), .val (.int bits), .val (.int cc), .val (.int n), .val (.int r1), .val (.int r2), .val (.int r3), .unset, .unset, .unset, .unset, .unset, .unset, .unset, .unset, .unset, .unset, .unset, .unset, .unset, .unset, .unset, .unset, .unset] []) := by
        intro r3 hr3 zr3
        show own_R p.tables e below _ T0 (mkF m 62 #[.val (.int nn), .val (.int bits), .val (.int cc), .val (.int n), .val (.int r1), .val (.int r2), .val (.int r3), .unset, .unset, .unset, .unset, .unset, .unset, .unset, .unset, .unset, .unset, .unset, .unset, .unset, .unset, .unset, .unset, .unset] [])
        refine own_go (fun _ => XS.iloadN X0.here hx rfl (hb hby at_62) rfl ) ?_
        show own_R p.tables e below _ T0 (mkF m 63 #[.val (.int nn), .val (.int bits), .val (.int cc), .val (.int n), .val (.int r1), .val (.int r2), .val (.int r3), .unset, .unset, .unset, .unset, .unset, .unset, .unset, .unset, .unset, .unset, .unset, .unset, .unset, .unset, .unset, .unset, .unset] [(.int n)])
        refine own_go (fun _ => XS.iconst X0.here hx rfl (hb hby at_63)) ?_
        show own_R p.tables e below _ T0 (mkF m 64 #[.val (.int nn), .val (.int bits), .val (.int cc), .val (.int n), .val (.int r1), .val (.int r2), .val (.int r3), .unset, .unset, .unset, .unset, .unset, .unset, .unset, .unset, .unset, .unset, .unset, .unset, .unset, .unset, .unset, .unset, .unset] [(.int (4 : Int32)), (.int n)])
        have J3 : ∀ r4 : Int32, r4 = 0 ∨ r4 = 1 → (n < (4 : Int32) → r4 = 0) → own_R p.tables e below (own_E s below (own_Q0 n0) (room_1).cells (room_1).slots) T0 (mkF m 81 #[.val (.int nn), .val (.int bits), .val (.int cc), .val (.int n), .val (.int r1), .val (.int r2), .val (.int r3), .val (.int r4), .unset, .unset, .unset, .unset, .unset, .unset, .unset, .unset, .unset, .unset, .unset, .unset, .unset, .unset, .unset, .unset] []) := by
          intro r4 hr4 zr4
          show own_R p.tables e below _ T0 (mkF m 81 #[.val (.int nn), .val (.int bits), .val (.int cc), .val (.int n), .val (.int r1), .val (.int r2), .val (.int r3), .val (.int r4), .unset, .unset, .unset, .unset, .unset, .unset, .unset, .unset, .unset, .unset, .unset, .unset, .unset, .unset, .unset, .unset] [])
          refine own_go (fun _ => XS.iloadN X0.here hx rfl (hb hby at_81) rfl ) ?_
          show own_R p.tables e below _ T0 (mkF m 82 #[.val (.int nn), .val (.int bits), .val (.int cc), .val (.int n), .val (.int r1), .val (.int r2), .val (.int r3), .val (.int r4), .unset, .unset, .unset, .unset, .unset, .unset, .unset, .unset, .unset, .unset, .unset, .unset, .unset, .unset, .unset, .unset] [(.int n)])
          refine own_go (fun _ => XS.iconst X0.here hx rfl (hb hby at_82)) ?_
          show own_R p.tables e below _ T0 (mkF m 83 #[.val (.int nn), .val (.int bits), .val (.int cc), .val (.int n), .val (.int r1), .val (.int r2), .val (.int r3), .val (.int r4), .unset, .unset, .unset, .unset, .unset, .unset, .unset, .unset, .unset, .unset, .unset, .unset, .unset, .unset, .unset, .unset] [(.int (5 : Int32)), (.int n)])
          have J4 : ∀ r5 : Int32, r5 = 0 ∨ r5 = 1 → (n < (5 : Int32) → r5 = 0) → own_R p.tables e below (own_E s below (own_Q0 n0) (room_1).cells (room_1).slots) T0 (mkF m 100 #[.val (.int nn), .val (.int bits), .val (.int cc), .val (.int n), .val (.int r1), .val (.int r2), .val (.int r3), .val (.int r4), .val (.int r5), .unset, .unset, .unset, .unset, .unset, .unset, .unset, .unset, .unset, .unset, .unset, .unset, .unset, .unset, .unset] []) := by
            intro r5 hr5 zr5
            show own_R p.tables e below _ T0 (mkF m 100 #[.val (.int nn), .val (.int bits), .val (.int cc), .val (.int n), .val (.int r1), .val (.int r2), .val (.int r3), .val (.int r4), .val (.int r5), .unset, .unset, .unset, .unset, .unset, .unset, .unset, .unset, .unset, .unset, .unset, .unset, .unset, .unset, .unset] [])
            have JM : ∀ (Tm : State) (lm : List Loc) (hm : Heap) (t : Addr) (kt : ClassId) (bs : List Int32), Stand p l e room_1 s m #[(.int nn), (.int bits), (.int cc)] below meth c Tm lm 1 5 → Tm.heap = hm → Fr n0 lm → h0.size ≤ hm.size → n0 ≤ t → bs.length ≤ 7 → Arv Z hm t kt .boolean (Int32.ofNat bs.length) (bs.map Value.int) (.int 0) → own_st bs 1 0 FP.dconst0 = own_st [r1, r2, r3, r4, r5] 1 0 FP.dconst0 → own_ok bs 1 0 FP.dconst0 = own_ok [r1, r2, r3, r4, r5] 1 0 FP.dconst0 → own_R p.tables e below (own_E s below (own_Q0 n0) (room_1).cells (room_1).slots) Tm (mkF m 160 #[.val (.int nn), .val (.int bits), .val (.int cc), .val (.int n), .val (.int r1), .val (.int r2), .val (.int r3), .val (.int r4), .val (.int r5), .val (.ref t), .unset, .unset, .unset, .unset, .unset, .unset, .unset, .unset, .unset, .unset, .unset, .unset, .unset, .unset] []) := by
              intro Tm lm hm t kt bs Xm em Nm Sm gt hbl Vm hst hok
              have hfact := own_factR hr1 hr2 hr3 hr4 hr5
              unfold own_fact at hfact
              simp only [Bool.and_eq_true, own_nb, decide_eq_true_eq] at hfact
              obtain ⟨nn1, nn2, nn3, nn4, nn5, fok, fst, fb⟩ := hfact
              rw [fok] at hok
              rw [fst] at hst
              show own_R p.tables e below _ Tm (mkF m 160 #[.val (.int nn), .val (.int bits), .val (.int cc), .val (.int n), .val (.int r1), .val (.int r2), .val (.int r3), .val (.int r4), .val (.int r5), .val (.ref t), .unset, .unset, .unset, .unset, .unset, .unset, .unset, .unset, .unset, .unset, .unset, .unset, .unset, .unset] [])
              refine own_go (fun _ => XS.iload Xm.here hx rfl (hb hby at_160) rfl ) ?_
              show own_R p.tables e below _ Tm (mkF m 162 #[.val (.int nn), .val (.int bits), .val (.int cc), .val (.int n), .val (.int r1), .val (.int r2), .val (.int r3), .val (.int r4), .val (.int r5), .val (.ref t), .unset, .unset, .unset, .unset, .unset, .unset, .unset, .unset, .unset, .unset, .unset, .unset, .unset, .unset] [(.int r1)])
              have F0 : ∀ v0 : Int32, v0 = r1 → own_R p.tables e below (own_E s below (own_Q0 n0) (room_1).cells (room_1).slots) Tm (mkF m 170 #[.val (.int nn), .val (.int bits), .val (.int cc), .val (.int n), .val (.int r1), .val (.int r2), .val (.int r3), .val (.int r4), .val (.int r5), .val (.ref t), .unset, .unset, .unset, .unset, .unset, .unset, .unset, .unset, .unset, .unset, .unset, .unset, .unset, .unset] [(.int v0)]) := by
                intro v0 hv
                rw [hv]
                show own_R p.tables e below _ Tm (mkF m 170 #[.val (.int nn), .val (.int bits), .val (.int cc), .val (.int n), .val (.int r1), .val (.int r2), .val (.int r3), .val (.int r4), .val (.int r5), .val (.ref t), .unset, .unset, .unset, .unset, .unset, .unset, .unset, .unset, .unset, .unset, .unset, .unset, .unset, .unset] [(.int r1)])
                refine own_go (fun _ => XS.istore Xm.here hx rfl (hb hby at_170) rfl (l' := #[.val (.int nn), .val (.int bits), .val (.int cc), .val (.int n), .val (.int r1), .val (.int r2), .val (.int r3), .val (.int r4), .val (.int r5), .val (.ref t), .val (.int r1), .unset, .unset, .unset, .unset, .unset, .unset, .unset, .unset, .unset, .unset, .unset, .unset, .unset]) rfl) ?_
                refine own_go (fun _ => XS.iload Xm.here hx rfl (hb hby at_172) rfl ) ?_
                refine own_go (fun _ => XS.iload Xm.here hx rfl (hb hby at_174) rfl ) ?_
                show own_R p.tables e below _ Tm (mkF m 176 #[.val (.int nn), .val (.int bits), .val (.int cc), .val (.int n), .val (.int r1), .val (.int r2), .val (.int r3), .val (.int r4), .val (.int r5), .val (.ref t), .val (.int r1), .unset, .unset, .unset, .unset, .unset, .unset, .unset, .unset, .unset, .unset, .unset, .unset, .unset] [(.int r2), (.int r1)])
                have F1 : ∀ v1 : Int32, v1 = r2 → own_R p.tables e below (own_E s below (own_Q0 n0) (room_1).cells (room_1).slots) Tm (mkF m 184 #[.val (.int nn), .val (.int bits), .val (.int cc), .val (.int n), .val (.int r1), .val (.int r2), .val (.int r3), .val (.int r4), .val (.int r5), .val (.ref t), .val (.int r1), .unset, .unset, .unset, .unset, .unset, .unset, .unset, .unset, .unset, .unset, .unset, .unset, .unset] [(.int v1), (.int r1)]) := by
                  intro v1 hv
                  rw [hv]
                  show own_R p.tables e below _ Tm (mkF m 184 #[.val (.int nn), .val (.int bits), .val (.int cc), .val (.int n), .val (.int r1), .val (.int r2), .val (.int r3), .val (.int r4), .val (.int r5), .val (.ref t), .val (.int r1), .unset, .unset, .unset, .unset, .unset, .unset, .unset, .unset, .unset, .unset, .unset, .unset, .unset] [(.int r2), (.int r1)])
                  refine own_go (fun _ => XS.iadd Xm.here hx rfl (hb hby at_184) rfl) ?_
                  refine own_go (fun _ => XS.istore Xm.here hx rfl (hb hby at_185) rfl (l' := #[.val (.int nn), .val (.int bits), .val (.int cc), .val (.int n), .val (.int r1), .val (.int r2), .val (.int r3), .val (.int r4), .val (.int r5), .val (.ref t), .val (.int r1), .val (.int (r1 + r2)), .unset, .unset, .unset, .unset, .unset, .unset, .unset, .unset, .unset, .unset, .unset, .unset]) rfl) ?_
                  refine own_go (fun _ => XS.iload Xm.here hx rfl (hb hby at_187) rfl ) ?_
                  refine own_go (fun _ => XS.iload Xm.here hx rfl (hb hby at_189) rfl ) ?_
                  show own_R p.tables e below _ Tm (mkF m 191 #[.val (.int nn), .val (.int bits), .val (.int cc), .val (.int n), .val (.int r1), .val (.int r2), .val (.int r3), .val (.int r4), .val (.int r5), .val (.ref t), .val (.int r1), .val (.int (r1 + r2)), .unset, .unset, .unset, .unset, .unset, .unset, .unset, .unset, .unset, .unset, .unset, .unset] [(.int r3), (.int (r1 + r2))])
                  have F2 : ∀ v2 : Int32, v2 = r3 → own_R p.tables e below (own_E s below (own_Q0 n0) (room_1).cells (room_1).slots) Tm (mkF m 199 #[.val (.int nn), .val (.int bits), .val (.int cc), .val (.int n), .val (.int r1), .val (.int r2), .val (.int r3), .val (.int r4), .val (.int r5), .val (.ref t), .val (.int r1), .val (.int (r1 + r2)), .unset, .unset, .unset, .unset, .unset, .unset, .unset, .unset, .unset, .unset, .unset, .unset] [(.int v2), (.int (r1 + r2))]) := by
                    intro v2 hv
                    rw [hv]
                    show own_R p.tables e below _ Tm (mkF m 199 #[.val (.int nn), .val (.int bits), .val (.int cc), .val (.int n), .val (.int r1), .val (.int r2), .val (.int r3), .val (.int r4), .val (.int r5), .val (.ref t), .val (.int r1), .val (.int (r1 + r2)), .unset, .unset, .unset, .unset, .unset, .unset, .unset, .unset, .unset, .unset, .unset, .unset] [(.int r3), (.int (r1 + r2))])
                    refine own_go (fun _ => XS.iadd Xm.here hx rfl (hb hby at_199) rfl) ?_
                    refine own_go (fun _ => XS.istore Xm.here hx rfl (hb hby at_200) rfl (l' := #[.val (.int nn), .val (.int bits), .val (.int cc), .val (.int n), .val (.int r1), .val (.int r2), .val (.int r3), .val (.int r4), .val (.int r5), .val (.ref t), .val (.int r1), .val (.int (r1 + r2)), .val (.int ((r1 + r2) + r3)), .unset, .unset, .unset, .unset, .unset, .unset, .unset, .unset, .unset, .unset, .unset]) rfl) ?_
                    refine own_go (fun _ => XS.iload Xm.here hx rfl (hb hby at_202) rfl ) ?_
                    refine own_go (fun _ => XS.iload Xm.here hx rfl (hb hby at_204) rfl ) ?_
                    show own_R p.tables e below _ Tm (mkF m 206 #[.val (.int nn), .val (.int bits), .val (.int cc), .val (.int n), .val (.int r1), .val (.int r2), .val (.int r3), .val (.int r4), .val (.int r5), .val (.ref t), .val (.int r1), .val (.int (r1 + r2)), .val (.int ((r1 + r2) + r3)), .unset, .unset, .unset, .unset, .unset, .unset, .unset, .unset, .unset, .unset, .unset] [(.int r4), (.int ((r1 + r2) + r3))])
                    have F3 : ∀ v3 : Int32, v3 = r4 → own_R p.tables e below (own_E s below (own_Q0 n0) (room_1).cells (room_1).slots) Tm (mkF m 214 #[.val (.int nn), .val (.int bits), .val (.int cc), .val (.int n), .val (.int r1), .val (.int r2), .val (.int r3), .val (.int r4), .val (.int r5), .val (.ref t), .val (.int r1), .val (.int (r1 + r2)), .val (.int ((r1 + r2) + r3)), .unset, .unset, .unset, .unset, .unset, .unset, .unset, .unset, .unset, .unset, .unset] [(.int v3), (.int ((r1 + r2) + r3))]) := by
                      intro v3 hv
                      rw [hv]
                      show own_R p.tables e below _ Tm (mkF m 214 #[.val (.int nn), .val (.int bits), .val (.int cc), .val (.int n), .val (.int r1), .val (.int r2), .val (.int r3), .val (.int r4), .val (.int r5), .val (.ref t), .val (.int r1), .val (.int (r1 + r2)), .val (.int ((r1 + r2) + r3)), .unset, .unset, .unset, .unset, .unset, .unset, .unset, .unset, .unset, .unset, .unset] [(.int r4), (.int ((r1 + r2) + r3))])
                      refine own_go (fun _ => XS.iadd Xm.here hx rfl (hb hby at_214) rfl) ?_
                      refine own_go (fun _ => XS.istore Xm.here hx rfl (hb hby at_215) rfl (l' := #[.val (.int nn), .val (.int bits), .val (.int cc), .val (.int n), .val (.int r1), .val (.int r2), .val (.int r3), .val (.int r4), .val (.int r5), .val (.ref t), .val (.int r1), .val (.int (r1 + r2)), .val (.int ((r1 + r2) + r3)), .val (.int (((r1 + r2) + r3) + r4)), .unset, .unset, .unset, .unset, .unset, .unset, .unset, .unset, .unset, .unset]) rfl) ?_
                      refine own_go (fun _ => XS.iload Xm.here hx rfl (hb hby at_217) rfl ) ?_
                      refine own_go (fun _ => XS.iload Xm.here hx rfl (hb hby at_219) rfl ) ?_
                      show own_R p.tables e below _ Tm (mkF m 221 #[.val (.int nn), .val (.int bits), .val (.int cc), .val (.int n), .val (.int r1), .val (.int r2), .val (.int r3), .val (.int r4), .val (.int r5), .val (.ref t), .val (.int r1), .val (.int (r1 + r2)), .val (.int ((r1 + r2) + r3)), .val (.int (((r1 + r2) + r3) + r4)), .unset, .unset, .unset, .unset, .unset, .unset, .unset, .unset, .unset, .unset] [(.int r5), (.int (((r1 + r2) + r3) + r4))])
                      have F4 : ∀ v4 : Int32, v4 = r5 → own_R p.tables e below (own_E s below (own_Q0 n0) (room_1).cells (room_1).slots) Tm (mkF m 229 #[.val (.int nn), .val (.int bits), .val (.int cc), .val (.int n), .val (.int r1), .val (.int r2), .val (.int r3), .val (.int r4), .val (.int r5), .val (.ref t), .val (.int r1), .val (.int (r1 + r2)), .val (.int ((r1 + r2) + r3)), .val (.int (((r1 + r2) + r3) + r4)), .unset, .unset, .unset, .unset, .unset, .unset, .unset, .unset, .unset, .unset] [(.int v4), (.int (((r1 + r2) + r3) + r4))]) := by
                        intro v4 hv
                        rw [hv]
                        show own_R p.tables e below _ Tm (mkF m 229 #[.val (.int nn), .val (.int bits), .val (.int cc), .val (.int n), .val (.int r1), .val (.int r2), .val (.int r3), .val (.int r4), .val (.int r5), .val (.ref t), .val (.int r1), .val (.int (r1 + r2)), .val (.int ((r1 + r2) + r3)), .val (.int (((r1 + r2) + r3) + r4)), .unset, .unset, .unset, .unset, .unset, .unset, .unset, .unset, .unset, .unset] [(.int r5), (.int (((r1 + r2) + r3) + r4))])
                        refine own_go (fun _ => XS.iadd Xm.here hx rfl (hb hby at_229) rfl) ?_
                        refine own_go (fun _ => XS.istore Xm.here hx rfl (hb hby at_230) rfl (l' := #[.val (.int nn), .val (.int bits), .val (.int cc), .val (.int n), .val (.int r1), .val (.int r2), .val (.int r3), .val (.int r4), .val (.int r5), .val (.ref t), .val (.int r1), .val (.int (r1 + r2)), .val (.int ((r1 + r2) + r3)), .val (.int (((r1 + r2) + r3) + r4)), .val (.int ((((r1 + r2) + r3) + r4) + r5)), .unset, .unset, .unset, .unset, .unset, .unset, .unset, .unset, .unset]) rfl) ?_
                        refine own_go (fun _ => XS.iload Xm.here hx rfl (hb hby at_232) rfl ) ?_
                        refine own_go (fun _ => XS.istore Xm.here hx rfl (hb hby at_234) rfl (l' := #[.val (.int nn), .val (.int bits), .val (.int cc), .val (.int n), .val (.int r1), .val (.int r2), .val (.int r3), .val (.int r4), .val (.int r5), .val (.ref t), .val (.int r1), .val (.int (r1 + r2)), .val (.int ((r1 + r2) + r3)), .val (.int (((r1 + r2) + r3) + r4)), .val (.int ((((r1 + r2) + r3) + r4) + r5)), .val (.int ((((r1 + r2) + r3) + r4) + r5)), .unset, .unset, .unset, .unset, .unset, .unset, .unset, .unset]) rfl) ?_
                        show own_R p.tables e below _ Tm (mkF m 236 #[.val (.int nn), .val (.int bits), .val (.int cc), .val (.int n), .val (.int r1), .val (.int r2), .val (.int r3), .val (.int r4), .val (.int r5), .val (.ref t), .val (.int r1), .val (.int (r1 + r2)), .val (.int ((r1 + r2) + r3)), .val (.int (((r1 + r2) + r3) + r4)), .val (.int ((((r1 + r2) + r3) + r4) + r5)), .val (.int ((((r1 + r2) + r3) + r4) + r5)), .unset, .unset, .unset, .unset, .unset, .unset, .unset, .unset] [])
                        refine own_go (fun _ => XS.iload Xm.here hx rfl (hb hby at_236) rfl ) ?_
                        refine own_go (fun _ => XS.iloadN Xm.here hx rfl (hb hby at_238) rfl ) ?_
                        refine own_go (Xm.ldcInt hx hown (mvT hZ (hw _ (List.mem_of_getElem? (i := 2) rfl))) (g := (mkF m 239 #[.val (.int nn), .val (.int bits), .val (.int cc), .val (.int n), .val (.int r1), .val (.int r2), .val (.int r3), .val (.int r4), .val (.int r5), .val (.ref t), .val (.int r1), .val (.int (r1 + r2)), .val (.int ((r1 + r2) + r3)), .val (.int (((r1 + r2) + r3) + r4)), .val (.int ((((r1 + r2) + r3) + r4) + r5)), .val (.int ((((r1 + r2) + r3) + r4) + r5)), .unset, .unset, .unset, .unset, .unset, .unset, .unset, .unset] [(.int cc), (.int ((((r1 + r2) + r3) + r4) + r5))])) rfl (hb hby at_239)) ?_
                        refine own_go (fun _ => XS.iand Xm.here hx rfl (hb hby at_241) rfl) ?_
                        show own_R p.tables e below _ Tm (mkF m 242 #[.val (.int nn), .val (.int bits), .val (.int cc), .val (.int n), .val (.int r1), .val (.int r2), .val (.int r3), .val (.int r4), .val (.int r5), .val (.ref t), .val (.int r1), .val (.int (r1 + r2)), .val (.int ((r1 + r2) + r3)), .val (.int (((r1 + r2) + r3) + r4)), .val (.int ((((r1 + r2) + r3) + r4) + r5)), .val (.int ((((r1 + r2) + r3) + r4) + r5)), .unset, .unset, .unset, .unset, .unset, .unset, .unset, .unset] [(.int (cc &&& (1073741823 : Int32))), (.int ((((r1 + r2) + r3) + r4) + r5))])
                        refine own_go (fun _ => XS.iadd Xm.here hx rfl (hb hby at_242) rfl) ?_
                        refine own_go (fun _ => XS.istore Xm.here hx rfl (hb hby at_243) rfl (l' := #[.val (.int nn), .val (.int bits), .val (.int cc), .val (.int n), .val (.int r1), .val (.int r2), .val (.int r3), .val (.int r4), .val (.int r5), .val (.ref t), .val (.int r1), .val (.int (r1 + r2)), .val (.int ((r1 + r2) + r3)), .val (.int (((r1 + r2) + r3) + r4)), .val (.int ((((r1 + r2) + r3) + r4) + r5)), .val (.int ((((r1 + r2) + r3) + r4) + r5)), .val (.int (((((r1 + r2) + r3) + r4) + r5) + (cc &&& (1073741823 : Int32)))), .unset, .unset, .unset, .unset, .unset, .unset, .unset]) rfl) ?_
                        show own_R p.tables e below _ Tm (mkF m 245 #[.val (.int nn), .val (.int bits), .val (.int cc), .val (.int n), .val (.int r1), .val (.int r2), .val (.int r3), .val (.int r4), .val (.int r5), .val (.ref t), .val (.int r1), .val (.int (r1 + r2)), .val (.int ((r1 + r2) + r3)), .val (.int (((r1 + r2) + r3) + r4)), .val (.int ((((r1 + r2) + r3) + r4) + r5)), .val (.int ((((r1 + r2) + r3) + r4) + r5)), .val (.int (((((r1 + r2) + r3) + r4) + r5) + (cc &&& (1073741823 : Int32)))), .unset, .unset, .unset, .unset, .unset, .unset, .unset] [])
                        have hrc : ¬ ((((r1 + r2) + r3) + r4) + r5) = 0 → (((((r1 + r2) + r3) + r4) + r5) + (cc &&& (1073741823 : Int32))) ≠ 0 := by
                          intro hne he
                          have q1 := c_and cc 1073741823 (by decide)
                          rw [show (1073741823 : Int32).toInt = 1073741823 by decide] at q1
                          have q2 := c_iadd ((((r1 + r2) + r3) + r4) + r5) (cc &&& (1073741823 : Int32))
                          rw [he] at q2
                          have q3 : (0 : Int32).toInt = 0 := rfl
                          have q4 : (((((r1 + r2) + r3) + r4) + r5)).toInt ≠ 0 := fun q => hne (Int32.toInt_inj.mp (by rw [q]; rfl))
                          have q5 : 0 ≤ (((((r1 + r2) + r3) + r4) + r5)).toInt ∧ (((((r1 + r2) + r3) + r4) + r5)).toInt ≤ 5 := fb
                          omega
                        generalize ((((r1 + r2) + r3) + r4) + r5) + (cc &&& (1073741823 : Int32)) = rc at hrc ⊢
                        show own_R p.tables e below _ Tm (mkF m 245 #[.val (.int nn), .val (.int bits), .val (.int cc), .val (.int n), .val (.int r1), .val (.int r2), .val (.int r3), .val (.int r4), .val (.int r5), .val (.ref t), .val (.int r1), .val (.int (r1 + r2)), .val (.int ((r1 + r2) + r3)), .val (.int (((r1 + r2) + r3) + r4)), .val (.int ((((r1 + r2) + r3) + r4) + r5)), .val (.int ((((r1 + r2) + r3) + r4) + r5)), .val (.int rc), .unset, .unset, .unset, .unset, .unset, .unset, .unset] [])
                        obtain ⟨T3, h3, X3, e3, E3, A3, D3, -, st3⟩ := newO Xm hx hZ hown (hw _ (List.mem_of_getElem? (i := 3) rfl)) (hw _ (List.mem_of_getElem? (i := 4) rfl)) (hw _ (List.mem_of_getElem? (i := 5) rfl)) em (g := (mkF m 245 #[.val (.int nn), .val (.int bits), .val (.int cc), .val (.int n), .val (.int r1), .val (.int r2), .val (.int r3), .val (.int r4), .val (.int r5), .val (.ref t), .val (.int r1), .val (.int (r1 + r2)), .val (.int ((r1 + r2) + r3)), .val (.int (((r1 + r2) + r3) + r4)), .val (.int ((((r1 + r2) + r3) + r4) + r5)), .val (.int ((((r1 + r2) + r3) + r4) + r5)), .val (.int rc), .unset, .unset, .unset, .unset, .unset, .unset, .unset] [])) rfl (hb hby at_245) (by decide) (by decide)
                        obtain ⟨a3, g3⟩ : ∃ z, z = hm.size := ⟨_, rfl⟩
                        rw [← g3] at A3 D3 st3
                        refine own_go st3 ?_
                        show own_R p.tables e below _ T3 (mkF m 248 #[.val (.int nn), .val (.int bits), .val (.int cc), .val (.int n), .val (.int r1), .val (.int r2), .val (.int r3), .val (.int r4), .val (.int r5), .val (.ref t), .val (.int r1), .val (.int (r1 + r2)), .val (.int ((r1 + r2) + r3)), .val (.int (((r1 + r2) + r3) + r4)), .val (.int ((((r1 + r2) + r3) + r4) + r5)), .val (.int ((((r1 + r2) + r3) + r4) + r5)), .val (.int rc), .unset, .unset, .unset, .unset, .unset, .unset, .unset] [(.ref a3)])
                        refine own_go (fun _ => XS.dup X3.here hx rfl (hb hby at_248) rfl rfl) ?_
                        show own_R p.tables e below _ T3 (mkF m 249 #[.val (.int nn), .val (.int bits), .val (.int cc), .val (.int n), .val (.int r1), .val (.int r2), .val (.int r3), .val (.int r4), .val (.int r5), .val (.ref t), .val (.int r1), .val (.int (r1 + r2)), .val (.int ((r1 + r2) + r3)), .val (.int (((r1 + r2) + r3) + r4)), .val (.int ((((r1 + r2) + r3) + r4) + r5)), .val (.int ((((r1 + r2) + r3) + r4) + r5)), .val (.int rc), .unset, .unset, .unset, .unset, .unset, .unset, .unset] [(.ref a3), (.ref a3)])
                        refine own_go (fun _ => XS.aload X3.here hx rfl (hb hby at_249) rfl rfl) ?_
                        show own_R p.tables e below _ T3 (mkF m 251 #[.val (.int nn), .val (.int bits), .val (.int cc), .val (.int n), .val (.int r1), .val (.int r2), .val (.int r3), .val (.int r4), .val (.int r5), .val (.ref t), .val (.int r1), .val (.int (r1 + r2)), .val (.int ((r1 + r2) + r3)), .val (.int (((r1 + r2) + r3) + r4)), .val (.int ((((r1 + r2) + r3) + r4) + r5)), .val (.int ((((r1 + r2) + r3) + r4) + r5)), .val (.int rc), .unset, .unset, .unset, .unset, .unset, .unset, .unset] [(.ref t), (.ref a3), (.ref a3)])
                        refine own_go (fun _ => XS.iload X3.here hx rfl (hb hby at_251) rfl ) ?_
                        show own_R p.tables e below _ T3 (mkF m 253 #[.val (.int nn), .val (.int bits), .val (.int cc), .val (.int n), .val (.int r1), .val (.int r2), .val (.int r3), .val (.int r4), .val (.int r5), .val (.ref t), .val (.int r1), .val (.int (r1 + r2)), .val (.int ((r1 + r2) + r3)), .val (.int (((r1 + r2) + r3) + r4)), .val (.int ((((r1 + r2) + r3) + r4) + r5)), .val (.int ((((r1 + r2) + r3) + r4) + r5)), .val (.int rc), .unset, .unset, .unset, .unset, .unset, .unset, .unset] [(.int rc), (.ref t), (.ref a3), (.ref a3)])
                        have g3a : n0 ≤ a3 := Nat.le_trans Z0 (Nat.le_trans Sm (Nat.le_of_eq g3.symm))
                        have ne3 : t ≠ a3 := Nat.ne_of_lt (Nat.lt_of_lt_of_le Vm.lt (Nat.le_of_eq g3.symm))
                        obtain ⟨v4, T4, L4, X4, Q4, st4⟩ := own_callI X3 hx hZ hown (y := (⟨"com/example/kookaburra/kookaburra/eval/Ranking", "<init>", "([ZI)V"⟩ : MethodName)) rfl (hw _ (List.mem_of_getElem? (i := 6) rfl)) (hw _ (List.mem_of_getElem? (i := 7) rfl)) (hw _ (List.mem_of_getElem? (i := 8) rfl)) (hw _ (List.mem_of_getElem? (i := 5) rfl)) (by decide) (rmInit l Z a0 hw [] h3 n0 a3 t rc g3a A3 (D3 (Or.inr (hw _ (List.mem_of_getElem? (i := 13) rfl))) (ty := (.array .boolean)) (by decide)) (D3 (Or.inr (hw _ (List.mem_of_getElem? (i := 15) rfl))) (ty := .int) (by decide))) (W := 1) (g := (mkF m 253 #[.val (.int nn), .val (.int bits), .val (.int cc), .val (.int n), .val (.int r1), .val (.int r2), .val (.int r3), .val (.int r4), .val (.int r5), .val (.ref t), .val (.int r1), .val (.int (r1 + r2)), .val (.int ((r1 + r2) + r3)), .val (.int (((r1 + r2) + r3) + r4)), .val (.int ((((r1 + r2) + r3) + r4) + r5)), .val (.int ((((r1 + r2) + r3) + r4) + r5)), .val (.int rc), .unset, .unset, .unset, .unset, .unset, .unset, .unset] [(.int rc), (.ref t), (.ref a3), (.ref a3)])) rfl (by rw [hml]; rfl) (a := a3) (argsL := [(.ref t), (.int rc)]) (rest := [(.ref a3)]) (lenOf pd___ZI_V rfl) rfl rfl (by show 2 * 0 + _ ≤ _; exact Nat.le_of_eq rfl) (hb hby at_253) e3 (by decide) (by decide) (by decide) (by decide)
                        obtain ⟨rfl, N4q, K4, E4, F4a, F4b⟩ := Q4
                        have N4 := Fr.app Nm N4q
                        have V4 := (Vm.ext E3).keep K4 (ninS ne3 nin0)
                        refine own_go st4 ?_
                        show own_R p.tables e below _ T4 (mkF m 256 #[.val (.int nn), .val (.int bits), .val (.int cc), .val (.int n), .val (.int r1), .val (.int r2), .val (.int r3), .val (.int r4), .val (.int r5), .val (.ref t), .val (.int r1), .val (.int (r1 + r2)), .val (.int ((r1 + r2) + r3)), .val (.int (((r1 + r2) + r3) + r4)), .val (.int ((((r1 + r2) + r3) + r4) + r5)), .val (.int ((((r1 + r2) + r3) + r4) + r5)), .val (.int rc), .unset, .unset, .unset, .unset, .unset, .unset, .unset] [(.ref a3)])
                        refine own_go (fun _ => XS.astore X4.here hx rfl (hb hby at_256) rfl rfl (l' := #[.val (.int nn), .val (.int bits), .val (.int cc), .val (.int n), .val (.int r1), .val (.int r2), .val (.int r3), .val (.int r4), .val (.int r5), .val (.ref t), .val (.int r1), .val (.int (r1 + r2)), .val (.int ((r1 + r2) + r3)), .val (.int (((r1 + r2) + r3) + r4)), .val (.int ((((r1 + r2) + r3) + r4) + r5)), .val (.int ((((r1 + r2) + r3) + r4) + r5)), .val (.int rc), .val (.ref a3), .unset, .unset, .unset, .unset, .unset, .unset]) rfl) ?_
                        refine own_go (fun _ => XS.aload X4.here hx rfl (hb hby at_258) rfl rfl) ?_
                        show own_R p.tables e below _ T4 (mkF m 260 #[.val (.int nn), .val (.int bits), .val (.int cc), .val (.int n), .val (.int r1), .val (.int r2), .val (.int r3), .val (.int r4), .val (.int r5), .val (.ref t), .val (.int r1), .val (.int (r1 + r2)), .val (.int ((r1 + r2) + r3)), .val (.int (((r1 + r2) + r3) + r4)), .val (.int ((((r1 + r2) + r3) + r4) + r5)), .val (.int ((((r1 + r2) + r3) + r4) + r5)), .val (.int rc), .val (.ref a3), .unset, .unset, .unset, .unset, .unset, .unset] [(.ref a3)])
                        have hdiv : ¬ ((((r1 + r2) + r3) + r4) + r5) = 0 → Jvm.Free.Fl.NoNaN64 (FP.ddiv (FP.dadd (FP.dadd (FP.dadd (FP.dadd (FP.dadd FP.dconst0 (own_tm r1 r1 (1 : Int32))) (own_tm r2 (r1 + r2) (2 : Int32))) (own_tm r3 ((r1 + r2) + r3) (3 : Int32))) (own_tm r4 (((r1 + r2) + r3) + r4) (4 : Int32))) (own_tm r5 ((((r1 + r2) + r3) + r4) + r5) (5 : Int32))) (FP.i2d rc)) := fun hne => Jvm.Free.Fl.ddiv_out nn5 (Jvm.Free.Fl.i2d_fin rc) (Jvm.Free.Fl.i2d_nz (hrc hne))
                        have e5 : own_ap (own_st bs 1 0 FP.dconst0) rc = own_ap (((((r1 + r2) + r3) + r4) + r5), (FP.dadd (FP.dadd (FP.dadd (FP.dadd (FP.dadd FP.dconst0 (own_tm r1 r1 (1 : Int32))) (own_tm r2 (r1 + r2) (2 : Int32))) (own_tm r3 ((r1 + r2) + r3) (3 : Int32))) (own_tm r4 (((r1 + r2) + r3) + r4) (4 : Int32))) (own_tm r5 ((((r1 + r2) + r3) + r4) + r5) (5 : Int32)))) rc := by rw [hst]
                        obtain ⟨v5, T5, L5, X5, Q5, st5⟩ := own_callV X4 hx hZ hown (y := (⟨"com/example/kookaburra/kookaburra/eval/Ranking", "averagePrecision", "()D"⟩ : MethodName)) (hw _ (List.mem_of_getElem? (i := 16) rfl)) (hw _ (List.mem_of_getElem? (i := 17) rfl)) (hw _ (List.mem_of_getElem? (i := 19) rfl)) (hw _ (List.mem_of_getElem? (i := 18) rfl)) (hw _ (List.mem_of_getElem? (i := 20) rfl)) (hw _ (List.mem_of_getElem? (i := 5) rfl)) (by decide) (rmAP l Z a0 hw [] T4.heap n0 a3 t rc bs hbl hok (by rw [hst]; exact hdiv) F4a F4b V4) E4 (W := 0) (g := (mkF m 260 #[.val (.int nn), .val (.int bits), .val (.int cc), .val (.int n), .val (.int r1), .val (.int r2), .val (.int r3), .val (.int r4), .val (.int r5), .val (.ref t), .val (.int r1), .val (.int (r1 + r2)), .val (.int ((r1 + r2) + r3)), .val (.int (((r1 + r2) + r3) + r4)), .val (.int ((((r1 + r2) + r3) + r4) + r5)), .val (.int ((((r1 + r2) + r3) + r4) + r5)), .val (.int rc), .val (.ref a3), .unset, .unset, .unset, .unset, .unset, .unset] [(.ref a3)])) rfl (by rw [hml]; rfl) (b := a3) (argsL := []) (rest := []) (lenOf pd___D rfl) rfl rfl (by show 2 * 0 + _ ≤ _; exact Nat.le_of_eq rfl) (hb hby at_260) rfl (by decide) (by decide) (by decide) (by decide)
                        obtain ⟨rfl, N5q, e5h⟩ := Q5
                        have N5 := Fr.app N4 N5q
                        refine own_go st5 ?_
                        show own_R p.tables e below _ T5 (mkF m 263 #[.val (.int nn), .val (.int bits), .val (.int cc), .val (.int n), .val (.int r1), .val (.int r2), .val (.int r3), .val (.int r4), .val (.int r5), .val (.ref t), .val (.int r1), .val (.int (r1 + r2)), .val (.int ((r1 + r2) + r3)), .val (.int (((r1 + r2) + r3) + r4)), .val (.int ((((r1 + r2) + r3) + r4) + r5)), .val (.int ((((r1 + r2) + r3) + r4) + r5)), .val (.int rc), .val (.ref a3), .unset, .unset, .unset, .unset, .unset, .unset] [(.double (own_ap (own_st bs 1 0 FP.dconst0) rc))])
                        rw [e5]
                        generalize hxx : own_ap (((((r1 + r2) + r3) + r4) + r5), (FP.dadd (FP.dadd (FP.dadd (FP.dadd (FP.dadd FP.dconst0 (own_tm r1 r1 (1 : Int32))) (own_tm r2 (r1 + r2) (2 : Int32))) (own_tm r3 ((r1 + r2) + r3) (3 : Int32))) (own_tm r4 (((r1 + r2) + r3) + r4) (4 : Int32))) (own_tm r5 ((((r1 + r2) + r3) + r4) + r5) (5 : Int32)))) rc = xx
                        show own_R p.tables e below _ T5 (mkF m 263 #[.val (.int nn), .val (.int bits), .val (.int cc), .val (.int n), .val (.int r1), .val (.int r2), .val (.int r3), .val (.int r4), .val (.int r5), .val (.ref t), .val (.int r1), .val (.int (r1 + r2)), .val (.int ((r1 + r2) + r3)), .val (.int (((r1 + r2) + r3) + r4)), .val (.int ((((r1 + r2) + r3) + r4) + r5)), .val (.int ((((r1 + r2) + r3) + r4) + r5)), .val (.int rc), .val (.ref a3), .unset, .unset, .unset, .unset, .unset, .unset] [(.double xx)])
                        refine own_go (fun _ => XS.dstore X5.here hx rfl (hb hby at_263) rfl (l' := #[.val (.int nn), .val (.int bits), .val (.int cc), .val (.int n), .val (.int r1), .val (.int r2), .val (.int r3), .val (.int r4), .val (.int r5), .val (.ref t), .val (.int r1), .val (.int (r1 + r2)), .val (.int ((r1 + r2) + r3)), .val (.int (((r1 + r2) + r3) + r4)), .val (.int ((((r1 + r2) + r3) + r4) + r5)), .val (.int ((((r1 + r2) + r3) + r4) + r5)), .val (.int rc), .val (.ref a3), .val (.double xx), .second, .unset, .unset, .unset, .unset]) rfl) ?_
                        refine own_go (fun _ => XS.dconst0 X5.here hx rfl (hb hby at_265) rfl) ?_
                        refine own_go (fun _ => XS.dstore X5.here hx rfl (hb hby at_266) rfl (l' := #[.val (.int nn), .val (.int bits), .val (.int cc), .val (.int n), .val (.int r1), .val (.int r2), .val (.int r3), .val (.int r4), .val (.int r5), .val (.ref t), .val (.int r1), .val (.int (r1 + r2)), .val (.int ((r1 + r2) + r3)), .val (.int (((r1 + r2) + r3) + r4)), .val (.int ((((r1 + r2) + r3) + r4) + r5)), .val (.int ((((r1 + r2) + r3) + r4) + r5)), .val (.int rc), .val (.ref a3), .val (.double xx), .second, .val (.double FP.dconst0), .second, .unset, .unset]) rfl) ?_
                        refine own_go (fun _ => XS.dload X5.here hx rfl (hb hby at_268) rfl ) ?_
                        show own_R p.tables e below _ T5 (mkF m 270 #[.val (.int nn), .val (.int bits), .val (.int cc), .val (.int n), .val (.int r1), .val (.int r2), .val (.int r3), .val (.int r4), .val (.int r5), .val (.ref t), .val (.int r1), .val (.int (r1 + r2)), .val (.int ((r1 + r2) + r3)), .val (.int (((r1 + r2) + r3) + r4)), .val (.int ((((r1 + r2) + r3) + r4) + r5)), .val (.int ((((r1 + r2) + r3) + r4) + r5)), .val (.int rc), .val (.ref a3), .val (.double xx), .second, .val (.double FP.dconst0), .second, .unset, .unset] [(.double FP.dconst0)])
                        refine own_go (fun _ => XS.iload X5.here hx rfl (hb hby at_270) rfl ) ?_
                        refine own_go (fun _ => XS.iload X5.here hx rfl (hb hby at_272) rfl ) ?_
                        refine own_go (fun _ => XS.iconst X5.here hx rfl (hb hby at_274)) ?_
                        show own_R p.tables e below _ T5 (mkF m 275 #[.val (.int nn), .val (.int bits), .val (.int cc), .val (.int n), .val (.int r1), .val (.int r2), .val (.int r3), .val (.int r4), .val (.int r5), .val (.ref t), .val (.int r1), .val (.int (r1 + r2)), .val (.int ((r1 + r2) + r3)), .val (.int (((r1 + r2) + r3) + r4)), .val (.int ((((r1 + r2) + r3) + r4) + r5)), .val (.int ((((r1 + r2) + r3) + r4) + r5)), .val (.int rc), .val (.ref a3), .val (.double xx), .second, .val (.double FP.dconst0), .second, .unset, .unset] [(.int (1 : Int32)), (.int r1), (.int r1), (.double FP.dconst0)])
                        obtain ⟨v6, T6, L6, X6, Q6, st6⟩ := own_callS X5 hx hZ hown (y := (⟨"com/example/kookaburra/kookaburra/eval/RankingAveragePrecisionPinLaw", "term", "(ZII)D"⟩ : MethodName)) (hw _ (List.mem_of_getElem? (i := 21) rfl)) (hw _ (List.mem_of_getElem? (i := 22) rfl)) (hw _ (List.mem_of_getElem? (i := 23) rfl)) (hw _ (List.mem_of_getElem? (i := 24) rfl)) (by decide) (rmTm l Z a0 hw [] T4.heap n0 r1 r1 1 (by decide)) (W := 2) (g := (mkF m 275 #[.val (.int nn), .val (.int bits), .val (.int cc), .val (.int n), .val (.int r1), .val (.int r2), .val (.int r3), .val (.int r4), .val (.int r5), .val (.ref t), .val (.int r1), .val (.int (r1 + r2)), .val (.int ((r1 + r2) + r3)), .val (.int (((r1 + r2) + r3) + r4)), .val (.int ((((r1 + r2) + r3) + r4) + r5)), .val (.int ((((r1 + r2) + r3) + r4) + r5)), .val (.int rc), .val (.ref a3), .val (.double xx), .second, .val (.double FP.dconst0), .second, .unset, .unset] [(.int (1 : Int32)), (.int r1), (.int r1), (.double FP.dconst0)])) rfl (by rw [hml]; rfl) (argsL := [(.int r1), (.int r1), (.int (1 : Int32))]) (rest := [(.double FP.dconst0)]) (lenOf pd__ZII_D rfl) rfl rfl (by show 2 * 0 + _ ≤ _; exact Nat.le_of_eq rfl) (hb hby at_275) e5h (by decide) (by decide) (by decide) (by decide)
                        obtain ⟨rfl, N6q, e6⟩ := Q6
                        have N6 := Fr.app N5 N6q
                        refine own_go st6 ?_
                        show own_R p.tables e below _ T6 (mkF m 278 #[.val (.int nn), .val (.int bits), .val (.int cc), .val (.int n), .val (.int r1), .val (.int r2), .val (.int r3), .val (.int r4), .val (.int r5), .val (.ref t), .val (.int r1), .val (.int (r1 + r2)), .val (.int ((r1 + r2) + r3)), .val (.int (((r1 + r2) + r3) + r4)), .val (.int ((((r1 + r2) + r3) + r4) + r5)), .val (.int ((((r1 + r2) + r3) + r4) + r5)), .val (.int rc), .val (.ref a3), .val (.double xx), .second, .val (.double FP.dconst0), .second, .unset, .unset] [(.double (own_tm r1 r1 (1 : Int32))), (.double FP.dconst0)])
                        refine own_go (fun _ => XS.daddS X6.here hx rfl (hb hby at_278) rfl nn1 rfl) ?_
                        show own_R p.tables e below _ T6 (mkF m 279 #[.val (.int nn), .val (.int bits), .val (.int cc), .val (.int n), .val (.int r1), .val (.int r2), .val (.int r3), .val (.int r4), .val (.int r5), .val (.ref t), .val (.int r1), .val (.int (r1 + r2)), .val (.int ((r1 + r2) + r3)), .val (.int (((r1 + r2) + r3) + r4)), .val (.int ((((r1 + r2) + r3) + r4) + r5)), .val (.int ((((r1 + r2) + r3) + r4) + r5)), .val (.int rc), .val (.ref a3), .val (.double xx), .second, .val (.double FP.dconst0), .second, .unset, .unset] [(.double (FP.dadd FP.dconst0 (own_tm r1 r1 (1 : Int32))))])
                        refine own_go (fun _ => XS.dstore X6.here hx rfl (hb hby at_279) rfl (l' := #[.val (.int nn), .val (.int bits), .val (.int cc), .val (.int n), .val (.int r1), .val (.int r2), .val (.int r3), .val (.int r4), .val (.int r5), .val (.ref t), .val (.int r1), .val (.int (r1 + r2)), .val (.int ((r1 + r2) + r3)), .val (.int (((r1 + r2) + r3) + r4)), .val (.int ((((r1 + r2) + r3) + r4) + r5)), .val (.int ((((r1 + r2) + r3) + r4) + r5)), .val (.int rc), .val (.ref a3), .val (.double xx), .second, .val (.double (FP.dadd FP.dconst0 (own_tm r1 r1 (1 : Int32)))), .second, .unset, .unset]) rfl) ?_
                        refine own_go (fun _ => XS.dload X6.here hx rfl (hb hby at_281) rfl ) ?_
                        refine own_go (fun _ => XS.iload X6.here hx rfl (hb hby at_283) rfl ) ?_
                        refine own_go (fun _ => XS.iload X6.here hx rfl (hb hby at_285) rfl ) ?_
                        show own_R p.tables e below _ T6 (mkF m 287 #[.val (.int nn), .val (.int bits), .val (.int cc), .val (.int n), .val (.int r1), .val (.int r2), .val (.int r3), .val (.int r4), .val (.int r5), .val (.ref t), .val (.int r1), .val (.int (r1 + r2)), .val (.int ((r1 + r2) + r3)), .val (.int (((r1 + r2) + r3) + r4)), .val (.int ((((r1 + r2) + r3) + r4) + r5)), .val (.int ((((r1 + r2) + r3) + r4) + r5)), .val (.int rc), .val (.ref a3), .val (.double xx), .second, .val (.double (FP.dadd FP.dconst0 (own_tm r1 r1 (1 : Int32)))), .second, .unset, .unset] [(.int (r1 + r2)), (.int r2), (.double (FP.dadd FP.dconst0 (own_tm r1 r1 (1 : Int32))))])
                        refine own_go (fun _ => XS.iconst X6.here hx rfl (hb hby at_287)) ?_
                        show own_R p.tables e below _ T6 (mkF m 288 #[.val (.int nn), .val (.int bits), .val (.int cc), .val (.int n), .val (.int r1), .val (.int r2), .val (.int r3), .val (.int r4), .val (.int r5), .val (.ref t), .val (.int r1), .val (.int (r1 + r2)), .val (.int ((r1 + r2) + r3)), .val (.int (((r1 + r2) + r3) + r4)), .val (.int ((((r1 + r2) + r3) + r4) + r5)), .val (.int ((((r1 + r2) + r3) + r4) + r5)), .val (.int rc), .val (.ref a3), .val (.double xx), .second, .val (.double (FP.dadd FP.dconst0 (own_tm r1 r1 (1 : Int32)))), .second, .unset, .unset] [(.int (2 : Int32)), (.int (r1 + r2)), (.int r2), (.double (FP.dadd FP.dconst0 (own_tm r1 r1 (1 : Int32))))])
                        obtain ⟨v7, T7, L7, X7, Q7, st7⟩ := own_callS X6 hx hZ hown (y := (⟨"com/example/kookaburra/kookaburra/eval/RankingAveragePrecisionPinLaw", "term", "(ZII)D"⟩ : MethodName)) (hw _ (List.mem_of_getElem? (i := 21) rfl)) (hw _ (List.mem_of_getElem? (i := 22) rfl)) (hw _ (List.mem_of_getElem? (i := 23) rfl)) (hw _ (List.mem_of_getElem? (i := 24) rfl)) (by decide) (rmTm l Z a0 hw [] T4.heap n0 r2 (r1 + r2) 2 (by decide)) (W := 2) (g := (mkF m 288 #[.val (.int nn), .val (.int bits), .val (.int cc), .val (.int n), .val (.int r1), .val (.int r2), .val (.int r3), .val (.int r4), .val (.int r5), .val (.ref t), .val (.int r1), .val (.int (r1 + r2)), .val (.int ((r1 + r2) + r3)), .val (.int (((r1 + r2) + r3) + r4)), .val (.int ((((r1 + r2) + r3) + r4) + r5)), .val (.int ((((r1 + r2) + r3) + r4) + r5)), .val (.int rc), .val (.ref a3), .val (.double xx), .second, .val (.double (FP.dadd FP.dconst0 (own_tm r1 r1 (1 : Int32)))), .second, .unset, .unset] [(.int (2 : Int32)), (.int (r1 + r2)), (.int r2), (.double (FP.dadd FP.dconst0 (own_tm r1 r1 (1 : Int32))))])) rfl (by rw [hml]; rfl) (argsL := [(.int r2), (.int (r1 + r2)), (.int (2 : Int32))]) (rest := [(.double (FP.dadd FP.dconst0 (own_tm r1 r1 (1 : Int32))))]) (lenOf pd__ZII_D rfl) rfl rfl (by show 2 * 0 + _ ≤ _; exact Nat.le_of_eq rfl) (hb hby at_288) e6 (by decide) (by decide) (by decide) (by decide)
                        obtain ⟨rfl, N7q, e7⟩ := Q7
                        have N7 := Fr.app N6 N7q
                        refine own_go st7 ?_
                        show own_R p.tables e below _ T7 (mkF m 291 #[.val (.int nn), .val (.int bits), .val (.int cc), .val (.int n), .val (.int r1), .val (.int r2), .val (.int r3), .val (.int r4), .val (.int r5), .val (.ref t), .val (.int r1), .val (.int (r1 + r2)), .val (.int ((r1 + r2) + r3)), .val (.int (((r1 + r2) + r3) + r4)), .val (.int ((((r1 + r2) + r3) + r4) + r5)), .val (.int ((((r1 + r2) + r3) + r4) + r5)), .val (.int rc), .val (.ref a3), .val (.double xx), .second, .val (.double (FP.dadd FP.dconst0 (own_tm r1 r1 (1 : Int32)))), .second, .unset, .unset] [(.double (own_tm r2 (r1 + r2) (2 : Int32))), (.double (FP.dadd FP.dconst0 (own_tm r1 r1 (1 : Int32))))])
                        refine own_go (fun _ => XS.daddS X7.here hx rfl (hb hby at_291) rfl nn2 rfl) ?_
                        show own_R p.tables e below _ T7 (mkF m 292 #[.val (.int nn), .val (.int bits), .val (.int cc), .val (.int n), .val (.int r1), .val (.int r2), .val (.int r3), .val (.int r4), .val (.int r5), .val (.ref t), .val (.int r1), .val (.int (r1 + r2)), .val (.int ((r1 + r2) + r3)), .val (.int (((r1 + r2) + r3) + r4)), .val (.int ((((r1 + r2) + r3) + r4) + r5)), .val (.int ((((r1 + r2) + r3) + r4) + r5)), .val (.int rc), .val (.ref a3), .val (.double xx), .second, .val (.double (FP.dadd FP.dconst0 (own_tm r1 r1 (1 : Int32)))), .second, .unset, .unset] [(.double (FP.dadd (FP.dadd FP.dconst0 (own_tm r1 r1 (1 : Int32))) (own_tm r2 (r1 + r2) (2 : Int32))))])
                        refine own_go (fun _ => XS.dstore X7.here hx rfl (hb hby at_292) rfl (l' := #[.val (.int nn), .val (.int bits), .val (.int cc), .val (.int n), .val (.int r1), .val (.int r2), .val (.int r3), .val (.int r4), .val (.int r5), .val (.ref t), .val (.int r1), .val (.int (r1 + r2)), .val (.int ((r1 + r2) + r3)), .val (.int (((r1 + r2) + r3) + r4)), .val (.int ((((r1 + r2) + r3) + r4) + r5)), .val (.int ((((r1 + r2) + r3) + r4) + r5)), .val (.int rc), .val (.ref a3), .val (.double xx), .second, .val (.double (FP.dadd (FP.dadd FP.dconst0 (own_tm r1 r1 (1 : Int32))) (own_tm r2 (r1 + r2) (2 : Int32)))), .second, .unset, .unset]) rfl) ?_
                        refine own_go (fun _ => XS.dload X7.here hx rfl (hb hby at_294) rfl ) ?_
                        refine own_go (fun _ => XS.iload X7.here hx rfl (hb hby at_296) rfl ) ?_
                        refine own_go (fun _ => XS.iload X7.here hx rfl (hb hby at_298) rfl ) ?_
                        show own_R p.tables e below _ T7 (mkF m 300 #[.val (.int nn), .val (.int bits), .val (.int cc), .val (.int n), .val (.int r1), .val (.int r2), .val (.int r3), .val (.int r4), .val (.int r5), .val (.ref t), .val (.int r1), .val (.int (r1 + r2)), .val (.int ((r1 + r2) + r3)), .val (.int (((r1 + r2) + r3) + r4)), .val (.int ((((r1 + r2) + r3) + r4) + r5)), .val (.int ((((r1 + r2) + r3) + r4) + r5)), .val (.int rc), .val (.ref a3), .val (.double xx), .second, .val (.double (FP.dadd (FP.dadd FP.dconst0 (own_tm r1 r1 (1 : Int32))) (own_tm r2 (r1 + r2) (2 : Int32)))), .second, .unset, .unset] [(.int ((r1 + r2) + r3)), (.int r3), (.double (FP.dadd (FP.dadd FP.dconst0 (own_tm r1 r1 (1 : Int32))) (own_tm r2 (r1 + r2) (2 : Int32))))])
                        refine own_go (fun _ => XS.iconst X7.here hx rfl (hb hby at_300)) ?_
                        show own_R p.tables e below _ T7 (mkF m 301 #[.val (.int nn), .val (.int bits), .val (.int cc), .val (.int n), .val (.int r1), .val (.int r2), .val (.int r3), .val (.int r4), .val (.int r5), .val (.ref t), .val (.int r1), .val (.int (r1 + r2)), .val (.int ((r1 + r2) + r3)), .val (.int (((r1 + r2) + r3) + r4)), .val (.int ((((r1 + r2) + r3) + r4) + r5)), .val (.int ((((r1 + r2) + r3) + r4) + r5)), .val (.int rc), .val (.ref a3), .val (.double xx), .second, .val (.double (FP.dadd (FP.dadd FP.dconst0 (own_tm r1 r1 (1 : Int32))) (own_tm r2 (r1 + r2) (2 : Int32)))), .second, .unset, .unset] [(.int (3 : Int32)), (.int ((r1 + r2) + r3)), (.int r3), (.double (FP.dadd (FP.dadd FP.dconst0 (own_tm r1 r1 (1 : Int32))) (own_tm r2 (r1 + r2) (2 : Int32))))])
                        obtain ⟨v8, T8, L8, X8, Q8, st8⟩ := own_callS X7 hx hZ hown (y := (⟨"com/example/kookaburra/kookaburra/eval/RankingAveragePrecisionPinLaw", "term", "(ZII)D"⟩ : MethodName)) (hw _ (List.mem_of_getElem? (i := 21) rfl)) (hw _ (List.mem_of_getElem? (i := 22) rfl)) (hw _ (List.mem_of_getElem? (i := 23) rfl)) (hw _ (List.mem_of_getElem? (i := 24) rfl)) (by decide) (rmTm l Z a0 hw [] T4.heap n0 r3 ((r1 + r2) + r3) 3 (by decide)) (W := 2) (g := (mkF m 301 #[.val (.int nn), .val (.int bits), .val (.int cc), .val (.int n), .val (.int r1), .val (.int r2), .val (.int r3), .val (.int r4), .val (.int r5), .val (.ref t), .val (.int r1), .val (.int (r1 + r2)), .val (.int ((r1 + r2) + r3)), .val (.int (((r1 + r2) + r3) + r4)), .val (.int ((((r1 + r2) + r3) + r4) + r5)), .val (.int ((((r1 + r2) + r3) + r4) + r5)), .val (.int rc), .val (.ref a3), .val (.double xx), .second, .val (.double (FP.dadd (FP.dadd FP.dconst0 (own_tm r1 r1 (1 : Int32))) (own_tm r2 (r1 + r2) (2 : Int32)))), .second, .unset, .unset] [(.int (3 : Int32)), (.int ((r1 + r2) + r3)), (.int r3), (.double (FP.dadd (FP.dadd FP.dconst0 (own_tm r1 r1 (1 : Int32))) (own_tm r2 (r1 + r2) (2 : Int32))))])) rfl (by rw [hml]; rfl) (argsL := [(.int r3), (.int ((r1 + r2) + r3)), (.int (3 : Int32))]) (rest := [(.double (FP.dadd (FP.dadd FP.dconst0 (own_tm r1 r1 (1 : Int32))) (own_tm r2 (r1 + r2) (2 : Int32))))]) (lenOf pd__ZII_D rfl) rfl rfl (by show 2 * 0 + _ ≤ _; exact Nat.le_of_eq rfl) (hb hby at_301) e7 (by decide) (by decide) (by decide) (by decide)
                        obtain ⟨rfl, N8q, e8⟩ := Q8
                        have N8 := Fr.app N7 N8q
                        refine own_go st8 ?_
                        show own_R p.tables e below _ T8 (mkF m 304 #[.val (.int nn), .val (.int bits), .val (.int cc), .val (.int n), .val (.int r1), .val (.int r2), .val (.int r3), .val (.int r4), .val (.int r5), .val (.ref t), .val (.int r1), .val (.int (r1 + r2)), .val (.int ((r1 + r2) + r3)), .val (.int (((r1 + r2) + r3) + r4)), .val (.int ((((r1 + r2) + r3) + r4) + r5)), .val (.int ((((r1 + r2) + r3) + r4) + r5)), .val (.int rc), .val (.ref a3), .val (.double xx), .second, .val (.double (FP.dadd (FP.dadd FP.dconst0 (own_tm r1 r1 (1 : Int32))) (own_tm r2 (r1 + r2) (2 : Int32)))), .second, .unset, .unset] [(.double (own_tm r3 ((r1 + r2) + r3) (3 : Int32))), (.double (FP.dadd (FP.dadd FP.dconst0 (own_tm r1 r1 (1 : Int32))) (own_tm r2 (r1 + r2) (2 : Int32))))])
                        refine own_go (fun _ => XS.daddS X8.here hx rfl (hb hby at_304) rfl nn3 rfl) ?_
                        show own_R p.tables e below _ T8 (mkF m 305 #[.val (.int nn), .val (.int bits), .val (.int cc), .val (.int n), .val (.int r1), .val (.int r2), .val (.int r3), .val (.int r4), .val (.int r5), .val (.ref t), .val (.int r1), .val (.int (r1 + r2)), .val (.int ((r1 + r2) + r3)), .val (.int (((r1 + r2) + r3) + r4)), .val (.int ((((r1 + r2) + r3) + r4) + r5)), .val (.int ((((r1 + r2) + r3) + r4) + r5)), .val (.int rc), .val (.ref a3), .val (.double xx), .second, .val (.double (FP.dadd (FP.dadd FP.dconst0 (own_tm r1 r1 (1 : Int32))) (own_tm r2 (r1 + r2) (2 : Int32)))), .second, .unset, .unset] [(.double (FP.dadd (FP.dadd (FP.dadd FP.dconst0 (own_tm r1 r1 (1 : Int32))) (own_tm r2 (r1 + r2) (2 : Int32))) (own_tm r3 ((r1 + r2) + r3) (3 : Int32))))])
                        refine own_go (fun _ => XS.dstore X8.here hx rfl (hb hby at_305) rfl (l' := #[.val (.int nn), .val (.int bits), .val (.int cc), .val (.int n), .val (.int r1), .val (.int r2), .val (.int r3), .val (.int r4), .val (.int r5), .val (.ref t), .val (.int r1), .val (.int (r1 + r2)), .val (.int ((r1 + r2) + r3)), .val (.int (((r1 + r2) + r3) + r4)), .val (.int ((((r1 + r2) + r3) + r4) + r5)), .val (.int ((((r1 + r2) + r3) + r4) + r5)), .val (.int rc), .val (.ref a3), .val (.double xx), .second, .val (.double (FP.dadd (FP.dadd (FP.dadd FP.dconst0 (own_tm r1 r1 (1 : Int32))) (own_tm r2 (r1 + r2) (2 : Int32))) (own_tm r3 ((r1 + r2) + r3) (3 : Int32)))), .second, .unset, .unset]) rfl) ?_
                        refine own_go (fun _ => XS.dload X8.here hx rfl (hb hby at_307) rfl ) ?_
                        refine own_go (fun _ => XS.iload X8.here hx rfl (hb hby at_309) rfl ) ?_
                        refine own_go (fun _ => XS.iload X8.here hx rfl (hb hby at_311) rfl ) ?_
                        show own_R p.tables e below _ T8 (mkF m 313 #[.val (.int nn), .val (.int bits), .val (.int cc), .val (.int n), .val (.int r1), .val (.int r2), .val (.int r3), .val (.int r4), .val (.int r5), .val (.ref t), .val (.int r1), .val (.int (r1 + r2)), .val (.int ((r1 + r2) + r3)), .val (.int (((r1 + r2) + r3) + r4)), .val (.int ((((r1 + r2) + r3) + r4) + r5)), .val (.int ((((r1 + r2) + r3) + r4) + r5)), .val (.int rc), .val (.ref a3), .val (.double xx), .second, .val (.double (FP.dadd (FP.dadd (FP.dadd FP.dconst0 (own_tm r1 r1 (1 : Int32))) (own_tm r2 (r1 + r2) (2 : Int32))) (own_tm r3 ((r1 + r2) + r3) (3 : Int32)))), .second, .unset, .unset] [(.int (((r1 + r2) + r3) + r4)), (.int r4), (.double (FP.dadd (FP.dadd (FP.dadd FP.dconst0 (own_tm r1 r1 (1 : Int32))) (own_tm r2 (r1 + r2) (2 : Int32))) (own_tm r3 ((r1 + r2) + r3) (3 : Int32))))])
                        refine own_go (fun _ => XS.iconst X8.here hx rfl (hb hby at_313)) ?_
                        show own_R p.tables e below _ T8 (mkF m 314 #[.val (.int nn), .val (.int bits), .val (.int cc), .val (.int n), .val (.int r1), .val (.int r2), .val (.int r3), .val (.int r4), .val (.int r5), .val (.ref t), .val (.int r1), .val (.int (r1 + r2)), .val (.int ((r1 + r2) + r3)), .val (.int (((r1 + r2) + r3) + r4)), .val (.int ((((r1 + r2) + r3) + r4) + r5)), .val (.int ((((r1 + r2) + r3) + r4) + r5)), .val (.int rc), .val (.ref a3), .val (.double xx), .second, .val (.double (FP.dadd (FP.dadd (FP.dadd FP.dconst0 (own_tm r1 r1 (1 : Int32))) (own_tm r2 (r1 + r2) (2 : Int32))) (own_tm r3 ((r1 + r2) + r3) (3 : Int32)))), .second, .unset, .unset] [(.int (4 : Int32)), (.int (((r1 + r2) + r3) + r4)), (.int r4), (.double (FP.dadd (FP.dadd (FP.dadd FP.dconst0 (own_tm r1 r1 (1 : Int32))) (own_tm r2 (r1 + r2) (2 : Int32))) (own_tm r3 ((r1 + r2) + r3) (3 : Int32))))])
                        obtain ⟨v9, T9, L9, X9, Q9, st9⟩ := own_callS X8 hx hZ hown (y := (⟨"com/example/kookaburra/kookaburra/eval/RankingAveragePrecisionPinLaw", "term", "(ZII)D"⟩ : MethodName)) (hw _ (List.mem_of_getElem? (i := 21) rfl)) (hw _ (List.mem_of_getElem? (i := 22) rfl)) (hw _ (List.mem_of_getElem? (i := 23) rfl)) (hw _ (List.mem_of_getElem? (i := 24) rfl)) (by decide) (rmTm l Z a0 hw [] T4.heap n0 r4 (((r1 + r2) + r3) + r4) 4 (by decide)) (W := 2) (g := (mkF m 314 #[.val (.int nn), .val (.int bits), .val (.int cc), .val (.int n), .val (.int r1), .val (.int r2), .val (.int r3), .val (.int r4), .val (.int r5), .val (.ref t), .val (.int r1), .val (.int (r1 + r2)), .val (.int ((r1 + r2) + r3)), .val (.int (((r1 + r2) + r3) + r4)), .val (.int ((((r1 + r2) + r3) + r4) + r5)), .val (.int ((((r1 + r2) + r3) + r4) + r5)), .val (.int rc), .val (.ref a3), .val (.double xx), .second, .val (.double (FP.dadd (FP.dadd (FP.dadd FP.dconst0 (own_tm r1 r1 (1 : Int32))) (own_tm r2 (r1 + r2) (2 : Int32))) (own_tm r3 ((r1 + r2) + r3) (3 : Int32)))), .second, .unset, .unset] [(.int (4 : Int32)), (.int (((r1 + r2) + r3) + r4)), (.int r4), (.double (FP.dadd (FP.dadd (FP.dadd FP.dconst0 (own_tm r1 r1 (1 : Int32))) (own_tm r2 (r1 + r2) (2 : Int32))) (own_tm r3 ((r1 + r2) + r3) (3 : Int32))))])) rfl (by rw [hml]; rfl) (argsL := [(.int r4), (.int (((r1 + r2) + r3) + r4)), (.int (4 : Int32))]) (rest := [(.double (FP.dadd (FP.dadd (FP.dadd FP.dconst0 (own_tm r1 r1 (1 : Int32))) (own_tm r2 (r1 + r2) (2 : Int32))) (own_tm r3 ((r1 + r2) + r3) (3 : Int32))))]) (lenOf pd__ZII_D rfl) rfl rfl (by show 2 * 0 + _ ≤ _; exact Nat.le_of_eq rfl) (hb hby at_314) e8 (by decide) (by decide) (by decide) (by decide)
                        obtain ⟨rfl, N9q, e9⟩ := Q9
                        have N9 := Fr.app N8 N9q
                        refine own_go st9 ?_
                        show own_R p.tables e below _ T9 (mkF m 317 #[.val (.int nn), .val (.int bits), .val (.int cc), .val (.int n), .val (.int r1), .val (.int r2), .val (.int r3), .val (.int r4), .val (.int r5), .val (.ref t), .val (.int r1), .val (.int (r1 + r2)), .val (.int ((r1 + r2) + r3)), .val (.int (((r1 + r2) + r3) + r4)), .val (.int ((((r1 + r2) + r3) + r4) + r5)), .val (.int ((((r1 + r2) + r3) + r4) + r5)), .val (.int rc), .val (.ref a3), .val (.double xx), .second, .val (.double (FP.dadd (FP.dadd (FP.dadd FP.dconst0 (own_tm r1 r1 (1 : Int32))) (own_tm r2 (r1 + r2) (2 : Int32))) (own_tm r3 ((r1 + r2) + r3) (3 : Int32)))), .second, .unset, .unset] [(.double (own_tm r4 (((r1 + r2) + r3) + r4) (4 : Int32))), (.double (FP.dadd (FP.dadd (FP.dadd FP.dconst0 (own_tm r1 r1 (1 : Int32))) (own_tm r2 (r1 + r2) (2 : Int32))) (own_tm r3 ((r1 + r2) + r3) (3 : Int32))))])
                        refine own_go (fun _ => XS.daddS X9.here hx rfl (hb hby at_317) rfl nn4 rfl) ?_
                        show own_R p.tables e below _ T9 (mkF m 318 #[.val (.int nn), .val (.int bits), .val (.int cc), .val (.int n), .val (.int r1), .val (.int r2), .val (.int r3), .val (.int r4), .val (.int r5), .val (.ref t), .val (.int r1), .val (.int (r1 + r2)), .val (.int ((r1 + r2) + r3)), .val (.int (((r1 + r2) + r3) + r4)), .val (.int ((((r1 + r2) + r3) + r4) + r5)), .val (.int ((((r1 + r2) + r3) + r4) + r5)), .val (.int rc), .val (.ref a3), .val (.double xx), .second, .val (.double (FP.dadd (FP.dadd (FP.dadd FP.dconst0 (own_tm r1 r1 (1 : Int32))) (own_tm r2 (r1 + r2) (2 : Int32))) (own_tm r3 ((r1 + r2) + r3) (3 : Int32)))), .second, .unset, .unset] [(.double (FP.dadd (FP.dadd (FP.dadd (FP.dadd FP.dconst0 (own_tm r1 r1 (1 : Int32))) (own_tm r2 (r1 + r2) (2 : Int32))) (own_tm r3 ((r1 + r2) + r3) (3 : Int32))) (own_tm r4 (((r1 + r2) + r3) + r4) (4 : Int32))))])
                        refine own_go (fun _ => XS.dstore X9.here hx rfl (hb hby at_318) rfl (l' := #[.val (.int nn), .val (.int bits), .val (.int cc), .val (.int n), .val (.int r1), .val (.int r2), .val (.int r3), .val (.int r4), .val (.int r5), .val (.ref t), .val (.int r1), .val (.int (r1 + r2)), .val (.int ((r1 + r2) + r3)), .val (.int (((r1 + r2) + r3) + r4)), .val (.int ((((r1 + r2) + r3) + r4) + r5)), .val (.int ((((r1 + r2) + r3) + r4) + r5)), .val (.int rc), .val (.ref a3), .val (.double xx), .second, .val (.double (FP.dadd (FP.dadd (FP.dadd (FP.dadd FP.dconst0 (own_tm r1 r1 (1 : Int32))) (own_tm r2 (r1 + r2) (2 : Int32))) (own_tm r3 ((r1 + r2) + r3) (3 : Int32))) (own_tm r4 (((r1 + r2) + r3) + r4) (4 : Int32)))), .second, .unset, .unset]) rfl) ?_
                        refine own_go (fun _ => XS.dload X9.here hx rfl (hb hby at_320) rfl ) ?_
                        refine own_go (fun _ => XS.iload X9.here hx rfl (hb hby at_322) rfl ) ?_
                        refine own_go (fun _ => XS.iload X9.here hx rfl (hb hby at_324) rfl ) ?_
                        show own_R p.tables e below _ T9 (mkF m 326 #[.val (.int nn), .val (.int bits), .val (.int cc), .val (.int n), .val (.int r1), .val (.int r2), .val (.int r3), .val (.int r4), .val (.int r5), .val (.ref t), .val (.int r1), .val (.int (r1 + r2)), .val (.int ((r1 + r2) + r3)), .val (.int (((r1 + r2) + r3) + r4)), .val (.int ((((r1 + r2) + r3) + r4) + r5)), .val (.int ((((r1 + r2) + r3) + r4) + r5)), .val (.int rc), .val (.ref a3), .val (.double xx), .second, .val (.double (FP.dadd (FP.dadd (FP.dadd (FP.dadd FP.dconst0 (own_tm r1 r1 (1 : Int32))) (own_tm r2 (r1 + r2) (2 : Int32))) (own_tm r3 ((r1 + r2) + r3) (3 : Int32))) (own_tm r4 (((r1 + r2) + r3) + r4) (4 : Int32)))), .second, .unset, .unset] [(.int ((((r1 + r2) + r3) + r4) + r5)), (.int r5), (.double (FP.dadd (FP.dadd (FP.dadd (FP.dadd FP.dconst0 (own_tm r1 r1 (1 : Int32))) (own_tm r2 (r1 + r2) (2 : Int32))) (own_tm r3 ((r1 + r2) + r3) (3 : Int32))) (own_tm r4 (((r1 + r2) + r3) + r4) (4 : Int32))))])
                        refine own_go (fun _ => XS.iconst X9.here hx rfl (hb hby at_326)) ?_
                        show own_R p.tables e below _ T9 (mkF m 327 #[.val (.int nn), .val (.int bits), .val (.int cc), .val (.int n), .val (.int r1), .val (.int r2), .val (.int r3), .val (.int r4), .val (.int r5), .val (.ref t), .val (.int r1), .val (.int (r1 + r2)), .val (.int ((r1 + r2) + r3)), .val (.int (((r1 + r2) + r3) + r4)), .val (.int ((((r1 + r2) + r3) + r4) + r5)), .val (.int ((((r1 + r2) + r3) + r4) + r5)), .val (.int rc), .val (.ref a3), .val (.double xx), .second, .val (.double (FP.dadd (FP.dadd (FP.dadd (FP.dadd FP.dconst0 (own_tm r1 r1 (1 : Int32))) (own_tm r2 (r1 + r2) (2 : Int32))) (own_tm r3 ((r1 + r2) + r3) (3 : Int32))) (own_tm r4 (((r1 + r2) + r3) + r4) (4 : Int32)))), .second, .unset, .unset] [(.int (5 : Int32)), (.int ((((r1 + r2) + r3) + r4) + r5)), (.int r5), (.double (FP.dadd (FP.dadd (FP.dadd (FP.dadd FP.dconst0 (own_tm r1 r1 (1 : Int32))) (own_tm r2 (r1 + r2) (2 : Int32))) (own_tm r3 ((r1 + r2) + r3) (3 : Int32))) (own_tm r4 (((r1 + r2) + r3) + r4) (4 : Int32))))])
                        obtain ⟨v10, T10, L10, X10, Q10, st10⟩ := own_callS X9 hx hZ hown (y := (⟨"com/example/kookaburra/kookaburra/eval/RankingAveragePrecisionPinLaw", "term", "(ZII)D"⟩ : MethodName)) (hw _ (List.mem_of_getElem? (i := 21) rfl)) (hw _ (List.mem_of_getElem? (i := 22) rfl)) (hw _ (List.mem_of_getElem? (i := 23) rfl)) (hw _ (List.mem_of_getElem? (i := 24) rfl)) (by decide) (rmTm l Z a0 hw [] T4.heap n0 r5 ((((r1 + r2) + r3) + r4) + r5) 5 (by decide)) (W := 2) (g := (mkF m 327 #[.val (.int nn), .val (.int bits), .val (.int cc), .val (.int n), .val (.int r1), .val (.int r2), .val (.int r3), .val (.int r4), .val (.int r5), .val (.ref t), .val (.int r1), .val (.int (r1 + r2)), .val (.int ((r1 + r2) + r3)), .val (.int (((r1 + r2) + r3) + r4)), .val (.int ((((r1 + r2) + r3) + r4) + r5)), .val (.int ((((r1 + r2) + r3) + r4) + r5)), .val (.int rc), .val (.ref a3), .val (.double xx), .second, .val (.double (FP.dadd (FP.dadd (FP.dadd (FP.dadd FP.dconst0 (own_tm r1 r1 (1 : Int32))) (own_tm r2 (r1 + r2) (2 : Int32))) (own_tm r3 ((r1 + r2) + r3) (3 : Int32))) (own_tm r4 (((r1 + r2) + r3) + r4) (4 : Int32)))), .second, .unset, .unset] [(.int (5 : Int32)), (.int ((((r1 + r2) + r3) + r4) + r5)), (.int r5), (.double (FP.dadd (FP.dadd (FP.dadd (FP.dadd FP.dconst0 (own_tm r1 r1 (1 : Int32))) (own_tm r2 (r1 + r2) (2 : Int32))) (own_tm r3 ((r1 + r2) + r3) (3 : Int32))) (own_tm r4 (((r1 + r2) + r3) + r4) (4 : Int32))))])) rfl (by rw [hml]; rfl) (argsL := [(.int r5), (.int ((((r1 + r2) + r3) + r4) + r5)), (.int (5 : Int32))]) (rest := [(.double (FP.dadd (FP.dadd (FP.dadd (FP.dadd FP.dconst0 (own_tm r1 r1 (1 : Int32))) (own_tm r2 (r1 + r2) (2 : Int32))) (own_tm r3 ((r1 + r2) + r3) (3 : Int32))) (own_tm r4 (((r1 + r2) + r3) + r4) (4 : Int32))))]) (lenOf pd__ZII_D rfl) rfl rfl (by show 2 * 0 + _ ≤ _; exact Nat.le_of_eq rfl) (hb hby at_327) e9 (by decide) (by decide) (by decide) (by decide)
                        obtain ⟨rfl, N10q, e10⟩ := Q10
                        have N10 := Fr.app N9 N10q
                        refine own_go st10 ?_
                        show own_R p.tables e below _ T10 (mkF m 330 #[.val (.int nn), .val (.int bits), .val (.int cc), .val (.int n), .val (.int r1), .val (.int r2), .val (.int r3), .val (.int r4), .val (.int r5), .val (.ref t), .val (.int r1), .val (.int (r1 + r2)), .val (.int ((r1 + r2) + r3)), .val (.int (((r1 + r2) + r3) + r4)), .val (.int ((((r1 + r2) + r3) + r4) + r5)), .val (.int ((((r1 + r2) + r3) + r4) + r5)), .val (.int rc), .val (.ref a3), .val (.double xx), .second, .val (.double (FP.dadd (FP.dadd (FP.dadd (FP.dadd FP.dconst0 (own_tm r1 r1 (1 : Int32))) (own_tm r2 (r1 + r2) (2 : Int32))) (own_tm r3 ((r1 + r2) + r3) (3 : Int32))) (own_tm r4 (((r1 + r2) + r3) + r4) (4 : Int32)))), .second, .unset, .unset] [(.double (own_tm r5 ((((r1 + r2) + r3) + r4) + r5) (5 : Int32))), (.double (FP.dadd (FP.dadd (FP.dadd (FP.dadd FP.dconst0 (own_tm r1 r1 (1 : Int32))) (own_tm r2 (r1 + r2) (2 : Int32))) (own_tm r3 ((r1 + r2) + r3) (3 : Int32))) (own_tm r4 (((r1 + r2) + r3) + r4) (4 : Int32))))])
                        refine own_go (fun _ => XS.daddS X10.here hx rfl (hb hby at_330) rfl nn5 rfl) ?_
                        show own_R p.tables e below _ T10 (mkF m 331 #[.val (.int nn), .val (.int bits), .val (.int cc), .val (.int n), .val (.int r1), .val (.int r2), .val (.int r3), .val (.int r4), .val (.int r5), .val (.ref t), .val (.int r1), .val (.int (r1 + r2)), .val (.int ((r1 + r2) + r3)), .val (.int (((r1 + r2) + r3) + r4)), .val (.int ((((r1 + r2) + r3) + r4) + r5)), .val (.int ((((r1 + r2) + r3) + r4) + r5)), .val (.int rc), .val (.ref a3), .val (.double xx), .second, .val (.double (FP.dadd (FP.dadd (FP.dadd (FP.dadd FP.dconst0 (own_tm r1 r1 (1 : Int32))) (own_tm r2 (r1 + r2) (2 : Int32))) (own_tm r3 ((r1 + r2) + r3) (3 : Int32))) (own_tm r4 (((r1 + r2) + r3) + r4) (4 : Int32)))), .second, .unset, .unset] [(.double (FP.dadd (FP.dadd (FP.dadd (FP.dadd (FP.dadd FP.dconst0 (own_tm r1 r1 (1 : Int32))) (own_tm r2 (r1 + r2) (2 : Int32))) (own_tm r3 ((r1 + r2) + r3) (3 : Int32))) (own_tm r4 (((r1 + r2) + r3) + r4) (4 : Int32))) (own_tm r5 ((((r1 + r2) + r3) + r4) + r5) (5 : Int32))))])
                        refine own_go (fun _ => XS.dstore X10.here hx rfl (hb hby at_331) rfl (l' := #[.val (.int nn), .val (.int bits), .val (.int cc), .val (.int n), .val (.int r1), .val (.int r2), .val (.int r3), .val (.int r4), .val (.int r5), .val (.ref t), .val (.int r1), .val (.int (r1 + r2)), .val (.int ((r1 + r2) + r3)), .val (.int (((r1 + r2) + r3) + r4)), .val (.int ((((r1 + r2) + r3) + r4) + r5)), .val (.int ((((r1 + r2) + r3) + r4) + r5)), .val (.int rc), .val (.ref a3), .val (.double xx), .second, .val (.double (FP.dadd (FP.dadd (FP.dadd (FP.dadd (FP.dadd FP.dconst0 (own_tm r1 r1 (1 : Int32))) (own_tm r2 (r1 + r2) (2 : Int32))) (own_tm r3 ((r1 + r2) + r3) (3 : Int32))) (own_tm r4 (((r1 + r2) + r3) + r4) (4 : Int32))) (own_tm r5 ((((r1 + r2) + r3) + r4) + r5) (5 : Int32)))), .second, .unset, .unset]) rfl) ?_
                        refine own_go (fun _ => XS.iload X10.here hx rfl (hb hby at_333) rfl ) ?_
                        show own_R p.tables e below _ T10 (mkF m 335 #[.val (.int nn), .val (.int bits), .val (.int cc), .val (.int n), .val (.int r1), .val (.int r2), .val (.int r3), .val (.int r4), .val (.int r5), .val (.ref t), .val (.int r1), .val (.int (r1 + r2)), .val (.int ((r1 + r2) + r3)), .val (.int (((r1 + r2) + r3) + r4)), .val (.int ((((r1 + r2) + r3) + r4) + r5)), .val (.int ((((r1 + r2) + r3) + r4) + r5)), .val (.int rc), .val (.ref a3), .val (.double xx), .second, .val (.double (FP.dadd (FP.dadd (FP.dadd (FP.dadd (FP.dadd FP.dconst0 (own_tm r1 r1 (1 : Int32))) (own_tm r2 (r1 + r2) (2 : Int32))) (own_tm r3 ((r1 + r2) + r3) (3 : Int32))) (own_tm r4 (((r1 + r2) + r3) + r4) (4 : Int32))) (own_tm r5 ((((r1 + r2) + r3) + r4) + r5) (5 : Int32)))), .second, .unset, .unset] [(.int ((((r1 + r2) + r3) + r4) + r5))])
                        by_cases hf0 : ((((r1 + r2) + r3) + r4) + r5) = (0 : Int32)
                        · show own_R p.tables e below _ T10 (mkF m 335 #[.val (.int nn), .val (.int bits), .val (.int cc), .val (.int n), .val (.int r1), .val (.int r2), .val (.int r3), .val (.int r4), .val (.int r5), .val (.ref t), .val (.int r1), .val (.int (r1 + r2)), .val (.int ((r1 + r2) + r3)), .val (.int (((r1 + r2) + r3) + r4)), .val (.int ((((r1 + r2) + r3) + r4) + r5)), .val (.int ((((r1 + r2) + r3) + r4) + r5)), .val (.int rc), .val (.ref a3), .val (.double xx), .second, .val (.double (FP.dadd (FP.dadd (FP.dadd (FP.dadd (FP.dadd FP.dconst0 (own_tm r1 r1 (1 : Int32))) (own_tm r2 (r1 + r2) (2 : Int32))) (own_tm r3 ((r1 + r2) + r3) (3 : Int32))) (own_tm r4 (((r1 + r2) + r3) + r4) (4 : Int32))) (own_tm r5 ((((r1 + r2) + r3) + r4) + r5) (5 : Int32)))), .second, .unset, .unset] [(.int ((((r1 + r2) + r3) + r4) + r5))])
                          refine own_go (fun _ => XS.ifNo X10.here hx rfl (hb hby at_335) rfl ((if0 _ _).trans (teq hf0).2)) ?_
                          show own_R p.tables e below _ T10 (mkF m 338 #[.val (.int nn), .val (.int bits), .val (.int cc), .val (.int n), .val (.int r1), .val (.int r2), .val (.int r3), .val (.int r4), .val (.int r5), .val (.ref t), .val (.int r1), .val (.int (r1 + r2)), .val (.int ((r1 + r2) + r3)), .val (.int (((r1 + r2) + r3) + r4)), .val (.int ((((r1 + r2) + r3) + r4) + r5)), .val (.int ((((r1 + r2) + r3) + r4) + r5)), .val (.int rc), .val (.ref a3), .val (.double xx), .second, .val (.double (FP.dadd (FP.dadd (FP.dadd (FP.dadd (FP.dadd FP.dconst0 (own_tm r1 r1 (1 : Int32))) (own_tm r2 (r1 + r2) (2 : Int32))) (own_tm r3 ((r1 + r2) + r3) (3 : Int32))) (own_tm r4 (((r1 + r2) + r3) + r4) (4 : Int32))) (own_tm r5 ((((r1 + r2) + r3) + r4) + r5) (5 : Int32)))), .second, .unset, .unset] [])
                          have hxe : xx = FP.dconst0 := hxx.symm.trans (if_pos hf0)
                          refine own_go (fun _ => XS.dconst0 X10.here hx rfl (hb hby at_338) rfl) ?_
                          refine own_go (fun _ => XS.goto X10.here hx rfl (pc0 := 339) (pc' := 348) rfl (hb hby at_339) (by decide) (by decide)) ?_
                          refine own_go (fun _ => XS.dstore X10.here hx rfl (hb hby at_348) rfl (l' := #[.val (.int nn), .val (.int bits), .val (.int cc), .val (.int n), .val (.int r1), .val (.int r2), .val (.int r3), .val (.int r4), .val (.int r5), .val (.ref t), .val (.int r1), .val (.int (r1 + r2)), .val (.int ((r1 + r2) + r3)), .val (.int (((r1 + r2) + r3) + r4)), .val (.int ((((r1 + r2) + r3) + r4) + r5)), .val (.int ((((r1 + r2) + r3) + r4) + r5)), .val (.int rc), .val (.ref a3), .val (.double xx), .second, .val (.double (FP.dadd (FP.dadd (FP.dadd (FP.dadd (FP.dadd FP.dconst0 (own_tm r1 r1 (1 : Int32))) (own_tm r2 (r1 + r2) (2 : Int32))) (own_tm r3 ((r1 + r2) + r3) (3 : Int32))) (own_tm r4 (((r1 + r2) + r3) + r4) (4 : Int32))) (own_tm r5 ((((r1 + r2) + r3) + r4) + r5) (5 : Int32)))), .second, .val (.double FP.dconst0), .second]) rfl) ?_
                          refine own_go (fun _ => XS.dload X10.here hx rfl (hb hby at_350) rfl ) ?_
                          show own_R p.tables e below _ T10 (mkF m 352 #[.val (.int nn), .val (.int bits), .val (.int cc), .val (.int n), .val (.int r1), .val (.int r2), .val (.int r3), .val (.int r4), .val (.int r5), .val (.ref t), .val (.int r1), .val (.int (r1 + r2)), .val (.int ((r1 + r2) + r3)), .val (.int (((r1 + r2) + r3) + r4)), .val (.int ((((r1 + r2) + r3) + r4) + r5)), .val (.int ((((r1 + r2) + r3) + r4) + r5)), .val (.int rc), .val (.ref a3), .val (.double xx), .second, .val (.double (FP.dadd (FP.dadd (FP.dadd (FP.dadd (FP.dadd FP.dconst0 (own_tm r1 r1 (1 : Int32))) (own_tm r2 (r1 + r2) (2 : Int32))) (own_tm r3 ((r1 + r2) + r3) (3 : Int32))) (own_tm r4 (((r1 + r2) + r3) + r4) (4 : Int32))) (own_tm r5 ((((r1 + r2) + r3) + r4) + r5) (5 : Int32)))), .second, .val (.double FP.dconst0), .second] [(.double xx)])
                          refine own_go (fun _ => XS.dload X10.here hx rfl (hb hby at_352) rfl ) ?_
                          refine own_go (fun _ => XS.dcmpS X10.here hx rfl (hb hby at_354) rfl rfl) ?_
                          show own_R p.tables e below _ T10 (mkF m 355 #[.val (.int nn), .val (.int bits), .val (.int cc), .val (.int n), .val (.int r1), .val (.int r2), .val (.int r3), .val (.int r4), .val (.int r5), .val (.ref t), .val (.int r1), .val (.int (r1 + r2)), .val (.int ((r1 + r2) + r3)), .val (.int (((r1 + r2) + r3) + r4)), .val (.int ((((r1 + r2) + r3) + r4) + r5)), .val (.int ((((r1 + r2) + r3) + r4) + r5)), .val (.int rc), .val (.ref a3), .val (.double xx), .second, .val (.double (FP.dadd (FP.dadd (FP.dadd (FP.dadd (FP.dadd FP.dconst0 (own_tm r1 r1 (1 : Int32))) (own_tm r2 (r1 + r2) (2 : Int32))) (own_tm r3 ((r1 + r2) + r3) (3 : Int32))) (own_tm r4 (((r1 + r2) + r3) + r4) (4 : Int32))) (own_tm r5 ((((r1 + r2) + r3) + r4) + r5) (5 : Int32)))), .second, .val (.double FP.dconst0), .second] [(.int (cmpValue (FP.dcmp xx FP.dconst0) .l))])
                          refine own_go (fun _ => XS.ifNo X10.here hx rfl (hb hby at_355) rfl ((if0 _ _).trans (teq (by rw [hxe]; decide +kernel)).2)) ?_
                          show own_R p.tables e below _ T10 (mkF m 358 #[.val (.int nn), .val (.int bits), .val (.int cc), .val (.int n), .val (.int r1), .val (.int r2), .val (.int r3), .val (.int r4), .val (.int r5), .val (.ref t), .val (.int r1), .val (.int (r1 + r2)), .val (.int ((r1 + r2) + r3)), .val (.int (((r1 + r2) + r3) + r4)), .val (.int ((((r1 + r2) + r3) + r4) + r5)), .val (.int ((((r1 + r2) + r3) + r4) + r5)), .val (.int rc), .val (.ref a3), .val (.double xx), .second, .val (.double (FP.dadd (FP.dadd (FP.dadd (FP.dadd (FP.dadd FP.dconst0 (own_tm r1 r1 (1 : Int32))) (own_tm r2 (r1 + r2) (2 : Int32))) (own_tm r3 ((r1 + r2) + r3) (3 : Int32))) (own_tm r4 (((r1 + r2) + r3) + r4) (4 : Int32))) (own_tm r5 ((((r1 + r2) + r3) + r4) + r5) (5 : Int32)))), .second, .val (.double FP.dconst0), .second] [])
                          refine own_go (fun _ => XS.iconst X10.here hx rfl (hb hby at_358)) ?_
                          refine own_go (fun _ => XS.goto X10.here hx rfl (pc0 := 359) (pc' := 363) rfl (hb hby at_359) (by decide) (by decide)) ?_
                          show own_R p.tables e below _ T10 (mkF m 363 #[.val (.int nn), .val (.int bits), .val (.int cc), .val (.int n), .val (.int r1), .val (.int r2), .val (.int r3), .val (.int r4), .val (.int r5), .val (.ref t), .val (.int r1), .val (.int (r1 + r2)), .val (.int ((r1 + r2) + r3)), .val (.int (((r1 + r2) + r3) + r4)), .val (.int ((((r1 + r2) + r3) + r4) + r5)), .val (.int ((((r1 + r2) + r3) + r4) + r5)), .val (.int rc), .val (.ref a3), .val (.double xx), .second, .val (.double (FP.dadd (FP.dadd (FP.dadd (FP.dadd (FP.dadd FP.dconst0 (own_tm r1 r1 (1 : Int32))) (own_tm r2 (r1 + r2) (2 : Int32))) (own_tm r3 ((r1 + r2) + r3) (3 : Int32))) (own_tm r4 (((r1 + r2) + r3) + r4) (4 : Int32))) (own_tm r5 ((((r1 + r2) + r3) + r4) + r5) (5 : Int32)))), .second, .val (.double FP.dconst0), .second] [(.int (1 : Int32))])
                          exact own_end X10 (some (.int (1 : Int32))) (fun h => by rw [hret] at h; cases h) hlk (fun fs hr => retN X10 hx (t := .boolean) hret (by simp) (hb hby at_363) hr) ⟨rfl, N10⟩ (by decide) (by decide)
                        · show own_R p.tables e below _ T10 (mkF m 335 #[.val (.int nn), .val (.int bits), .val (.int cc), .val (.int n), .val (.int r1), .val (.int r2), .val (.int r3), .val (.int r4), .val (.int r5), .val (.ref t), .val (.int r1), .val (.int (r1 + r2)), .val (.int ((r1 + r2) + r3)), .val (.int (((r1 + r2) + r3) + r4)), .val (.int ((((r1 + r2) + r3) + r4) + r5)), .val (.int ((((r1 + r2) + r3) + r4) + r5)), .val (.int rc), .val (.ref a3), .val (.double xx), .second, .val (.double (FP.dadd (FP.dadd (FP.dadd (FP.dadd (FP.dadd FP.dconst0 (own_tm r1 r1 (1 : Int32))) (own_tm r2 (r1 + r2) (2 : Int32))) (own_tm r3 ((r1 + r2) + r3) (3 : Int32))) (own_tm r4 (((r1 + r2) + r3) + r4) (4 : Int32))) (own_tm r5 ((((r1 + r2) + r3) + r4) + r5) (5 : Int32)))), .second, .unset, .unset] [(.int ((((r1 + r2) + r3) + r4) + r5))])
                          refine own_go (fun _ => XS.ifYes X10.here hx rfl (pc0 := 335) (pc' := 342) rfl (hb hby at_335) rfl ((if0 _ _).trans (feq hf0).2) (by decide) (by decide)) ?_
                          show own_R p.tables e below _ T10 (mkF m 342 #[.val (.int nn), .val (.int bits), .val (.int cc), .val (.int n), .val (.int r1), .val (.int r2), .val (.int r3), .val (.int r4), .val (.int r5), .val (.ref t), .val (.int r1), .val (.int (r1 + r2)), .val (.int ((r1 + r2) + r3)), .val (.int (((r1 + r2) + r3) + r4)), .val (.int ((((r1 + r2) + r3) + r4) + r5)), .val (.int ((((r1 + r2) + r3) + r4) + r5)), .val (.int rc), .val (.ref a3), .val (.double xx), .second, .val (.double (FP.dadd (FP.dadd (FP.dadd (FP.dadd (FP.dadd FP.dconst0 (own_tm r1 r1 (1 : Int32))) (own_tm r2 (r1 + r2) (2 : Int32))) (own_tm r3 ((r1 + r2) + r3) (3 : Int32))) (own_tm r4 (((r1 + r2) + r3) + r4) (4 : Int32))) (own_tm r5 ((((r1 + r2) + r3) + r4) + r5) (5 : Int32)))), .second, .unset, .unset] [])
                          have hxe : xx = FP.ddiv (FP.dadd (FP.dadd (FP.dadd (FP.dadd (FP.dadd FP.dconst0 (own_tm r1 r1 (1 : Int32))) (own_tm r2 (r1 + r2) (2 : Int32))) (own_tm r3 ((r1 + r2) + r3) (3 : Int32))) (own_tm r4 (((r1 + r2) + r3) + r4) (4 : Int32))) (own_tm r5 ((((r1 + r2) + r3) + r4) + r5) (5 : Int32))) (FP.i2d rc) := hxx.symm.trans (if_neg hf0)
                          refine own_go (fun _ => XS.dload X10.here hx rfl (hb hby at_342) rfl ) ?_
                          refine own_go (fun _ => XS.iload X10.here hx rfl (hb hby at_344) rfl ) ?_
                          refine own_go (fun _ => XS.i2dS X10.here hx rfl (hb hby at_346) rfl rfl) ?_
                          refine own_go (fun _ => XS.ddivS X10.here hx rfl (hb hby at_347) rfl (hdiv hf0) rfl) ?_
                          show own_R p.tables e below _ T10 (mkF m 348 #[.val (.int nn), .val (.int bits), .val (.int cc), .val (.int n), .val (.int r1), .val (.int r2), .val (.int r3), .val (.int r4), .val (.int r5), .val (.ref t), .val (.int r1), .val (.int (r1 + r2)), .val (.int ((r1 + r2) + r3)), .val (.int (((r1 + r2) + r3) + r4)), .val (.int ((((r1 + r2) + r3) + r4) + r5)), .val (.int ((((r1 + r2) + r3) + r4) + r5)), .val (.int rc), .val (.ref a3), .val (.double xx), .second, .val (.double (FP.dadd (FP.dadd (FP.dadd (FP.dadd (FP.dadd FP.dconst0 (own_tm r1 r1 (1 : Int32))) (own_tm r2 (r1 + r2) (2 : Int32))) (own_tm r3 ((r1 + r2) + r3) (3 : Int32))) (own_tm r4 (((r1 + r2) + r3) + r4) (4 : Int32))) (own_tm r5 ((((r1 + r2) + r3) + r4) + r5) (5 : Int32)))), .second, .unset, .unset] [(.double (FP.ddiv (FP.dadd (FP.dadd (FP.dadd (FP.dadd (FP.dadd FP.dconst0 (own_tm r1 r1 (1 : Int32))) (own_tm r2 (r1 + r2) (2 : Int32))) (own_tm r3 ((r1 + r2) + r3) (3 : Int32))) (own_tm r4 (((r1 + r2) + r3) + r4) (4 : Int32))) (own_tm r5 ((((r1 + r2) + r3) + r4) + r5) (5 : Int32))) (FP.i2d rc)))])
                          refine own_go (fun _ => XS.dstore X10.here hx rfl (hb hby at_348) rfl (l' := #[.val (.int nn), .val (.int bits), .val (.int cc), .val (.int n), .val (.int r1), .val (.int r2), .val (.int r3), .val (.int r4), .val (.int r5), .val (.ref t), .val (.int r1), .val (.int (r1 + r2)), .val (.int ((r1 + r2) + r3)), .val (.int (((r1 + r2) + r3) + r4)), .val (.int ((((r1 + r2) + r3) + r4) + r5)), .val (.int ((((r1 + r2) + r3) + r4) + r5)), .val (.int rc), .val (.ref a3), .val (.double xx), .second, .val (.double (FP.dadd (FP.dadd (FP.dadd (FP.dadd (FP.dadd FP.dconst0 (own_tm r1 r1 (1 : Int32))) (own_tm r2 (r1 + r2) (2 : Int32))) (own_tm r3 ((r1 + r2) + r3) (3 : Int32))) (own_tm r4 (((r1 + r2) + r3) + r4) (4 : Int32))) (own_tm r5 ((((r1 + r2) + r3) + r4) + r5) (5 : Int32)))), .second, .val (.double (FP.ddiv (FP.dadd (FP.dadd (FP.dadd (FP.dadd (FP.dadd FP.dconst0 (own_tm r1 r1 (1 : Int32))) (own_tm r2 (r1 + r2) (2 : Int32))) (own_tm r3 ((r1 + r2) + r3) (3 : Int32))) (own_tm r4 (((r1 + r2) + r3) + r4) (4 : Int32))) (own_tm r5 ((((r1 + r2) + r3) + r4) + r5) (5 : Int32))) (FP.i2d rc))), .second]) rfl) ?_
                          refine own_go (fun _ => XS.dload X10.here hx rfl (hb hby at_350) rfl ) ?_
                          refine own_go (fun _ => XS.dload X10.here hx rfl (hb hby at_352) rfl ) ?_
                          refine own_go (fun _ => XS.dcmpS X10.here hx rfl (hb hby at_354) rfl rfl) ?_
                          show own_R p.tables e below _ T10 (mkF m 355 #[.val (.int nn), .val (.int bits), .val (.int cc), .val (.int n), .val (.int r1), .val (.int r2), .val (.int r3), .val (.int r4), .val (.int r5), .val (.ref t), .val (.int r1), .val (.int (r1 + r2)), .val (.int ((r1 + r2) + r3)), .val (.int (((r1 + r2) + r3) + r4)), .val (.int ((((r1 + r2) + r3) + r4) + r5)), .val (.int ((((r1 + r2) + r3) + r4) + r5)), .val (.int rc), .val (.ref a3), .val (.double xx), .second, .val (.double (FP.dadd (FP.dadd (FP.dadd (FP.dadd (FP.dadd FP.dconst0 (own_tm r1 r1 (1 : Int32))) (own_tm r2 (r1 + r2) (2 : Int32))) (own_tm r3 ((r1 + r2) + r3) (3 : Int32))) (own_tm r4 (((r1 + r2) + r3) + r4) (4 : Int32))) (own_tm r5 ((((r1 + r2) + r3) + r4) + r5) (5 : Int32)))), .second, .val (.double (FP.ddiv (FP.dadd (FP.dadd (FP.dadd (FP.dadd (FP.dadd FP.dconst0 (own_tm r1 r1 (1 : Int32))) (own_tm r2 (r1 + r2) (2 : Int32))) (own_tm r3 ((r1 + r2) + r3) (3 : Int32))) (own_tm r4 (((r1 + r2) + r3) + r4) (4 : Int32))) (own_tm r5 ((((r1 + r2) + r3) + r4) + r5) (5 : Int32))) (FP.i2d rc))), .second] [(.int (cmpValue (FP.dcmp xx (FP.ddiv (FP.dadd (FP.dadd (FP.dadd (FP.dadd (FP.dadd FP.dconst0 (own_tm r1 r1 (1 : Int32))) (own_tm r2 (r1 + r2) (2 : Int32))) (own_tm r3 ((r1 + r2) + r3) (3 : Int32))) (own_tm r4 (((r1 + r2) + r3) + r4) (4 : Int32))) (own_tm r5 ((((r1 + r2) + r3) + r4) + r5) (5 : Int32))) (FP.i2d rc))) .l))])
                          refine own_go (fun _ => XS.ifNo X10.here hx rfl (hb hby at_355) rfl ((if0 _ _).trans (teq (by rw [hxe]; exact dcmpV_self (hdiv hf0) _)).2)) ?_
                          show own_R p.tables e below _ T10 (mkF m 358 #[.val (.int nn), .val (.int bits), .val (.int cc), .val (.int n), .val (.int r1), .val (.int r2), .val (.int r3), .val (.int r4), .val (.int r5), .val (.ref t), .val (.int r1), .val (.int (r1 + r2)), .val (.int ((r1 + r2) + r3)), .val (.int (((r1 + r2) + r3) + r4)), .val (.int ((((r1 + r2) + r3) + r4) + r5)), .val (.int ((((r1 + r2) + r3) + r4) + r5)), .val (.int rc), .val (.ref a3), .val (.double xx), .second, .val (.double (FP.dadd (FP.dadd (FP.dadd (FP.dadd (FP.dadd FP.dconst0 (own_tm r1 r1 (1 : Int32))) (own_tm r2 (r1 + r2) (2 : Int32))) (own_tm r3 ((r1 + r2) + r3) (3 : Int32))) (own_tm r4 (((r1 + r2) + r3) + r4) (4 : Int32))) (own_tm r5 ((((r1 + r2) + r3) + r4) + r5) (5 : Int32)))), .second, .val (.double (FP.ddiv (FP.dadd (FP.dadd (FP.dadd (FP.dadd (FP.dadd FP.dconst0 (own_tm r1 r1 (1 : Int32))) (own_tm r2 (r1 + r2) (2 : Int32))) (own_tm r3 ((r1 + r2) + r3) (3 : Int32))) (own_tm r4 (((r1 + r2) + r3) + r4) (4 : Int32))) (own_tm r5 ((((r1 + r2) + r3) + r4) + r5) (5 : Int32))) (FP.i2d rc))), .second] [])
                          refine own_go (fun _ => XS.iconst X10.here hx rfl (hb hby at_358)) ?_
                          refine own_go (fun _ => XS.goto X10.here hx rfl (pc0 := 359) (pc' := 363) rfl (hb hby at_359) (by decide) (by decide)) ?_
                          show own_R p.tables e below _ T10 (mkF m 363 #[.val (.int nn), .val (.int bits), .val (.int cc), .val (.int n), .val (.int r1), .val (.int r2), .val (.int r3), .val (.int r4), .val (.int r5), .val (.ref t), .val (.int r1), .val (.int (r1 + r2)), .val (.int ((r1 + r2) + r3)), .val (.int (((r1 + r2) + r3) + r4)), .val (.int ((((r1 + r2) + r3) + r4) + r5)), .val (.int ((((r1 + r2) + r3) + r4) + r5)), .val (.int rc), .val (.ref a3), .val (.double xx), .second, .val (.double (FP.dadd (FP.dadd (FP.dadd (FP.dadd (FP.dadd FP.dconst0 (own_tm r1 r1 (1 : Int32))) (own_tm r2 (r1 + r2) (2 : Int32))) (own_tm r3 ((r1 + r2) + r3) (3 : Int32))) (own_tm r4 (((r1 + r2) + r3) + r4) (4 : Int32))) (own_tm r5 ((((r1 + r2) + r3) + r4) + r5) (5 : Int32)))), .second, .val (.double (FP.ddiv (FP.dadd (FP.dadd (FP.dadd (FP.dadd (FP.dadd FP.dconst0 (own_tm r1 r1 (1 : Int32))) (own_tm r2 (r1 + r2) (2 : Int32))) (own_tm r3 ((r1 + r2) + r3) (3 : Int32))) (own_tm r4 (((r1 + r2) + r3) + r4) (4 : Int32))) (own_tm r5 ((((r1 + r2) + r3) + r4) + r5) (5 : Int32))) (FP.i2d rc))), .second] [(.int (1 : Int32))])
                          exact own_end X10 (some (.int (1 : Int32))) (fun h => by rw [hret] at h; cases h) hlk (fun fs hr => retN X10 hx (t := .boolean) hret (by simp) (hb hby at_363) hr) ⟨rfl, N10⟩ (by decide) (by decide)
                      by_cases b4 : r5 = (0 : Int32)
                      · show own_R p.tables e below _ Tm (mkF m 221 #[.val (.int nn), .val (.int bits), .val (.int cc), .val (.int n), .val (.int r1), .val (.int r2), .val (.int r3), .val (.int r4), .val (.int r5), .val (.ref t), .val (.int r1), .val (.int (r1 + r2)), .val (.int ((r1 + r2) + r3)), .val (.int (((r1 + r2) + r3) + r4)), .unset, .unset, .unset, .unset, .unset, .unset, .unset, .unset, .unset, .unset] [(.int r5), (.int (((r1 + r2) + r3) + r4))])
                        refine own_go (fun _ => XS.ifYes Xm.here hx rfl (pc0 := 221) (pc' := 228) rfl (hb hby at_221) rfl ((if0 _ _).trans (teq b4).1) (by decide) (by decide)) ?_
                        show own_R p.tables e below _ Tm (mkF m 228 #[.val (.int nn), .val (.int bits), .val (.int cc), .val (.int n), .val (.int r1), .val (.int r2), .val (.int r3), .val (.int r4), .val (.int r5), .val (.ref t), .val (.int r1), .val (.int (r1 + r2)), .val (.int ((r1 + r2) + r3)), .val (.int (((r1 + r2) + r3) + r4)), .unset, .unset, .unset, .unset, .unset, .unset, .unset, .unset, .unset, .unset] [(.int (((r1 + r2) + r3) + r4))])
                        refine own_go (fun _ => XS.iconst Xm.here hx rfl (hb hby at_228)) ?_
                        show own_R p.tables e below _ Tm (mkF m 229 #[.val (.int nn), .val (.int bits), .val (.int cc), .val (.int n), .val (.int r1), .val (.int r2), .val (.int r3), .val (.int r4), .val (.int r5), .val (.ref t), .val (.int r1), .val (.int (r1 + r2)), .val (.int ((r1 + r2) + r3)), .val (.int (((r1 + r2) + r3) + r4)), .unset, .unset, .unset, .unset, .unset, .unset, .unset, .unset, .unset, .unset] [(.int (0 : Int32)), (.int (((r1 + r2) + r3) + r4))])
                        exact F4 _ b4.symm
                      · show own_R p.tables e below _ Tm (mkF m 221 #[.val (.int nn), .val (.int bits), .val (.int cc), .val (.int n), .val (.int r1), .val (.int r2), .val (.int r3), .val (.int r4), .val (.int r5), .val (.ref t), .val (.int r1), .val (.int (r1 + r2)), .val (.int ((r1 + r2) + r3)), .val (.int (((r1 + r2) + r3) + r4)), .unset, .unset, .unset, .unset, .unset, .unset, .unset, .unset, .unset, .unset] [(.int r5), (.int (((r1 + r2) + r3) + r4))])
                        refine own_go (fun _ => XS.ifNo Xm.here hx rfl (hb hby at_221) rfl ((if0 _ _).trans (feq b4).1)) ?_
                        show own_R p.tables e below _ Tm (mkF m 224 #[.val (.int nn), .val (.int bits), .val (.int cc), .val (.int n), .val (.int r1), .val (.int r2), .val (.int r3), .val (.int r4), .val (.int r5), .val (.ref t), .val (.int r1), .val (.int (r1 + r2)), .val (.int ((r1 + r2) + r3)), .val (.int (((r1 + r2) + r3) + r4)), .unset, .unset, .unset, .unset, .unset, .unset, .unset, .unset, .unset, .unset] [(.int (((r1 + r2) + r3) + r4))])
                        refine own_go (fun _ => XS.iconst Xm.here hx rfl (hb hby at_224)) ?_
                        refine own_go (fun _ => XS.goto Xm.here hx rfl (pc0 := 225) (pc' := 229) rfl (hb hby at_225) (by decide) (by decide)) ?_
                        show own_R p.tables e below _ Tm (mkF m 229 #[.val (.int nn), .val (.int bits), .val (.int cc), .val (.int n), .val (.int r1), .val (.int r2), .val (.int r3), .val (.int r4), .val (.int r5), .val (.ref t), .val (.int r1), .val (.int (r1 + r2)), .val (.int ((r1 + r2) + r3)), .val (.int (((r1 + r2) + r3) + r4)), .unset, .unset, .unset, .unset, .unset, .unset, .unset, .unset, .unset, .unset] [(.int (1 : Int32)), (.int (((r1 + r2) + r3) + r4))])
                        exact F4 _ (hr5.resolve_left b4).symm
                    by_cases b3 : r4 = (0 : Int32)
                    · show own_R p.tables e below _ Tm (mkF m 206 #[.val (.int nn), .val (.int bits), .val (.int cc), .val (.int n), .val (.int r1), .val (.int r2), .val (.int r3), .val (.int r4), .val (.int r5), .val (.ref t), .val (.int r1), .val (.int (r1 + r2)), .val (.int ((r1 + r2) + r3)), .unset, .unset, .unset, .unset, .unset, .unset, .unset, .unset, .unset, .unset, .unset] [(.int r4), (.int ((r1 + r2) + r3))])
                      refine own_go (fun _ => XS.ifYes Xm.here hx rfl (pc0 := 206) (pc' := 213) rfl (hb hby at_206) rfl ((if0 _ _).trans (teq b3).1) (by decide) (by decide)) ?_
                      show own_R p.tables e below _ Tm (mkF m 213 #[.val (.int nn), .val (.int bits), .val (.int cc), .val (.int n), .val (.int r1), .val (.int r2), .val (.int r3), .val (.int r4), .val (.int r5), .val (.ref t), .val (.int r1), .val (.int (r1 + r2)), .val (.int ((r1 + r2) + r3)), .unset, .unset, .unset, .unset, .unset, .unset, .unset, .unset, .unset, .unset, .unset] [(.int ((r1 + r2) + r3))])
                      refine own_go (fun _ => XS.iconst Xm.here hx rfl (hb hby at_213)) ?_
                      show own_R p.tables e below _ Tm (mkF m 214 #[.val (.int nn), .val (.int bits), .val (.int cc), .val (.int n), .val (.int r1), .val (.int r2), .val (.int r3), .val (.int r4), .val (.int r5), .val (.ref t), .val (.int r1), .val (.int (r1 + r2)), .val (.int ((r1 + r2) + r3)), .unset, .unset, .unset, .unset, .unset, .unset, .unset, .unset, .unset, .unset, .unset] [(.int (0 : Int32)), (.int ((r1 + r2) + r3))])
                      exact F3 _ b3.symm
                    · show own_R p.tables e below _ Tm (mkF m 206 #[.val (.int nn), .val (.int bits), .val (.int cc), .val (.int n), .val (.int r1), .val (.int r2), .val (.int r3), .val (.int r4), .val (.int r5), .val (.ref t), .val (.int r1), .val (.int (r1 + r2)), .val (.int ((r1 + r2) + r3)), .unset, .unset, .unset, .unset, .unset, .unset, .unset, .unset, .unset, .unset, .unset] [(.int r4), (.int ((r1 + r2) + r3))])
                      refine own_go (fun _ => XS.ifNo Xm.here hx rfl (hb hby at_206) rfl ((if0 _ _).trans (feq b3).1)) ?_
                      show own_R p.tables e below _ Tm (mkF m 209 #[.val (.int nn), .val (.int bits), .val (.int cc), .val (.int n), .val (.int r1), .val (.int r2), .val (.int r3), .val (.int r4), .val (.int r5), .val (.ref t), .val (.int r1), .val (.int (r1 + r2)), .val (.int ((r1 + r2) + r3)), .unset, .unset, .unset, .unset, .unset, .unset, .unset, .unset, .unset, .unset, .unset] [(.int ((r1 + r2) + r3))])
                      refine own_go (fun _ => XS.iconst Xm.here hx rfl (hb hby at_209)) ?_
                      refine own_go (fun _ => XS.goto Xm.here hx rfl (pc0 := 210) (pc' := 214) rfl (hb hby at_210) (by decide) (by decide)) ?_
                      show own_R p.tables e below _ Tm (mkF m 214 #[.val (.int nn), .val (.int bits), .val (.int cc), .val (.int n), .val (.int r1), .val (.int r2), .val (.int r3), .val (.int r4), .val (.int r5), .val (.ref t), .val (.int r1), .val (.int (r1 + r2)), .val (.int ((r1 + r2) + r3)), .unset, .unset, .unset, .unset, .unset, .unset, .unset, .unset, .unset, .unset, .unset] [(.int (1 : Int32)), (.int ((r1 + r2) + r3))])
                      exact F3 _ (hr4.resolve_left b3).symm
                  by_cases b2 : r3 = (0 : Int32)
                  · show own_R p.tables e below _ Tm (mkF m 191 #[.val (.int nn), .val (.int bits), .val (.int cc), .val (.int n), .val (.int r1), .val (.int r2), .val (.int r3), .val (.int r4), .val (.int r5), .val (.ref t), .val (.int r1), .val (.int (r1 + r2)), .unset, .unset, .unset, .unset, .unset, .unset, .unset, .unset, .unset, .unset, .unset, .unset] [(.int r3), (.int (r1 + r2))])
                    refine own_go (fun _ => XS.ifYes Xm.here hx rfl (pc0 := 191) (pc' := 198) rfl (hb hby at_191) rfl ((if0 _ _).trans (teq b2).1) (by decide) (by decide)) ?_
                    show own_R p.tables e below _ Tm (mkF m 198 #[.val (.int nn), .val (.int bits), .val (.int cc), .val (.int n), .val (.int r1), .val (.int r2), .val (.int r3), .val (.int r4), .val (.int r5), .val (.ref t), .val (.int r1), .val (.int (r1 + r2)), .unset, .unset, .unset, .unset, .unset, .unset, .unset, .unset, .unset, .unset, .unset, .unset] [(.int (r1 + r2))])
                    refine own_go (fun _ => XS.iconst Xm.here hx rfl (hb hby at_198)) ?_
                    show own_R p.tables e below _ Tm (mkF m 199 #[.val (.int nn), .val (.int bits), .val (.int cc), .val (.int n), .val (.int r1), .val (.int r2), .val (.int r3), .val (.int r4), .val (.int r5), .val (.ref t), .val (.int r1), .val (.int (r1 + r2)), .unset, .unset, .unset, .unset, .unset, .unset, .unset, .unset, .unset, .unset, .unset, .unset] [(.int (0 : Int32)), (.int (r1 + r2))])
                    exact F2 _ b2.symm
                  · show own_R p.tables e below _ Tm (mkF m 191 #[.val (.int nn), .val (.int bits), .val (.int cc), .val (.int n), .val (.int r1), .val (.int r2), .val (.int r3), .val (.int r4), .val (.int r5), .val (.ref t), .val (.int r1), .val (.int (r1 + r2)), .unset, .unset, .unset, .unset, .unset, .unset, .unset, .unset, .unset, .unset, .unset, .unset] [(.int r3), (.int (r1 + r2))])
                    refine own_go (fun _ => XS.ifNo Xm.here hx rfl (hb hby at_191) rfl ((if0 _ _).trans (feq b2).1)) ?_
                    show own_R p.tables e below _ Tm (mkF m 194 #[.val (.int nn), .val (.int bits), .val (.int cc), .val (.int n), .val (.int r1), .val (.int r2), .val (.int r3), .val (.int r4), .val (.int r5), .val (.ref t), .val (.int r1), .val (.int (r1 + r2)), .unset, .unset, .unset, .unset, .unset, .unset, .unset, .unset, .unset, .unset, .unset, .unset] [(.int (r1 + r2))])
                    refine own_go (fun _ => XS.iconst Xm.here hx rfl (hb hby at_194)) ?_
                    refine own_go (fun _ => XS.goto Xm.here hx rfl (pc0 := 195) (pc' := 199) rfl (hb hby at_195) (by decide) (by decide)) ?_
                    show own_R p.tables e below _ Tm (mkF m 199 #[.val (.int nn), .val (.int bits), .val (.int cc), .val (.int n), .val (.int r1), .val (.int r2), .val (.int r3), .val (.int r4), .val (.int r5), .val (.ref t), .val (.int r1), .val (.int (r1 + r2)), .unset, .unset, .unset, .unset, .unset, .unset, .unset, .unset, .unset, .unset, .unset, .unset] [(.int (1 : Int32)), (.int (r1 + r2))])
                    exact F2 _ (hr3.resolve_left b2).symm
                by_cases b1 : r2 = (0 : Int32)
                · show own_R p.tables e below _ Tm (mkF m 176 #[.val (.int nn), .val (.int bits), .val (.int cc), .val (.int n), .val (.int r1), .val (.int r2), .val (.int r3), .val (.int r4), .val (.int r5), .val (.ref t), .val (.int r1), .unset, .unset, .unset, .unset, .unset, .unset, .unset, .unset, .unset, .unset, .unset, .unset, .unset] [(.int r2), (.int r1)])
                  refine own_go (fun _ => XS.ifYes Xm.here hx rfl (pc0 := 176) (pc' := 183) rfl (hb hby at_176) rfl ((if0 _ _).trans (teq b1).1) (by decide) (by decide)) ?_
                  show own_R p.tables e below _ Tm (mkF m 183 #[.val (.int nn), .val (.int bits), .val (.int cc), .val (.int n), .val (.int r1), .val (.int r2), .val (.int r3), .val (.int r4), .val (.int r5), .val (.ref t), .val (.int r1), .unset, .unset, .unset, .unset, .unset, .unset, .unset, .unset, .unset, .unset, .unset, .unset, .unset] [(.int r1)])
                  refine own_go (fun _ => XS.iconst Xm.here hx rfl (hb hby at_183)) ?_
                  show own_R p.tables e below _ Tm (mkF m 184 #[.val (.int nn), .val (.int bits), .val (.int cc), .val (.int n), .val (.int r1), .val (.int r2), .val (.int r3), .val (.int r4), .val (.int r5), .val (.ref t), .val (.int r1), .unset, .unset, .unset, .unset, .unset, .unset, .unset, .unset, .unset, .unset, .unset, .unset, .unset] [(.int (0 : Int32)), (.int r1)])
                  exact F1 _ b1.symm
                · show own_R p.tables e below _ Tm (mkF m 176 #[.val (.int nn), .val (.int bits), .val (.int cc), .val (.int n), .val (.int r1), .val (.int r2), .val (.int r3), .val (.int r4), .val (.int r5), .val (.ref t), .val (.int r1), .unset, .unset, .unset, .unset, .unset, .unset, .unset, .unset, .unset, .unset, .unset, .unset, .unset] [(.int r2), (.int r1)])
                  refine own_go (fun _ => XS.ifNo Xm.here hx rfl (hb hby at_176) rfl ((if0 _ _).trans (feq b1).1)) ?_
                  show own_R p.tables e below _ Tm (mkF m 179 #[.val (.int nn), .val (.int bits), .val (.int cc), .val (.int n), .val (.int r1), .val (.int r2), .val (.int r3), .val (.int r4), .val (.int r5), .val (.ref t), .val (.int r1), .unset, .unset, .unset, .unset, .unset, .unset, .unset, .unset, .unset, .unset, .unset, .unset, .unset] [(.int r1)])
                  refine own_go (fun _ => XS.iconst Xm.here hx rfl (hb hby at_179)) ?_
                  refine own_go (fun _ => XS.goto Xm.here hx rfl (pc0 := 180) (pc' := 184) rfl (hb hby at_180) (by decide) (by decide)) ?_
                  show own_R p.tables e below _ Tm (mkF m 184 #[.val (.int nn), .val (.int bits), .val (.int cc), .val (.int n), .val (.int r1), .val (.int r2), .val (.int r3), .val (.int r4), .val (.int r5), .val (.ref t), .val (.int r1), .unset, .unset, .unset, .unset, .unset, .unset, .unset, .unset, .unset, .unset, .unset, .unset, .unset] [(.int (1 : Int32)), (.int r1)])
                  exact F1 _ (hr2.resolve_left b1).symm
              by_cases b0 : r1 = (0 : Int32)
              · show own_R p.tables e below _ Tm (mkF m 162 #[.val (.int nn), .val (.int bits), .val (.int cc), .val (.int n), .val (.int r1), .val (.int r2), .val (.int r3), .val (.int r4), .val (.int r5), .val (.ref t), .unset, .unset, .unset, .unset, .unset, .unset, .unset, .unset, .unset, .unset, .unset, .unset, .unset, .unset] [(.int r1)])
                refine own_go (fun _ => XS.ifYes Xm.here hx rfl (pc0 := 162) (pc' := 169) rfl (hb hby at_162) rfl ((if0 _ _).trans (teq b0).1) (by decide) (by decide)) ?_
                show own_R p.tables e below _ Tm (mkF m 169 #[.val (.int nn), .val (.int bits), .val (.int cc), .val (.int n), .val (.int r1), .val (.int r2), .val (.int r3), .val (.int r4), .val (.int r5), .val (.ref t), .unset, .unset, .unset, .unset, .unset, .unset, .unset, .unset, .unset, .unset, .unset, .unset, .unset, .unset] [])
                refine own_go (fun _ => XS.iconst Xm.here hx rfl (hb hby at_169)) ?_
                show own_R p.tables e below _ Tm (mkF m 170 #[.val (.int nn), .val (.int bits), .val (.int cc), .val (.int n), .val (.int r1), .val (.int r2), .val (.int r3), .val (.int r4), .val (.int r5), .val (.ref t), .unset, .unset, .unset, .unset, .unset, .unset, .unset, .unset, .unset, .unset, .unset, .unset, .unset, .unset] [(.int (0 : Int32))])
                exact F0 _ b0.symm
              · show own_R p.tables e below _ Tm (mkF m 162 #[.val (.int nn), .val (.int bits), .val (.int cc), .val (.int n), .val (.int r1), .val (.int r2), .val (.int r3), .val (.int r4), .val (.int r5), .val (.ref t), .unset, .unset, .unset, .unset, .unset, .unset, .unset, .unset, .unset, .unset, .unset, .unset, .unset, .unset] [(.int r1)])
                refine own_go (fun _ => XS.ifNo Xm.here hx rfl (hb hby at_162) rfl ((if0 _ _).trans (feq b0).1)) ?_
                show own_R p.tables e below _ Tm (mkF m 165 #[.val (.int nn), .val (.int bits), .val (.int cc), .val (.int n), .val (.int r1), .val (.int r2), .val (.int r3), .val (.int r4), .val (.int r5), .val (.ref t), .unset, .unset, .unset, .unset, .unset, .unset, .unset, .unset, .unset, .unset, .unset, .unset, .unset, .unset] [])
                refine own_go (fun _ => XS.iconst Xm.here hx rfl (hb hby at_165)) ?_
                refine own_go (fun _ => XS.goto Xm.here hx rfl (pc0 := 166) (pc' := 170) rfl (hb hby at_166) (by decide) (by decide)) ?_
                show own_R p.tables e below _ Tm (mkF m 170 #[.val (.int nn), .val (.int bits), .val (.int cc), .val (.int n), .val (.int r1), .val (.int r2), .val (.int r3), .val (.int r4), .val (.int r5), .val (.ref t), .unset, .unset, .unset, .unset, .unset, .unset, .unset, .unset, .unset, .unset, .unset, .unset, .unset, .unset] [(.int (1 : Int32))])
                exact F0 _ (hr1.resolve_left b0).symm
            rcases hn with rfl | rfl | rfl | rfl | rfl | rfl
            · show own_R p.tables e below _ T0 (mkF m 100 #[.val (.int nn), .val (.int bits), .val (.int cc), .val (.int (0 : Int32)), .val (.int r1), .val (.int r2), .val (.int r3), .val (.int r4), .val (.int r5), .unset, .unset, .unset, .unset, .unset, .unset, .unset, .unset, .unset, .unset, .unset, .unset, .unset, .unset, .unset] [])
              have y1 : r1 = 0 := zr1 (by decide)
              have y2 : r2 = 0 := zr2 (by decide)
              have y3 : r3 = 0 := zr3 (by decide)
              have y4 : r4 = 0 := zr4 (by decide)
              have y5 : r5 = 0 := zr5 (by decide)
              refine own_go (fun _ => XS.iloadN X0.here hx rfl (hb hby at_100) rfl ) ?_
              show own_R p.tables e below _ T0 (mkF m 101 #[.val (.int nn), .val (.int bits), .val (.int cc), .val (.int (0 : Int32)), .val (.int r1), .val (.int r2), .val (.int r3), .val (.int r4), .val (.int r5), .unset, .unset, .unset, .unset, .unset, .unset, .unset, .unset, .unset, .unset, .unset, .unset, .unset, .unset, .unset] [(.int (0 : Int32))])
              obtain ⟨T1, h1, k1, X1, e1, E1, A1, st1⟩ := newP X0 hx hZ (hw _ (List.mem_of_getElem? (i := 1) rfl)) e0 (g := (mkF m 101 #[.val (.int nn), .val (.int bits), .val (.int cc), .val (.int (0 : Int32)), .val (.int r1), .val (.int r2), .val (.int r3), .val (.int r4), .val (.int r5), .unset, .unset, .unset, .unset, .unset, .unset, .unset, .unset, .unset, .unset, .unset, .unset, .unset, .unset, .unset] [(.int (0 : Int32))])) rfl (hb hby at_101) rfl (by decide) (cap := 5) (by decide) (by decide) (by decide) (by decide)
              obtain ⟨a1, g1⟩ : ∃ z, z = h0.size := ⟨_, rfl⟩
              rw [← g1] at A1 st1
              refine own_go st1 ?_
              show own_R p.tables e below _ T1 (mkF m 103 #[.val (.int nn), .val (.int bits), .val (.int cc), .val (.int (0 : Int32)), .val (.int r1), .val (.int r2), .val (.int r3), .val (.int r4), .val (.int r5), .unset, .unset, .unset, .unset, .unset, .unset, .unset, .unset, .unset, .unset, .unset, .unset, .unset, .unset, .unset] [(.ref a1)])
              have V1 : Arv Z h1 a1 k1 .boolean (0 : Int32) [] (.int 0) := (Arv.new A1 (by decide)).pad (pad_rep [] (.int 0) 0)
              have q1 : h0.size ≤ a1 := Nat.le_of_eq g1.symm
              have g1a : n0 ≤ a1 := Nat.le_trans Z0 q1
              have K1 : Keep h0 h1 [] := (Keep.refl h0 []).ext E1
              refine own_go (fun _ => XS.astore X1.here hx rfl (hb hby at_103) rfl rfl (l' := #[.val (.int nn), .val (.int bits), .val (.int cc), .val (.int (0 : Int32)), .val (.int r1), .val (.int r2), .val (.int r3), .val (.int r4), .val (.int r5), .val (.ref a1), .unset, .unset, .unset, .unset, .unset, .unset, .unset, .unset, .unset, .unset, .unset, .unset, .unset, .unset]) rfl) ?_
              show own_R p.tables e below _ T1 (mkF m 105 #[.val (.int nn), .val (.int bits), .val (.int cc), .val (.int (0 : Int32)), .val (.int r1), .val (.int r2), .val (.int r3), .val (.int r4), .val (.int r5), .val (.ref a1), .unset, .unset, .unset, .unset, .unset, .unset, .unset, .unset, .unset, .unset, .unset, .unset, .unset, .unset] [])
              refine own_go (fun _ => XS.iloadN X1.here hx rfl (hb hby at_105) rfl ) ?_
              show own_R p.tables e below _ T1 (mkF m 106 #[.val (.int nn), .val (.int bits), .val (.int cc), .val (.int (0 : Int32)), .val (.int r1), .val (.int r2), .val (.int r3), .val (.int r4), .val (.int r5), .val (.ref a1), .unset, .unset, .unset, .unset, .unset, .unset, .unset, .unset, .unset, .unset, .unset, .unset, .unset, .unset] [(.int (0 : Int32))])
              refine own_go (fun _ => XS.iconst X1.here hx rfl (hb hby at_106)) ?_
              show own_R p.tables e below _ T1 (mkF m 107 #[.val (.int nn), .val (.int bits), .val (.int cc), .val (.int (0 : Int32)), .val (.int r1), .val (.int r2), .val (.int r3), .val (.int r4), .val (.int r5), .val (.ref a1), .unset, .unset, .unset, .unset, .unset, .unset, .unset, .unset, .unset, .unset, .unset, .unset, .unset, .unset] [(.int (1 : Int32)), (.int (0 : Int32))])
              refine own_go (fun _ => XS.icmpYes X1.here hx rfl (pc0 := 107) (pc' := 116) rfl (hb hby at_107) rfl (tlt (by decide)).1 (by decide) (by decide)) ?_
              show own_R p.tables e below _ T1 (mkF m 116 #[.val (.int nn), .val (.int bits), .val (.int cc), .val (.int (0 : Int32)), .val (.int r1), .val (.int r2), .val (.int r3), .val (.int r4), .val (.int r5), .val (.ref a1), .unset, .unset, .unset, .unset, .unset, .unset, .unset, .unset, .unset, .unset, .unset, .unset, .unset, .unset] [])
              refine own_go (fun _ => XS.iloadN X1.here hx rfl (hb hby at_116) rfl ) ?_
              show own_R p.tables e below _ T1 (mkF m 117 #[.val (.int nn), .val (.int bits), .val (.int cc), .val (.int (0 : Int32)), .val (.int r1), .val (.int r2), .val (.int r3), .val (.int r4), .val (.int r5), .val (.ref a1), .unset, .unset, .unset, .unset, .unset, .unset, .unset, .unset, .unset, .unset, .unset, .unset, .unset, .unset] [(.int (0 : Int32))])
              refine own_go (fun _ => XS.iconst X1.here hx rfl (hb hby at_117)) ?_
              show own_R p.tables e below _ T1 (mkF m 118 #[.val (.int nn), .val (.int bits), .val (.int cc), .val (.int (0 : Int32)), .val (.int r1), .val (.int r2), .val (.int r3), .val (.int r4), .val (.int r5), .val (.ref a1), .unset, .unset, .unset, .unset, .unset, .unset, .unset, .unset, .unset, .unset, .unset, .unset, .unset, .unset] [(.int (2 : Int32)), (.int (0 : Int32))])
              refine own_go (fun _ => XS.icmpYes X1.here hx rfl (pc0 := 118) (pc' := 127) rfl (hb hby at_118) rfl (tlt (by decide)).1 (by decide) (by decide)) ?_
              show own_R p.tables e below _ T1 (mkF m 127 #[.val (.int nn), .val (.int bits), .val (.int cc), .val (.int (0 : Int32)), .val (.int r1), .val (.int r2), .val (.int r3), .val (.int r4), .val (.int r5), .val (.ref a1), .unset, .unset, .unset, .unset, .unset, .unset, .unset, .unset, .unset, .unset, .unset, .unset, .unset, .unset] [])
              refine own_go (fun _ => XS.iloadN X1.here hx rfl (hb hby at_127) rfl ) ?_
              show own_R p.tables e below _ T1 (mkF m 128 #[.val (.int nn), .val (.int bits), .val (.int cc), .val (.int (0 : Int32)), .val (.int r1), .val (.int r2), .val (.int r3), .val (.int r4), .val (.int r5), .val (.ref a1), .unset, .unset, .unset, .unset, .unset, .unset, .unset, .unset, .unset, .unset, .unset, .unset, .unset, .unset] [(.int (0 : Int32))])
              refine own_go (fun _ => XS.iconst X1.here hx rfl (hb hby at_128)) ?_
              show own_R p.tables e below _ T1 (mkF m 129 #[.val (.int nn), .val (.int bits), .val (.int cc), .val (.int (0 : Int32)), .val (.int r1), .val (.int r2), .val (.int r3), .val (.int r4), .val (.int r5), .val (.ref a1), .unset, .unset, .unset, .unset, .unset, .unset, .unset, .unset, .unset, .unset, .unset, .unset, .unset, .unset] [(.int (3 : Int32)), (.int (0 : Int32))])
              refine own_go (fun _ => XS.icmpYes X1.here hx rfl (pc0 := 129) (pc' := 138) rfl (hb hby at_129) rfl (tlt (by decide)).1 (by decide) (by decide)) ?_
              show own_R p.tables e below _ T1 (mkF m 138 #[.val (.int nn), .val (.int bits), .val (.int cc), .val (.int (0 : Int32)), .val (.int r1), .val (.int r2), .val (.int r3), .val (.int r4), .val (.int r5), .val (.ref a1), .unset, .unset, .unset, .unset, .unset, .unset, .unset, .unset, .unset, .unset, .unset, .unset, .unset, .unset] [])
              refine own_go (fun _ => XS.iloadN X1.here hx rfl (hb hby at_138) rfl ) ?_
              show own_R p.tables e below _ T1 (mkF m 139 #[.val (.int nn), .val (.int bits), .val (.int cc), .val (.int (0 : Int32)), .val (.int r1), .val (.int r2), .val (.int r3), .val (.int r4), .val (.int r5), .val (.ref a1), .unset, .unset, .unset, .unset, .unset, .unset, .unset, .unset, .unset, .unset, .unset, .unset, .unset, .unset] [(.int (0 : Int32))])
              refine own_go (fun _ => XS.iconst X1.here hx rfl (hb hby at_139)) ?_
              show own_R p.tables e below _ T1 (mkF m 140 #[.val (.int nn), .val (.int bits), .val (.int cc), .val (.int (0 : Int32)), .val (.int r1), .val (.int r2), .val (.int r3), .val (.int r4), .val (.int r5), .val (.ref a1), .unset, .unset, .unset, .unset, .unset, .unset, .unset, .unset, .unset, .unset, .unset, .unset, .unset, .unset] [(.int (4 : Int32)), (.int (0 : Int32))])
              refine own_go (fun _ => XS.icmpYes X1.here hx rfl (pc0 := 140) (pc' := 149) rfl (hb hby at_140) rfl (tlt (by decide)).1 (by decide) (by decide)) ?_
              show own_R p.tables e below _ T1 (mkF m 149 #[.val (.int nn), .val (.int bits), .val (.int cc), .val (.int (0 : Int32)), .val (.int r1), .val (.int r2), .val (.int r3), .val (.int r4), .val (.int r5), .val (.ref a1), .unset, .unset, .unset, .unset, .unset, .unset, .unset, .unset, .unset, .unset, .unset, .unset, .unset, .unset] [])
              refine own_go (fun _ => XS.iloadN X1.here hx rfl (hb hby at_149) rfl ) ?_
              show own_R p.tables e below _ T1 (mkF m 150 #[.val (.int nn), .val (.int bits), .val (.int cc), .val (.int (0 : Int32)), .val (.int r1), .val (.int r2), .val (.int r3), .val (.int r4), .val (.int r5), .val (.ref a1), .unset, .unset, .unset, .unset, .unset, .unset, .unset, .unset, .unset, .unset, .unset, .unset, .unset, .unset] [(.int (0 : Int32))])
              refine own_go (fun _ => XS.iconst X1.here hx rfl (hb hby at_150)) ?_
              show own_R p.tables e below _ T1 (mkF m 151 #[.val (.int nn), .val (.int bits), .val (.int cc), .val (.int (0 : Int32)), .val (.int r1), .val (.int r2), .val (.int r3), .val (.int r4), .val (.int r5), .val (.ref a1), .unset, .unset, .unset, .unset, .unset, .unset, .unset, .unset, .unset, .unset, .unset, .unset, .unset, .unset] [(.int (5 : Int32)), (.int (0 : Int32))])
              refine own_go (fun _ => XS.icmpYes X1.here hx rfl (pc0 := 151) (pc' := 160) rfl (hb hby at_151) rfl (tlt (by decide)).1 (by decide) (by decide)) ?_
              show own_R p.tables e below _ T1 (mkF m 160 #[.val (.int nn), .val (.int bits), .val (.int cc), .val (.int (0 : Int32)), .val (.int r1), .val (.int r2), .val (.int r3), .val (.int r4), .val (.int r5), .val (.ref a1), .unset, .unset, .unset, .unset, .unset, .unset, .unset, .unset, .unset, .unset, .unset, .unset, .unset, .unset] [])
              subst y1
              subst y2
              subst y3
              subst y4
              subst y5
              exact JM _ _ _ a1 k1 ([] : List Int32) X1 e1 N0 K1.1 g1a (Nat.le_of_ble_eq_true rfl) V1 ((own_st_app 5 ([] : List Int32) 1 0 FP.dconst0).symm) ((own_ok_app 5 ([] : List Int32) 1 0 FP.dconst0).symm)
            · show own_R p.tables e below _ T0 (mkF m 100 #[.val (.int nn), .val (.int bits), .val (.int cc), .val (.int (1 : Int32)), .val (.int r1), .val (.int r2), .val (.int r3), .val (.int r4), .val (.int r5), .unset, .unset, .unset, .unset, .unset, .unset, .unset, .unset, .unset, .unset, .unset, .unset, .unset, .unset, .unset] [])
              have y2 : r2 = 0 := zr2 (by decide)
              have y3 : r3 = 0 := zr3 (by decide)
              have y4 : r4 = 0 := zr4 (by decide)
              have y5 : r5 = 0 := zr5 (by decide)
              refine own_go (fun _ => XS.iloadN X0.here hx rfl (hb hby at_100) rfl ) ?_
              show own_R p.tables e below _ T0 (mkF m 101 #[.val (.int nn), .val (.int bits), .val (.int cc), .val (.int (1 : Int32)), .val (.int r1), .val (.int r2), .val (.int r3), .val (.int r4), .val (.int r5), .unset, .unset, .unset, .unset, .unset, .unset, .unset, .unset, .unset, .unset, .unset, .unset, .unset, .unset, .unset] [(.int (1 : Int32))])
              obtain ⟨T1, h1, k1, X1, e1, E1, A1, st1⟩ := newP X0 hx hZ (hw _ (List.mem_of_getElem? (i := 1) rfl)) e0 (g := (mkF m 101 #[.val (.int nn), .val (.int bits), .val (.int cc), .val (.int (1 : Int32)), .val (.int r1), .val (.int r2), .val (.int r3), .val (.int r4), .val (.int r5), .unset, .unset, .unset, .unset, .unset, .unset, .unset, .unset, .unset, .unset, .unset, .unset, .unset, .unset, .unset] [(.int (1 : Int32))])) rfl (hb hby at_101) rfl (by decide) (cap := 5) (by decide) (by decide) (by decide) (by decide)
              obtain ⟨a1, g1⟩ : ∃ z, z = h0.size := ⟨_, rfl⟩
              rw [← g1] at A1 st1
              refine own_go st1 ?_
              show own_R p.tables e below _ T1 (mkF m 103 #[.val (.int nn), .val (.int bits), .val (.int cc), .val (.int (1 : Int32)), .val (.int r1), .val (.int r2), .val (.int r3), .val (.int r4), .val (.int r5), .unset, .unset, .unset, .unset, .unset, .unset, .unset, .unset, .unset, .unset, .unset, .unset, .unset, .unset, .unset] [(.ref a1)])
              have V1 : Arv Z h1 a1 k1 .boolean (1 : Int32) [(.int 0)] (.int 0) := (Arv.new A1 (by decide)).pad (pad_rep [] (.int 0) 1)
              have q1 : h0.size ≤ a1 := Nat.le_of_eq g1.symm
              have g1a : n0 ≤ a1 := Nat.le_trans Z0 q1
              have K1 : Keep h0 h1 [] := (Keep.refl h0 []).ext E1
              refine own_go (fun _ => XS.astore X1.here hx rfl (hb hby at_103) rfl rfl (l' := #[.val (.int nn), .val (.int bits), .val (.int cc), .val (.int (1 : Int32)), .val (.int r1), .val (.int r2), .val (.int r3), .val (.int r4), .val (.int r5), .val (.ref a1), .unset, .unset, .unset, .unset, .unset, .unset, .unset, .unset, .unset, .unset, .unset, .unset, .unset, .unset]) rfl) ?_
              show own_R p.tables e below _ T1 (mkF m 105 #[.val (.int nn), .val (.int bits), .val (.int cc), .val (.int (1 : Int32)), .val (.int r1), .val (.int r2), .val (.int r3), .val (.int r4), .val (.int r5), .val (.ref a1), .unset, .unset, .unset, .unset, .unset, .unset, .unset, .unset, .unset, .unset, .unset, .unset, .unset, .unset] [])
              refine own_go (fun _ => XS.iloadN X1.here hx rfl (hb hby at_105) rfl ) ?_
              show own_R p.tables e below _ T1 (mkF m 106 #[.val (.int nn), .val (.int bits), .val (.int cc), .val (.int (1 : Int32)), .val (.int r1), .val (.int r2), .val (.int r3), .val (.int r4), .val (.int r5), .val (.ref a1), .unset, .unset, .unset, .unset, .unset, .unset, .unset, .unset, .unset, .unset, .unset, .unset, .unset, .unset] [(.int (1 : Int32))])
              refine own_go (fun _ => XS.iconst X1.here hx rfl (hb hby at_106)) ?_
              show own_R p.tables e below _ T1 (mkF m 107 #[.val (.int nn), .val (.int bits), .val (.int cc), .val (.int (1 : Int32)), .val (.int r1), .val (.int r2), .val (.int r3), .val (.int r4), .val (.int r5), .val (.ref a1), .unset, .unset, .unset, .unset, .unset, .unset, .unset, .unset, .unset, .unset, .unset, .unset, .unset, .unset] [(.int (1 : Int32)), (.int (1 : Int32))])
              refine own_go (fun _ => XS.icmpNo X1.here hx rfl (hb hby at_107) rfl (flt (by decide)).1) ?_
              show own_R p.tables e below _ T1 (mkF m 110 #[.val (.int nn), .val (.int bits), .val (.int cc), .val (.int (1 : Int32)), .val (.int r1), .val (.int r2), .val (.int r3), .val (.int r4), .val (.int r5), .val (.ref a1), .unset, .unset, .unset, .unset, .unset, .unset, .unset, .unset, .unset, .unset, .unset, .unset, .unset, .unset] [])
              refine own_go (fun _ => XS.aload X1.here hx rfl (hb hby at_110) rfl rfl) ?_
              show own_R p.tables e below _ T1 (mkF m 112 #[.val (.int nn), .val (.int bits), .val (.int cc), .val (.int (1 : Int32)), .val (.int r1), .val (.int r2), .val (.int r3), .val (.int r4), .val (.int r5), .val (.ref a1), .unset, .unset, .unset, .unset, .unset, .unset, .unset, .unset, .unset, .unset, .unset, .unset, .unset, .unset] [(.ref a1)])
              refine own_go (fun _ => XS.iconst X1.here hx rfl (hb hby at_112)) ?_
              show own_R p.tables e below _ T1 (mkF m 113 #[.val (.int nn), .val (.int bits), .val (.int cc), .val (.int (1 : Int32)), .val (.int r1), .val (.int r2), .val (.int r3), .val (.int r4), .val (.int r5), .val (.ref a1), .unset, .unset, .unset, .unset, .unset, .unset, .unset, .unset, .unset, .unset, .unset, .unset, .unset, .unset] [(.int (0 : Int32)), (.ref a1)])
              refine own_go (fun _ => XS.iload X1.here hx rfl (hb hby at_113) rfl ) ?_
              show own_R p.tables e below _ T1 (mkF m 115 #[.val (.int nn), .val (.int bits), .val (.int cc), .val (.int (1 : Int32)), .val (.int r1), .val (.int r2), .val (.int r3), .val (.int r4), .val (.int r5), .val (.ref a1), .unset, .unset, .unset, .unset, .unset, .unset, .unset, .unset, .unset, .unset, .unset, .unset, .unset, .unset] [(.int r1), (.int (0 : Int32)), (.ref a1)])
              obtain ⟨Ts0, hs0, Xs0, es0, Ws0, Vs0, sts0⟩ := own_stZ X1 hx hZ e1 V1 (j := (0 : Int32)) ⟨by decide, by decide⟩ 0 rfl (Nat.le_of_ble_eq_true rfl) hr1 (g := (mkF m 115 #[.val (.int nn), .val (.int bits), .val (.int cc), .val (.int (1 : Int32)), .val (.int r1), .val (.int r2), .val (.int r3), .val (.int r4), .val (.int r5), .val (.ref a1), .unset, .unset, .unset, .unset, .unset, .unset, .unset, .unset, .unset, .unset, .unset, .unset, .unset, .unset] [(.int r1), (.int (0 : Int32)), (.ref a1)])) rfl rfl (hb hby at_115)
              have Ks0 : Keep h0 hs0 [] := K1.wr Ws0 (Or.inr q1)
              have Ns0 := Fr.snoc Xs0 N0 g1a
              refine own_go sts0 ?_
              show own_R p.tables e below _ Ts0 (mkF m 116 #[.val (.int nn), .val (.int bits), .val (.int cc), .val (.int (1 : Int32)), .val (.int r1), .val (.int r2), .val (.int r3), .val (.int r4), .val (.int r5), .val (.ref a1), .unset, .unset, .unset, .unset, .unset, .unset, .unset, .unset, .unset, .unset, .unset, .unset, .unset, .unset] [])
              refine own_go (fun _ => XS.iloadN Xs0.here hx rfl (hb hby at_116) rfl ) ?_
              show own_R p.tables e below _ Ts0 (mkF m 117 #[.val (.int nn), .val (.int bits), .val (.int cc), .val (.int (1 : Int32)), .val (.int r1), .val (.int r2), .val (.int r3), .val (.int r4), .val (.int r5), .val (.ref a1), .unset, .unset, .unset, .unset, .unset, .unset, .unset, .unset, .unset, .unset, .unset, .unset, .unset, .unset] [(.int (1 : Int32))])
              refine own_go (fun _ => XS.iconst Xs0.here hx rfl (hb hby at_117)) ?_
              show own_R p.tables e below _ Ts0 (mkF m 118 #[.val (.int nn), .val (.int bits), .val (.int cc), .val (.int (1 : Int32)), .val (.int r1), .val (.int r2), .val (.int r3), .val (.int r4), .val (.int r5), .val (.ref a1), .unset, .unset, .unset, .unset, .unset, .unset, .unset, .unset, .unset, .unset, .unset, .unset, .unset, .unset] [(.int (2 : Int32)), (.int (1 : Int32))])
              refine own_go (fun _ => XS.icmpYes Xs0.here hx rfl (pc0 := 118) (pc' := 127) rfl (hb hby at_118) rfl (tlt (by decide)).1 (by decide) (by decide)) ?_
              show own_R p.tables e below _ Ts0 (mkF m 127 #[.val (.int nn), .val (.int bits), .val (.int cc), .val (.int (1 : Int32)), .val (.int r1), .val (.int r2), .val (.int r3), .val (.int r4), .val (.int r5), .val (.ref a1), .unset, .unset, .unset, .unset, .unset, .unset, .unset, .unset, .unset, .unset, .unset, .unset, .unset, .unset] [])
              refine own_go (fun _ => XS.iloadN Xs0.here hx rfl (hb hby at_127) rfl ) ?_
              show own_R p.tables e below _ Ts0 (mkF m 128 #[.val (.int nn), .val (.int bits), .val (.int cc), .val (.int (1 : Int32)), .val (.int r1), .val (.int r2), .val (.int r3), .val (.int r4), .val (.int r5), .val (.ref a1), .unset, .unset, .unset, .unset, .unset, .unset, .unset, .unset, .unset, .unset, .unset, .unset, .unset, .unset] [(.int (1 : Int32))])
              refine own_go (fun _ => XS.iconst Xs0.here hx rfl (hb hby at_128)) ?_
              show own_R p.tables e below _ Ts0 (mkF m 129 #[.val (.int nn), .val (.int bits), .val (.int cc), .val (.int (1 : Int32)), .val (.int r1), .val (.int r2), .val (.int r3), .val (.int r4), .val (.int r5), .val (.ref a1), .unset, .unset, .unset, .unset, .unset, .unset, .unset, .unset, .unset, .unset, .unset, .unset, .unset, .unset] [(.int (3 : Int32)), (.int (1 : Int32))])
              refine own_go (fun _ => XS.icmpYes Xs0.here hx rfl (pc0 := 129) (pc' := 138) rfl (hb hby at_129) rfl (tlt (by decide)).1 (by decide) (by decide)) ?_
              show own_R p.tables e below _ Ts0 (mkF m 138 #[.val (.int nn), .val (.int bits), .val (.int cc), .val (.int (1 : Int32)), .val (.int r1), .val (.int r2), .val (.int r3), .val (.int r4), .val (.int r5), .val (.ref a1), .unset, .unset, .unset, .unset, .unset, .unset, .unset, .unset, .unset, .unset, .unset, .unset, .unset, .unset] [])
              refine own_go (fun _ => XS.iloadN Xs0.here hx rfl (hb hby at_138) rfl ) ?_
              show own_R p.tables e below _ Ts0 (mkF m 139 #[.val (.int nn), .val (.int bits), .val (.int cc), .val (.int (1 : Int32)), .val (.int r1), .val (.int r2), .val (.int r3), .val (.int r4), .val (.int r5), .val (.ref a1), .unset, .unset, .unset, .unset, .unset, .unset, .unset, .unset, .unset, .unset, .unset, .unset, .unset, .unset] [(.int (1 : Int32))])
              refine own_go (fun _ => XS.iconst Xs0.here hx rfl (hb hby at_139)) ?_
              show own_R p.tables e below _ Ts0 (mkF m 140 #[.val (.int nn), .val (.int bits), .val (.int cc), .val (.int (1 : Int32)), .val (.int r1), .val (.int r2), .val (.int r3), .val (.int r4), .val (.int r5), .val (.ref a1), .unset, .unset, .unset, .unset, .unset, .unset, .unset, .unset, .unset, .unset, .unset, .unset, .unset, .unset] [(.int (4 : Int32)), (.int (1 : Int32))])
              refine own_go (fun _ => XS.icmpYes Xs0.here hx rfl (pc0 := 140) (pc' := 149) rfl (hb hby at_140) rfl (tlt (by decide)).1 (by decide) (by decide)) ?_
              show own_R p.tables e below _ Ts0 (mkF m 149 #[.val (.int nn), .val (.int bits), .val (.int cc), .val (.int (1 : Int32)), .val (.int r1), .val (.int r2), .val (.int r3), .val (.int r4), .val (.int r5), .val (.ref a1), .unset, .unset, .unset, .unset, .unset, .unset, .unset, .unset, .unset, .unset, .unset, .unset, .unset, .unset] [])
              refine own_go (fun _ => XS.iloadN Xs0.here hx rfl (hb hby at_149) rfl ) ?_
              show own_R p.tables e below _ Ts0 (mkF m 150 #[.val (.int nn), .val (.int bits), .val (.int cc), .val (.int (1 : Int32)), .val (.int r1), .val (.int r2), .val (.int r3), .val (.int r4), .val (.int r5), .val (.ref a1), .unset, .unset, .unset, .unset, .unset, .unset, .unset, .unset, .unset, .unset, .unset, .unset, .unset, .unset] [(.int (1 : Int32))])
              refine own_go (fun _ => XS.iconst Xs0.here hx rfl (hb hby at_150)) ?_
              show own_R p.tables e below _ Ts0 (mkF m 151 #[.val (.int nn), .val (.int bits), .val (.int cc), .val (.int (1 : Int32)), .val (.int r1), .val (.int r2), .val (.int r3), .val (.int r4), .val (.int r5), .val (.ref a1), .unset, .unset, .unset, .unset, .unset, .unset, .unset, .unset, .unset, .unset, .unset, .unset, .unset, .unset] [(.int (5 : Int32)), (.int (1 : Int32))])
              refine own_go (fun _ => XS.icmpYes Xs0.here hx rfl (pc0 := 151) (pc' := 160) rfl (hb hby at_151) rfl (tlt (by decide)).1 (by decide) (by decide)) ?_
              show own_R p.tables e below _ Ts0 (mkF m 160 #[.val (.int nn), .val (.int bits), .val (.int cc), .val (.int (1 : Int32)), .val (.int r1), .val (.int r2), .val (.int r3), .val (.int r4), .val (.int r5), .val (.ref a1), .unset, .unset, .unset, .unset, .unset, .unset, .unset, .unset, .unset, .unset, .unset, .unset, .unset, .unset] [])
              subst y2
              subst y3
              subst y4
              subst y5
              exact JM _ _ _ a1 k1 ([r1] : List Int32) Xs0 es0 Ns0 Ks0.1 g1a (Nat.le_of_ble_eq_true rfl) Vs0 ((own_st_app 4 ([r1] : List Int32) 1 0 FP.dconst0).symm) ((own_ok_app 4 ([r1] : List Int32) 1 0 FP.dconst0).symm)
            · show own_R p.tables e below _ T0 (mkF m 100 #[.val (.int nn), .val (.int bits), .val (.int cc), .val (.int (2 : Int32)), .val (.int r1), .val (.int r2), .val (.int r3), .val (.int r4), .val (.int r5), .unset, .unset, .unset, .unset, .unset, .unset, .unset, .unset, .unset, .unset, .unset, .unset, .unset, .unset, .unset] [])
              have y3 : r3 = 0 := zr3 (by decide)
              have y4 : r4 = 0 := zr4 (by decide)
              have y5 : r5 = 0 := zr5 (by decide)
              refine own_go (fun _ => XS.iloadN X0.here hx rfl (hb hby at_100) rfl ) ?_
              show own_R p.tables e below _ T0 (mkF m 101 #[.val (.int nn), .val (.int bits), .val (.int cc), .val (.int (2 : Int32)), .val (.int r1), .val (.int r2), .val (.int r3), .val (.int r4), .val (.int r5), .unset, .unset, .unset, .unset, .unset, .unset, .unset, .unset, .unset, .unset, .unset, .unset, .unset, .unset, .unset] [(.int (2 : Int32))])
              obtain ⟨T1, h1, k1, X1, e1, E1, A1, st1⟩ := newP X0 hx hZ (hw _ (List.mem_of_getElem? (i := 1) rfl)) e0 (g := (mkF m 101 #[.val (.int nn), .val (.int bits), .val (.int cc), .val (.int (2 : Int32)), .val (.int r1), .val (.int r2), .val (.int r3), .val (.int r4), .val (.int r5), .unset, .unset, .unset, .unset, .unset, .unset, .unset, .unset, .unset, .unset, .unset, .unset, .unset, .unset, .unset] [(.int (2 : Int32))])) rfl (hb hby at_101) rfl (by decide) (cap := 5) (by decide) (by decide) (by decide) (by decide)
              obtain ⟨a1, g1⟩ : ∃ z, z = h0.size := ⟨_, rfl⟩
              rw [← g1] at A1 st1
              refine own_go st1 ?_
              show own_R p.tables e below _ T1 (mkF m 103 #[.val (.int nn), .val (.int bits), .val (.int cc), .val (.int (2 : Int32)), .val (.int r1), .val (.int r2), .val (.int r3), .val (.int r4), .val (.int r5), .unset, .unset, .unset, .unset, .unset, .unset, .unset, .unset, .unset, .unset, .unset, .unset, .unset, .unset, .unset] [(.ref a1)])
              have V1 : Arv Z h1 a1 k1 .boolean (2 : Int32) [(.int 0), (.int 0)] (.int 0) := (Arv.new A1 (by decide)).pad (pad_rep [] (.int 0) 2)
              have q1 : h0.size ≤ a1 := Nat.le_of_eq g1.symm
              have g1a : n0 ≤ a1 := Nat.le_trans Z0 q1
              have K1 : Keep h0 h1 [] := (Keep.refl h0 []).ext E1
              refine own_go (fun _ => XS.astore X1.here hx rfl (hb hby at_103) rfl rfl (l' := #[.val (.int nn), .val (.int bits), .val (.int cc), .val (.int (2 : Int32)), .val (.int r1), .val (.int r2), .val (.int r3), .val (.int r4), .val (.int r5), .val (.ref a1), .unset, .unset, .unset, .unset, .unset, .unset, .unset, .unset, .unset, .unset, .unset, .unset, .unset, .unset]) rfl) ?_
              show own_R p.tables e below _ T1 (mkF m 105 #[.val (.int nn), .val (.int bits), .val (.int cc), .val (.int (2 : Int32)), .val (.int r1), .val (.int r2), .val (.int r3), .val (.int r4), .val (.int r5), .val (.ref a1), .unset, .unset, .unset, .unset, .unset, .unset, .unset, .unset, .unset, .unset, .unset, .unset, .unset, .unset] [])
              refine own_go (fun _ => XS.iloadN X1.here hx rfl (hb hby at_105) rfl ) ?_
              show own_R p.tables e below _ T1 (mkF m 106 #[.val (.int nn), .val (.int bits), .val (.int cc), .val (.int (2 : Int32)), .val (.int r1), .val (.int r2), .val (.int r3), .val (.int r4), .val (.int r5), .val (.ref a1), .unset, .unset, .unset, .unset, .unset, .unset, .unset, .unset, .unset, .unset, .unset, .unset, .unset, .unset] [(.int (2 : Int32))])
              refine own_go (fun _ => XS.iconst X1.here hx rfl (hb hby at_106)) ?_
              show own_R p.tables e below _ T1 (mkF m 107 #[.val (.int nn), .val (.int bits), .val (.int cc), .val (.int (2 : Int32)), .val (.int r1), .val (.int r2), .val (.int r3), .val (.int r4), .val (.int r5), .val (.ref a1), .unset, .unset, .unset, .unset, .unset, .unset, .unset, .unset, .unset, .unset, .unset, .unset, .unset, .unset] [(.int (1 : Int32)), (.int (2 : Int32))])
              refine own_go (fun _ => XS.icmpNo X1.here hx rfl (hb hby at_107) rfl (flt (by decide)).1) ?_
              show own_R p.tables e below _ T1 (mkF m 110 #[.val (.int nn), .val (.int bits), .val (.int cc), .val (.int (2 : Int32)), .val (.int r1), .val (.int r2), .val (.int r3), .val (.int r4), .val (.int r5), .val (.ref a1), .unset, .unset, .unset, .unset, .unset, .unset, .unset, .unset, .unset, .unset, .unset, .unset, .unset, .unset] [])
              refine own_go (fun _ => XS.aload X1.here hx rfl (hb hby at_110) rfl rfl) ?_
              show own_R p.tables e below _ T1 (mkF m 112 #[.val (.int nn), .val (.int bits), .val (.int cc), .val (.int (2 : Int32)), .val (.int r1), .val (.int r2), .val (.int r3), .val (.int r4), .val (.int r5), .val (.ref a1), .unset, .unset, .unset, .unset, .unset, .unset, .unset, .unset, .unset, .unset, .unset, .unset, .unset, .unset] [(.ref a1)])
              refine own_go (fun _ => XS.iconst X1.here hx rfl (hb hby at_112)) ?_
              show own_R p.tables e below _ T1 (mkF m 113 #[.val (.int nn), .val (.int bits), .val (.int cc), .val (.int (2 : Int32)), .val (.int r1), .val (.int r2), .val (.int r3), .val (.int r4), .val (.int r5), .val (.ref a1), .unset, .unset, .unset, .unset, .unset, .unset, .unset, .unset, .unset, .unset, .unset, .unset, .unset, .unset] [(.int (0 : Int32)), (.ref a1)])
              refine own_go (fun _ => XS.iload X1.here hx rfl (hb hby at_113) rfl ) ?_
              show own_R p.tables e below _ T1 (mkF m 115 #[.val (.int nn), .val (.int bits), .val (.int cc), .val (.int (2 : Int32)), .val (.int r1), .val (.int r2), .val (.int r3), .val (.int r4), .val (.int r5), .val (.ref a1), .unset, .unset, .unset, .unset, .unset, .unset, .unset, .unset, .unset, .unset, .unset, .unset, .unset, .unset] [(.int r1), (.int (0 : Int32)), (.ref a1)])
              obtain ⟨Ts0, hs0, Xs0, es0, Ws0, Vs0, sts0⟩ := own_stZ X1 hx hZ e1 V1 (j := (0 : Int32)) ⟨by decide, by decide⟩ 0 rfl (Nat.le_of_ble_eq_true rfl) hr1 (g := (mkF m 115 #[.val (.int nn), .val (.int bits), .val (.int cc), .val (.int (2 : Int32)), .val (.int r1), .val (.int r2), .val (.int r3), .val (.int r4), .val (.int r5), .val (.ref a1), .unset, .unset, .unset, .unset, .unset, .unset, .unset, .unset, .unset, .unset, .unset, .unset, .unset, .unset] [(.int r1), (.int (0 : Int32)), (.ref a1)])) rfl rfl (hb hby at_115)
              have Ks0 : Keep h0 hs0 [] := K1.wr Ws0 (Or.inr q1)
              have Ns0 := Fr.snoc Xs0 N0 g1a
              refine own_go sts0 ?_
              show own_R p.tables e below _ Ts0 (mkF m 116 #[.val (.int nn), .val (.int bits), .val (.int cc), .val (.int (2 : Int32)), .val (.int r1), .val (.int r2), .val (.int r3), .val (.int r4), .val (.int r5), .val (.ref a1), .unset, .unset, .unset, .unset, .unset, .unset, .unset, .unset, .unset, .unset, .unset, .unset, .unset, .unset] [])
              refine own_go (fun _ => XS.iloadN Xs0.here hx rfl (hb hby at_116) rfl ) ?_
              show own_R p.tables e below _ Ts0 (mkF m 117 #[.val (.int nn), .val (.int bits), .val (.int cc), .val (.int (2 : Int32)), .val (.int r1), .val (.int r2), .val (.int r3), .val (.int r4), .val (.int r5), .val (.ref a1), .unset, .unset, .unset, .unset, .unset, .unset, .unset, .unset, .unset, .unset, .unset, .unset, .unset, .unset] [(.int (2 : Int32))])
              refine own_go (fun _ => XS.iconst Xs0.here hx rfl (hb hby at_117)) ?_
              show own_R p.tables e below _ Ts0 (mkF m 118 #[.val (.int nn), .val (.int bits), .val (.int cc), .val (.int (2 : Int32)), .val (.int r1), .val (.int r2), .val (.int r3), .val (.int r4), .val (.int r5), .val (.ref a1), .unset, .unset, .unset, .unset, .unset, .unset, .unset, .unset, .unset, .unset, .unset, .unset, .unset, .unset] [(.int (2 : Int32)), (.int (2 : Int32))])
              refine own_go (fun _ => XS.icmpNo Xs0.here hx rfl (hb hby at_118) rfl (flt (by decide)).1) ?_
              show own_R p.tables e below _ Ts0 (mkF m 121 #[.val (.int nn), .val (.int bits), .val (.int cc), .val (.int (2 : Int32)), .val (.int r1), .val (.int r2), .val (.int r3), .val (.int r4), .val (.int r5), .val (.ref a1), .unset, .unset, .unset, .unset, .unset, .unset, .unset, .unset, .unset, .unset, .unset, .unset, .unset, .unset] [])
              refine own_go (fun _ => XS.aload Xs0.here hx rfl (hb hby at_121) rfl rfl) ?_
              show own_R p.tables e below _ Ts0 (mkF m 123 #[.val (.int nn), .val (.int bits), .val (.int cc), .val (.int (2 : Int32)), .val (.int r1), .val (.int r2), .val (.int r3), .val (.int r4), .val (.int r5), .val (.ref a1), .unset, .unset, .unset, .unset, .unset, .unset, .unset, .unset, .unset, .unset, .unset, .unset, .unset, .unset] [(.ref a1)])
              refine own_go (fun _ => XS.iconst Xs0.here hx rfl (hb hby at_123)) ?_
              show own_R p.tables e below _ Ts0 (mkF m 124 #[.val (.int nn), .val (.int bits), .val (.int cc), .val (.int (2 : Int32)), .val (.int r1), .val (.int r2), .val (.int r3), .val (.int r4), .val (.int r5), .val (.ref a1), .unset, .unset, .unset, .unset, .unset, .unset, .unset, .unset, .unset, .unset, .unset, .unset, .unset, .unset] [(.int (1 : Int32)), (.ref a1)])
              refine own_go (fun _ => XS.iload Xs0.here hx rfl (hb hby at_124) rfl ) ?_
              show own_R p.tables e below _ Ts0 (mkF m 126 #[.val (.int nn), .val (.int bits), .val (.int cc), .val (.int (2 : Int32)), .val (.int r1), .val (.int r2), .val (.int r3), .val (.int r4), .val (.int r5), .val (.ref a1), .unset, .unset, .unset, .unset, .unset, .unset, .unset, .unset, .unset, .unset, .unset, .unset, .unset, .unset] [(.int r2), (.int (1 : Int32)), (.ref a1)])
              obtain ⟨Ts1, hs1, Xs1, es1, Ws1, Vs1, sts1⟩ := own_stZ Xs0 hx hZ es0 Vs0 (j := (1 : Int32)) ⟨by decide, by decide⟩ 1 rfl (Nat.le_of_ble_eq_true rfl) hr2 (g := (mkF m 126 #[.val (.int nn), .val (.int bits), .val (.int cc), .val (.int (2 : Int32)), .val (.int r1), .val (.int r2), .val (.int r3), .val (.int r4), .val (.int r5), .val (.ref a1), .unset, .unset, .unset, .unset, .unset, .unset, .unset, .unset, .unset, .unset, .unset, .unset, .unset, .unset] [(.int r2), (.int (1 : Int32)), (.ref a1)])) rfl rfl (hb hby at_126)
              have Ks1 : Keep h0 hs1 [] := Ks0.wr Ws1 (Or.inr q1)
              have Ns1 := Fr.snoc Xs1 Ns0 g1a
              refine own_go sts1 ?_
              show own_R p.tables e below _ Ts1 (mkF m 127 #[.val (.int nn), .val (.int bits), .val (.int cc), .val (.int (2 : Int32)), .val (.int r1), .val (.int r2), .val (.int r3), .val (.int r4), .val (.int r5), .val (.ref a1), .unset, .unset, .unset, .unset, .unset, .unset, .unset, .unset, .unset, .unset, .unset, .unset, .unset, .unset] [])
              refine own_go (fun _ => XS.iloadN Xs1.here hx rfl (hb hby at_127) rfl ) ?_
              show own_R p.tables e below _ Ts1 (mkF m 128 #[.val (.int nn), .val (.int bits), .val (.int cc), .val (.int (2 : Int32)), .val (.int r1), .val (.int r2), .val (.int r3), .val (.int r4), .val (.int r5), .val (.ref a1), .unset, .unset, .unset, .unset, .unset, .unset, .unset, .unset, .unset, .unset, .unset, .unset, .unset, .unset] [(.int (2 : Int32))])
              refine own_go (fun _ => XS.iconst Xs1.here hx rfl (hb hby at_128)) ?_
              show own_R p.tables e below _ Ts1 (mkF m 129 #[.val (.int nn), .val (.int bits), .val (.int cc), .val (.int (2 : Int32)), .val (.int r1), .val (.int r2), .val (.int r3), .val (.int r4), .val (.int r5), .val (.ref a1), .unset, .unset, .unset, .unset, .unset, .unset, .unset, .unset, .unset, .unset, .unset, .unset, .unset, .unset] [(.int (3 : Int32)), (.int (2 : Int32))])
              refine own_go (fun _ => XS.icmpYes Xs1.here hx rfl (pc0 := 129) (pc' := 138) rfl (hb hby at_129) rfl (tlt (by decide)).1 (by decide) (by decide)) ?_
              show own_R p.tables e below _ Ts1 (mkF m 138 #[.val (.int nn), .val (.int bits), .val (.int cc), .val (.int (2 : Int32)), .val (.int r1), .val (.int r2), .val (.int r3), .val (.int r4), .val (.int r5), .val (.ref a1), .unset, .unset, .unset, .unset, .unset, .unset, .unset, .unset, .unset, .unset, .unset, .unset, .unset, .unset] [])
              refine own_go (fun _ => XS.iloadN Xs1.here hx rfl (hb hby at_138) rfl ) ?_
              show own_R p.tables e below _ Ts1 (mkF m 139 #[.val (.int nn), .val (.int bits), .val (.int cc), .val (.int (2 : Int32)), .val (.int r1), .val (.int r2), .val (.int r3), .val (.int r4), .val (.int r5), .val (.ref a1), .unset, .unset, .unset, .unset, .unset, .unset, .unset, .unset, .unset, .unset, .unset, .unset, .unset, .unset] [(.int (2 : Int32))])
              refine own_go (fun _ => XS.iconst Xs1.here hx rfl (hb hby at_139)) ?_
              show own_R p.tables e below _ Ts1 (mkF m 140 #[.val (.int nn), .val (.int bits), .val (.int cc), .val (.int (2 : Int32)), .val (.int r1), .val (.int r2), .val (.int r3), .val (.int r4), .val (.int r5), .val (.ref a1), .unset, .unset, .unset, .unset, .unset, .unset, .unset, .unset, .unset, .unset, .unset, .unset, .unset, .unset] [(.int (4 : Int32)), (.int (2 : Int32))])
              refine own_go (fun _ => XS.icmpYes Xs1.here hx rfl (pc0 := 140) (pc' := 149) rfl (hb hby at_140) rfl (tlt (by decide)).1 (by decide) (by decide)) ?_
              show own_R p.tables e below _ Ts1 (mkF m 149 #[.val (.int nn), .val (.int bits), .val (.int cc), .val (.int (2 : Int32)), .val (.int r1), .val (.int r2), .val (.int r3), .val (.int r4), .val (.int r5), .val (.ref a1), .unset, .unset, .unset, .unset, .unset, .unset, .unset, .unset, .unset, .unset, .unset, .unset, .unset, .unset] [])
              refine own_go (fun _ => XS.iloadN Xs1.here hx rfl (hb hby at_149) rfl ) ?_
              show own_R p.tables e below _ Ts1 (mkF m 150 #[.val (.int nn), .val (.int bits), .val (.int cc), .val (.int (2 : Int32)), .val (.int r1), .val (.int r2), .val (.int r3), .val (.int r4), .val (.int r5), .val (.ref a1), .unset, .unset, .unset, .unset, .unset, .unset, .unset, .unset, .unset, .unset, .unset, .unset, .unset, .unset] [(.int (2 : Int32))])
              refine own_go (fun _ => XS.iconst Xs1.here hx rfl (hb hby at_150)) ?_
              show own_R p.tables e below _ Ts1 (mkF m 151 #[.val (.int nn), .val (.int bits), .val (.int cc), .val (.int (2 : Int32)), .val (.int r1), .val (.int r2), .val (.int r3), .val (.int r4), .val (.int r5), .val (.ref a1), .unset, .unset, .unset, .unset, .unset, .unset, .unset, .unset, .unset, .unset, .unset, .unset, .unset, .unset] [(.int (5 : Int32)), (.int (2 : Int32))])
              refine own_go (fun _ => XS.icmpYes Xs1.here hx rfl (pc0 := 151) (pc' := 160) rfl (hb hby at_151) rfl (tlt (by decide)).1 (by decide) (by decide)) ?_
              show own_R p.tables e below _ Ts1 (mkF m 160 #[.val (.int nn), .val (.int bits), .val (.int cc), .val (.int (2 : Int32)), .val (.int r1), .val (.int r2), .val (.int r3), .val (.int r4), .val (.int r5), .val (.ref a1), .unset, .unset, .unset, .unset, .unset, .unset, .unset, .unset, .unset, .unset, .unset, .unset, .unset, .unset] [])
              subst y3
              subst y4
              subst y5
              exact JM _ _ _ a1 k1 ([r1, r2] : List Int32) Xs1 es1 Ns1 Ks1.1 g1a (Nat.le_of_ble_eq_true rfl) Vs1 ((own_st_app 3 ([r1, r2] : List Int32) 1 0 FP.dconst0).symm) ((own_ok_app 3 ([r1, r2] : List Int32) 1 0 FP.dconst0).symm)
            · show own_R p.tables e below _ T0 (mkF m 100 #[.val (.int nn), .val (.int bits), .val (.int cc), .val (.int (3 : Int32)), .val (.int r1), .val (.int r2), .val (.int r3), .val (.int r4), .val (.int r5), .unset, .unset, .unset, .unset, .unset, .unset, .unset, .unset, .unset, .unset, .unset, .unset, .unset, .unset, .unset] [])
              have y4 : r4 = 0 := zr4 (by decide)
              have y5 : r5 = 0 := zr5 (by decide)
              refine own_go (fun _ => XS.iloadN X0.here hx rfl (hb hby at_100) rfl ) ?_
              show own_R p.tables e below _ T0 (mkF m 101 #[.val (.int nn), .val (.int bits), .val (.int cc), .val (.int (3 : Int32)), .val (.int r1), .val (.int r2), .val (.int r3), .val (.int r4), .val (.int r5), .unset, .unset, .unset, .unset, .unset, .unset, .unset, .unset, .unset, .unset, .unset, .unset, .unset, .unset, .unset] [(.int (3 : Int32))])
              obtain ⟨T1, h1, k1, X1, e1, E1, A1, st1⟩ := newP X0 hx hZ (hw _ (List.mem_of_getElem? (i := 1) rfl)) e0 (g := (mkF m 101 #[.val (.int nn), .val (.int bits), .val (.int cc), .val (.int (3 : Int32)), .val (.int r1), .val (.int r2), .val (.int r3), .val (.int r4), .val (.int r5), .unset, .unset, .unset, .unset, .unset, .unset, .unset, .unset, .unset, .unset, .unset, .unset, .unset, .unset, .unset] [(.int (3 : Int32))])) rfl (hb hby at_101) rfl (by decide) (cap := 5) (by decide) (by decide) (by decide) (by decide)
              obtain ⟨a1, g1⟩ : ∃ z, z = h0.size := ⟨_, rfl⟩
              rw [← g1] at A1 st1
              refine own_go st1 ?_
              show own_R p.tables e below _ T1 (mkF m 103 #[.val (.int nn), .val (.int bits), .val (.int cc), .val (.int (3 : Int32)), .val (.int r1), .val (.int r2), .val (.int r3), .val (.int r4), .val (.int r5), .unset, .unset, .unset, .unset, .unset, .unset, .unset, .unset, .unset, .unset, .unset, .unset, .unset, .unset, .unset] [(.ref a1)])
              have V1 : Arv Z h1 a1 k1 .boolean (3 : Int32) [(.int 0), (.int 0), (.int 0)] (.int 0) := (Arv.new A1 (by decide)).pad (pad_rep [] (.int 0) 3)
              have q1 : h0.size ≤ a1 := Nat.le_of_eq g1.symm
              have g1a : n0 ≤ a1 := Nat.le_trans Z0 q1
              have K1 : Keep h0 h1 [] := (Keep.refl h0 []).ext E1
              refine own_go (fun _ => XS.astore X1.here hx rfl (hb hby at_103) rfl rfl (l' := #[.val (.int nn), .val (.int bits), .val (.int cc), .val (.int (3 : Int32)), .val (.int r1), .val (.int r2), .val (.int r3), .val (.int r4), .val (.int r5), .val (.ref a1), .unset, .unset, .unset, .unset, .unset, .unset, .unset, .unset, .unset, .unset, .unset, .unset, .unset, .unset]) rfl) ?_
              show own_R p.tables e below _ T1 (mkF m 105 #[.val (.int nn), .val (.int bits), .val (.int cc), .val (.int (3 : Int32)), .val (.int r1), .val (.int r2), .val (.int r3), .val (.int r4), .val (.int r5), .val (.ref a1), .unset, .unset, .unset, .unset, .unset, .unset, .unset, .unset, .unset, .unset, .unset, .unset, .unset, .unset] [])
              refine own_go (fun _ => XS.iloadN X1.here hx rfl (hb hby at_105) rfl ) ?_
              show own_R p.tables e below _ T1 (mkF m 106 #[.val (.int nn), .val (.int bits), .val (.int cc), .val (.int (3 : Int32)), .val (.int r1), .val (.int r2), .val (.int r3), .val (.int r4), .val (.int r5), .val (.ref a1), .unset, .unset, .unset, .unset, .unset, .unset, .unset, .unset, .unset, .unset, .unset, .unset, .unset, .unset] [(.int (3 : Int32))])
              refine own_go (fun _ => XS.iconst X1.here hx rfl (hb hby at_106)) ?_
              show own_R p.tables e below _ T1 (mkF m 107 #[.val (.int nn), .val (.int bits), .val (.int cc), .val (.int (3 : Int32)), .val (.int r1), .val (.int r2), .val (.int r3), .val (.int r4), .val (.int r5), .val (.ref a1), .unset, .unset, .unset, .unset, .unset, .unset, .unset, .unset, .unset, .unset, .unset, .unset, .unset, .unset] [(.int (1 : Int32)), (.int (3 : Int32))])
              refine own_go (fun _ => XS.icmpNo X1.here hx rfl (hb hby at_107) rfl (flt (by decide)).1) ?_
              show own_R p.tables e below _ T1 (mkF m 110 #[.val (.int nn), .val (.int bits), .val (.int cc), .val (.int (3 : Int32)), .val (.int r1), .val (.int r2), .val (.int r3), .val (.int r4), .val (.int r5), .val (.ref a1), .unset, .unset, .unset, .unset, .unset, .unset, .unset, .unset, .unset, .unset, .unset, .unset, .unset, .unset] [])
              refine own_go (fun _ => XS.aload X1.here hx rfl (hb hby at_110) rfl rfl) ?_
              show own_R p.tables e below _ T1 (mkF m 112 #[.val (.int nn), .val (.int bits), .val (.int cc), .val (.int (3 : Int32)), .val (.int r1), .val (.int r2), .val (.int r3), .val (.int r4), .val (.int r5), .val (.ref a1), .unset, .unset, .unset, .unset, .unset, .unset, .unset, .unset, .unset, .unset, .unset, .unset, .unset, .unset] [(.ref a1)])
              refine own_go (fun _ => XS.iconst X1.here hx rfl (hb hby at_112)) ?_
              show own_R p.tables e below _ T1 (mkF m 113 #[.val (.int nn), .val (.int bits), .val (.int cc), .val (.int (3 : Int32)), .val (.int r1), .val (.int r2), .val (.int r3), .val (.int r4), .val (.int r5), .val (.ref a1), .unset, .unset, .unset, .unset, .unset, .unset, .unset, .unset, .unset, .unset, .unset, .unset, .unset, .unset] [(.int (0 : Int32)), (.ref a1)])
              refine own_go (fun _ => XS.iload X1.here hx rfl (hb hby at_113) rfl ) ?_
              show own_R p.tables e below _ T1 (mkF m 115 #[.val (.int nn), .val (.int bits), .val (.int cc), .val (.int (3 : Int32)), .val (.int r1), .val (.int r2), .val (.int r3), .val (.int r4), .val (.int r5), .val (.ref a1), .unset, .unset, .unset, .unset, .unset, .unset, .unset, .unset, .unset, .unset, .unset, .unset, .unset, .unset] [(.int r1), (.int (0 : Int32)), (.ref a1)])
              obtain ⟨Ts0, hs0, Xs0, es0, Ws0, Vs0, sts0⟩ := own_stZ X1 hx hZ e1 V1 (j := (0 : Int32)) ⟨by decide, by decide⟩ 0 rfl (Nat.le_of_ble_eq_true rfl) hr1 (g := (mkF m 115 #[.val (.int nn), .val (.int bits), .val (.int cc), .val (.int (3 : Int32)), .val (.int r1), .val (.int r2), .val (.int r3), .val (.int r4), .val (.int r5), .val (.ref a1), .unset, .unset, .unset, .unset, .unset, .unset, .unset, .unset, .unset, .unset, .unset, .unset, .unset, .unset] [(.int r1), (.int (0 : Int32)), (.ref a1)])) rfl rfl (hb hby at_115)
              have Ks0 : Keep h0 hs0 [] := K1.wr Ws0 (Or.inr q1)
              have Ns0 := Fr.snoc Xs0 N0 g1a
              refine own_go sts0 ?_
              show own_R p.tables e below _ Ts0 (mkF m 116 #[.val (.int nn), .val (.int bits), .val (.int cc), .val (.int (3 : Int32)), .val (.int r1), .val (.int r2), .val (.int r3), .val (.int r4), .val (.int r5), .val (.ref a1), .unset, .unset, .unset, .unset, .unset, .unset, .unset, .unset, .unset, .unset, .unset, .unset, .unset, .unset] [])
              refine own_go (fun _ => XS.iloadN Xs0.here hx rfl (hb hby at_116) rfl ) ?_
              show own_R p.tables e below _ Ts0 (mkF m 117 #[.val (.int nn), .val (.int bits), .val (.int cc), .val (.int (3 : Int32)), .val (.int r1), .val (.int r2), .val (.int r3), .val (.int r4), .val (.int r5), .val (.ref a1), .unset, .unset, .unset, .unset, .unset, .unset, .unset, .unset, .unset, .unset, .unset, .unset, .unset, .unset] [(.int (3 : Int32))])
              refine own_go (fun _ => XS.iconst Xs0.here hx rfl (hb hby at_117)) ?_
              show own_R p.tables e below _ Ts0 (mkF m 118 #[.val (.int nn), .val (.int bits), .val (.int cc), .val (.int (3 : Int32)), .val (.int r1), .val (.int r2), .val (.int r3), .val (.int r4), .val (.int r5), .val (.ref a1), .unset, .unset, .unset, .unset, .unset, .unset, .unset, .unset, .unset, .unset, .unset, .unset, .unset, .unset] [(.int (2 : Int32)), (.int (3 : Int32))])
              refine own_go (fun _ => XS.icmpNo Xs0.here hx rfl (hb hby at_118) rfl (flt (by decide)).1) ?_
              show own_R p.tables e below _ Ts0 (mkF m 121 #[.val (.int nn), .val (.int bits), .val (.int cc), .val (.int (3 : Int32)), .val (.int r1), .val (.int r2), .val (.int r3), .val (.int r4), .val (.int r5), .val (.ref a1), .unset, .unset, .unset, .unset, .unset, .unset, .unset, .unset, .unset, .unset, .unset, .unset, .unset, .unset] [])
              refine own_go (fun _ => XS.aload Xs0.here hx rfl (hb hby at_121) rfl rfl) ?_
              show own_R p.tables e below _ Ts0 (mkF m 123 #[.val (.int nn), .val (.int bits), .val (.int cc), .val (.int (3 : Int32)), .val (.int r1), .val (.int r2), .val (.int r3), .val (.int r4), .val (.int r5), .val (.ref a1), .unset, .unset, .unset, .unset, .unset, .unset, .unset, .unset, .unset, .unset, .unset, .unset, .unset, .unset] [(.ref a1)])
              refine own_go (fun _ => XS.iconst Xs0.here hx rfl (hb hby at_123)) ?_
              show own_R p.tables e below _ Ts0 (mkF m 124 #[.val (.int nn), .val (.int bits), .val (.int cc), .val (.int (3 : Int32)), .val (.int r1), .val (.int r2), .val (.int r3), .val (.int r4), .val (.int r5), .val (.ref a1), .unset, .unset, .unset, .unset, .unset, .unset, .unset, .unset, .unset, .unset, .unset, .unset, .unset, .unset] [(.int (1 : Int32)), (.ref a1)])
              refine own_go (fun _ => XS.iload Xs0.here hx rfl (hb hby at_124) rfl ) ?_
              show own_R p.tables e below _ Ts0 (mkF m 126 #[.val (.int nn), .val (.int bits), .val (.int cc), .val (.int (3 : Int32)), .val (.int r1), .val (.int r2), .val (.int r3), .val (.int r4), .val (.int r5), .val (.ref a1), .unset, .unset, .unset, .unset, .unset, .unset, .unset, .unset, .unset, .unset, .unset, .unset, .unset, .unset] [(.int r2), (.int (1 : Int32)), (.ref a1)])
              obtain ⟨Ts1, hs1, Xs1, es1, Ws1, Vs1, sts1⟩ := own_stZ Xs0 hx hZ es0 Vs0 (j := (1 : Int32)) ⟨by decide, by decide⟩ 1 rfl (Nat.le_of_ble_eq_true rfl) hr2 (g := (mkF m 126 #[.val (.int nn), .val (.int bits), .val (.int cc), .val (.int (3 : Int32)), .val (.int r1), .val (.int r2), .val (.int r3), .val (.int r4), .val (.int r5), .val (.ref a1), .unset, .unset, .unset, .unset, .unset, .unset, .unset, .unset, .unset, .unset, .unset, .unset, .unset, .unset] [(.int r2), (.int (1 : Int32)), (.ref a1)])) rfl rfl (hb hby at_126)
              have Ks1 : Keep h0 hs1 [] := Ks0.wr Ws1 (Or.inr q1)
              have Ns1 := Fr.snoc Xs1 Ns0 g1a
              refine own_go sts1 ?_
              show own_R p.tables e below _ Ts1 (mkF m 127 #[.val (.int nn), .val (.int bits), .val (.int cc), .val (.int (3 : Int32)), .val (.int r1), .val (.int r2), .val (.int r3), .val (.int r4), .val (.int r5), .val (.ref a1), .unset, .unset, .unset, .unset, .unset, .unset, .unset, .unset, .unset, .unset, .unset, .unset, .unset, .unset] [])
              refine own_go (fun _ => XS.iloadN Xs1.here hx rfl (hb hby at_127) rfl ) ?_
              show own_R p.tables e below _ Ts1 (mkF m 128 #[.val (.int nn), .val (.int bits), .val (.int cc), .val (.int (3 : Int32)), .val (.int r1), .val (.int r2), .val (.int r3), .val (.int r4), .val (.int r5), .val (.ref a1), .unset, .unset, .unset, .unset, .unset, .unset, .unset, .unset, .unset, .unset, .unset, .unset, .unset, .unset] [(.int (3 : Int32))])
              refine own_go (fun _ => XS.iconst Xs1.here hx rfl (hb hby at_128)) ?_
              show own_R p.tables e below _ Ts1 (mkF m 129 #[.val (.int nn), .val (.int bits), .val (.int cc), .val (.int (3 : Int32)), .val (.int r1), .val (.int r2), .val (.int r3), .val (.int r4), .val (.int r5), .val (.ref a1), .unset, .unset, .unset, .unset, .unset, .unset, .unset, .unset, .unset, .unset, .unset, .unset, .unset, .unset] [(.int (3 : Int32)), (.int (3 : Int32))])
              refine own_go (fun _ => XS.icmpNo Xs1.here hx rfl (hb hby at_129) rfl (flt (by decide)).1) ?_
              show own_R p.tables e below _ Ts1 (mkF m 132 #[.val (.int nn), .val (.int bits), .val (.int cc), .val (.int (3 : Int32)), .val (.int r1), .val (.int r2), .val (.int r3), .val (.int r4), .val (.int r5), .val (.ref a1), .unset, .unset, .unset, .unset, .unset, .unset, .unset, .unset, .unset, .unset, .unset, .unset, .unset, .unset] [])
              refine own_go (fun _ => XS.aload Xs1.here hx rfl (hb hby at_132) rfl rfl) ?_
              show own_R p.tables e below _ Ts1 (mkF m 134 #[.val (.int nn), .val (.int bits), .val (.int cc), .val (.int (3 : Int32)), .val (.int r1), .val (.int r2), .val (.int r3), .val (.int r4), .val (.int r5), .val (.ref a1), .unset, .unset, .unset, .unset, .unset, .unset, .unset, .unset, .unset, .unset, .unset, .unset, .unset, .unset] [(.ref a1)])
              refine own_go (fun _ => XS.iconst Xs1.here hx rfl (hb hby at_134)) ?_
              show own_R p.tables e below _ Ts1 (mkF m 135 #[.val (.int nn), .val (.int bits), .val (.int cc), .val (.int (3 : Int32)), .val (.int r1), .val (.int r2), .val (.int r3), .val (.int r4), .val (.int r5), .val (.ref a1), .unset, .unset, .unset, .unset, .unset, .unset, .unset, .unset, .unset, .unset, .unset, .unset, .unset, .unset] [(.int (2 : Int32)), (.ref a1)])
              refine own_go (fun _ => XS.iload Xs1.here hx rfl (hb hby at_135) rfl ) ?_
              show own_R p.tables e below _ Ts1 (mkF m 137 #[.val (.int nn), .val (.int bits), .val (.int cc), .val (.int (3 : Int32)), .val (.int r1), .val (.int r2), .val (.int r3), .val (.int r4), .val (.int r5), .val (.ref a1), .unset, .unset, .unset, .unset, .unset, .unset, .unset, .unset, .unset, .unset, .unset, .unset, .unset, .unset] [(.int r3), (.int (2 : Int32)), (.ref a1)])
              obtain ⟨Ts2, hs2, Xs2, es2, Ws2, Vs2, sts2⟩ := own_stZ Xs1 hx hZ es1 Vs1 (j := (2 : Int32)) ⟨by decide, by decide⟩ 2 rfl (Nat.le_of_ble_eq_true rfl) hr3 (g := (mkF m 137 #[.val (.int nn), .val (.int bits), .val (.int cc), .val (.int (3 : Int32)), .val (.int r1), .val (.int r2), .val (.int r3), .val (.int r4), .val (.int r5), .val (.ref a1), .unset, .unset, .unset, .unset, .unset, .unset, .unset, .unset, .unset, .unset, .unset, .unset, .unset, .unset] [(.int r3), (.int (2 : Int32)), (.ref a1)])) rfl rfl (hb hby at_137)
              have Ks2 : Keep h0 hs2 [] := Ks1.wr Ws2 (Or.inr q1)
              have Ns2 := Fr.snoc Xs2 Ns1 g1a
              refine own_go sts2 ?_
              show own_R p.tables e below _ Ts2 (mkF m 138 #[.val (.int nn), .val (.int bits), .val (.int cc), .val (.int (3 : Int32)), .val (.int r1), .val (.int r2), .val (.int r3), .val (.int r4), .val (.int r5), .val (.ref a1), .unset, .unset, .unset, .unset, .unset, .unset, .unset, .unset, .unset, .unset, .unset, .unset, .unset, .unset] [])
              refine own_go (fun _ => XS.iloadN Xs2.here hx rfl (hb hby at_138) rfl ) ?_
              show own_R p.tables e below _ Ts2 (mkF m 139 #[.val (.int nn), .val (.int bits), .val (.int cc), .val (.int (3 : Int32)), .val (.int r1), .val (.int r2), .val (.int r3), .val (.int r4), .val (.int r5), .val (.ref a1), .unset, .unset, .unset, .unset, .unset, .unset, .unset, .unset, .unset, .unset, .unset, .unset, .unset, .unset] [(.int (3 : Int32))])
              refine own_go (fun _ => XS.iconst Xs2.here hx rfl (hb hby at_139)) ?_
              show own_R p.tables e below _ Ts2 (mkF m 140 #[.val (.int nn), .val (.int bits), .val (.int cc), .val (.int (3 : Int32)), .val (.int r1), .val (.int r2), .val (.int r3), .val (.int r4), .val (.int r5), .val (.ref a1), .unset, .unset, .unset, .unset, .unset, .unset, .unset, .unset, .unset, .unset, .unset, .unset, .unset, .unset] [(.int (4 : Int32)), (.int (3 : Int32))])
              refine own_go (fun _ => XS.icmpYes Xs2.here hx rfl (pc0 := 140) (pc' := 149) rfl (hb hby at_140) rfl (tlt (by decide)).1 (by decide) (by decide)) ?_
              show own_R p.tables e below _ Ts2 (mkF m 149 #[.val (.int nn), .val (.int bits), .val (.int cc), .val (.int (3 : Int32)), .val (.int r1), .val (.int r2), .val (.int r3), .val (.int r4), .val (.int r5), .val (.ref a1), .unset, .unset, .unset, .unset, .unset, .unset, .unset, .unset, .unset, .unset, .unset, .unset, .unset, .unset] [])
              refine own_go (fun _ => XS.iloadN Xs2.here hx rfl (hb hby at_149) rfl ) ?_
              show own_R p.tables e below _ Ts2 (mkF m 150 #[.val (.int nn), .val (.int bits), .val (.int cc), .val (.int (3 : Int32)), .val (.int r1), .val (.int r2), .val (.int r3), .val (.int r4), .val (.int r5), .val (.ref a1), .unset, .unset, .unset, .unset, .unset, .unset, .unset, .unset, .unset, .unset, .unset, .unset, .unset, .unset] [(.int (3 : Int32))])
              refine own_go (fun _ => XS.iconst Xs2.here hx rfl (hb hby at_150)) ?_
              show own_R p.tables e below _ Ts2 (mkF m 151 #[.val (.int nn), .val (.int bits), .val (.int cc), .val (.int (3 : Int32)), .val (.int r1), .val (.int r2), .val (.int r3), .val (.int r4), .val (.int r5), .val (.ref a1), .unset, .unset, .unset, .unset, .unset, .unset, .unset, .unset, .unset, .unset, .unset, .unset, .unset, .unset] [(.int (5 : Int32)), (.int (3 : Int32))])
              refine own_go (fun _ => XS.icmpYes Xs2.here hx rfl (pc0 := 151) (pc' := 160) rfl (hb hby at_151) rfl (tlt (by decide)).1 (by decide) (by decide)) ?_
              show own_R p.tables e below _ Ts2 (mkF m 160 #[.val (.int nn), .val (.int bits), .val (.int cc), .val (.int (3 : Int32)), .val (.int r1), .val (.int r2), .val (.int r3), .val (.int r4), .val (.int r5), .val (.ref a1), .unset, .unset, .unset, .unset, .unset, .unset, .unset, .unset, .unset, .unset, .unset, .unset, .unset, .unset] [])
              subst y4
              subst y5
              exact JM _ _ _ a1 k1 ([r1, r2, r3] : List Int32) Xs2 es2 Ns2 Ks2.1 g1a (Nat.le_of_ble_eq_true rfl) Vs2 ((own_st_app 2 ([r1, r2, r3] : List Int32) 1 0 FP.dconst0).symm) ((own_ok_app 2 ([r1, r2, r3] : List Int32) 1 0 FP.dconst0).symm)
            · show own_R p.tables e below _ T0 (mkF m 100 #[.val (.int nn), .val (.int bits), .val (.int cc), .val (.int (4 : Int32)), .val (.int r1), .val (.int r2), .val (.int r3), .val (.int r4), .val (.int r5), .unset, .unset, .unset, .unset, .unset, .unset, .unset, .unset, .unset, .unset, .unset, .unset, .unset, .unset, .unset] [])
              have y5 : r5 = 0 := zr5 (by decide)
              refine own_go (fun _ => XS.iloadN X0.here hx rfl (hb hby at_100) rfl ) ?_
              show own_R p.tables e below _ T0 (mkF m 101 #[.val (.int nn), .val (.int bits), .val (.int cc), .val (.int (4 : Int32)), .val (.int r1), .val (.int r2), .val (.int r3), .val (.int r4), .val (.int r5), .unset, .unset, .unset, .unset, .unset, .unset, .unset, .unset, .unset, .unset, .unset, .unset, .unset, .unset, .unset] [(.int (4 : Int32))])
              obtain ⟨T1, h1, k1, X1, e1, E1, A1, st1⟩ := newP X0 hx hZ (hw _ (List.mem_of_getElem? (i := 1) rfl)) e0 (g := (mkF m 101 #[.val (.int nn), .val (.int bits), .val (.int cc), .val (.int (4 : Int32)), .val (.int r1), .val (.int r2), .val (.int r3), .val (.int r4), .val (.int r5), .unset, .unset, .unset, .unset, .unset, .unset, .unset, .unset, .unset, .unset, .unset, .unset, .unset, .unset, .unset] [(.int (4 : Int32))])) rfl (hb hby at_101) rfl (by decide) (cap := 5) (by decide) (by decide) (by decide) (by decide)
              obtain ⟨a1, g1⟩ : ∃ z, z = h0.size := ⟨_, rfl⟩
              rw [← g1] at A1 st1
              refine own_go st1 ?_
              show own_R p.tables e below _ T1 (mkF m 103 #[.val (.int nn), .val (.int bits), .val (.int cc), .val (.int (4 : Int32)), .val (.int r1), .val (.int r2), .val (.int r3), .val (.int r4), .val (.int r5), .unset, .unset, .unset, .unset, .unset, .unset, .unset, .unset, .unset, .unset, .unset, .unset, .unset, .unset, .unset] [(.ref a1)])
              have V1 : Arv Z h1 a1 k1 .boolean (4 : Int32) [(.int 0), (.int 0), (.int 0), (.int 0)] (.int 0) := (Arv.new A1 (by decide)).pad (pad_rep [] (.int 0) 4)
              have q1 : h0.size ≤ a1 := Nat.le_of_eq g1.symm
              have g1a : n0 ≤ a1 := Nat.le_trans Z0 q1
              have K1 : Keep h0 h1 [] := (Keep.refl h0 []).ext E1
              refine own_go (fun _ => XS.astore X1.here hx rfl (hb hby at_103) rfl rfl (l' := #[.val (.int nn), .val (.int bits), .val (.int cc), .val (.int (4 : Int32)), .val (.int r1), .val (.int r2), .val (.int r3), .val (.int r4), .val (.int r5), .val (.ref a1), .unset, .unset, .unset, .unset, .unset, .unset, .unset, .unset, .unset, .unset, .unset, .unset, .unset, .unset]) rfl) ?_
              show own_R p.tables e below _ T1 (mkF m 105 #[.val (.int nn), .val (.int bits), .val (.int cc), .val (.int (4 : Int32)), .val (.int r1), .val (.int r2), .val (.int r3), .val (.int r4), .val (.int r5), .val (.ref a1), .unset, .unset, .unset, .unset, .unset, .unset, .unset, .unset, .unset, .unset, .unset, .unset, .unset, .unset] [])
              refine own_go (fun _ => XS.iloadN X1.here hx rfl (hb hby at_105) rfl ) ?_
              show own_R p.tables e below _ T1 (mkF m 106 #[.val (.int nn), .val (.int bits), .val (.int cc), .val (.int (4 : Int32)), .val (.int r1), .val (.int r2), .val (.int r3), .val (.int r4), .val (.int r5), .val (.ref a1), .unset, .unset, .unset, .unset, .unset, .unset, .unset, .unset, .unset, .unset, .unset, .unset, .unset, .unset] [(.int (4 : Int32))])
              refine own_go (fun _ => XS.iconst X1.here hx rfl (hb hby at_106)) ?_
              show own_R p.tables e below _ T1 (mkF m 107 #[.val (.int nn), .val (.int bits), .val (.int cc), .val (.int (4 : Int32)), .val (.int r1), .val (.int r2), .val (.int r3), .val (.int r4), .val (.int r5), .val (.ref a1), .unset, .unset, .unset, .unset, .unset, .unset, .unset, .unset, .unset, .unset, .unset, .unset, .unset, .unset] [(.int (1 : Int32)), (.int (4 : Int32))])
              refine own_go (fun _ => XS.icmpNo X1.here hx rfl (hb hby at_107) rfl (flt (by decide)).1) ?_
              show own_R p.tables e below _ T1 (mkF m 110 #[.val (.int nn), .val (.int bits), .val (.int cc), .val (.int (4 : Int32)), .val (.int r1), .val (.int r2), .val (.int r3), .val (.int r4), .val (.int r5), .val (.ref a1), .unset, .unset, .unset, .unset, .unset, .unset, .unset, .unset, .unset, .unset, .unset, .unset, .unset, .unset] [])
              refine own_go (fun _ => XS.aload X1.here hx rfl (hb hby at_110) rfl rfl) ?_
              show own_R p.tables e below _ T1 (mkF m 112 #[.val (.int nn), .val (.int bits), .val (.int cc), .val (.int (4 : Int32)), .val (.int r1), .val (.int r2), .val (.int r3), .val (.int r4), .val (.int r5), .val (.ref a1), .unset, .unset, .unset, .unset, .unset, .unset, .unset, .unset, .unset, .unset, .unset, .unset, .unset, .unset] [(.ref a1)])
              refine own_go (fun _ => XS.iconst X1.here hx rfl (hb hby at_112)) ?_
              show own_R p.tables e below _ T1 (mkF m 113 #[.val (.int nn), .val (.int bits), .val (.int cc), .val (.int (4 : Int32)), .val (.int r1), .val (.int r2), .val (.int r3), .val (.int r4), .val (.int r5), .val (.ref a1), .unset, .unset, .unset, .unset, .unset, .unset, .unset, .unset, .unset, .unset, .unset, .unset, .unset, .unset] [(.int (0 : Int32)), (.ref a1)])
              refine own_go (fun _ => XS.iload X1.here hx rfl (hb hby at_113) rfl ) ?_
              show own_R p.tables e below _ T1 (mkF m 115 #[.val (.int nn), .val (.int bits), .val (.int cc), .val (.int (4 : Int32)), .val (.int r1), .val (.int r2), .val (.int r3), .val (.int r4), .val (.int r5), .val (.ref a1), .unset, .unset, .unset, .unset, .unset, .unset, .unset, .unset, .unset, .unset, .unset, .unset, .unset, .unset] [(.int r1), (.int (0 : Int32)), (.ref a1)])
              obtain ⟨Ts0, hs0, Xs0, es0, Ws0, Vs0, sts0⟩ := own_stZ X1 hx hZ e1 V1 (j := (0 : Int32)) ⟨by decide, by decide⟩ 0 rfl (Nat.le_of_ble_eq_true rfl) hr1 (g := (mkF m 115 #[.val (.int nn), .val (.int bits), .val (.int cc), .val (.int (4 : Int32)), .val (.int r1), .val (.int r2), .val (.int r3), .val (.int r4), .val (.int r5), .val (.ref a1), .unset, .unset, .unset, .unset, .unset, .unset, .unset, .unset, .unset, .unset, .unset, .unset, .unset, .unset] [(.int r1), (.int (0 : Int32)), (.ref a1)])) rfl rfl (hb hby at_115)
              have Ks0 : Keep h0 hs0 [] := K1.wr Ws0 (Or.inr q1)
              have Ns0 := Fr.snoc Xs0 N0 g1a
              refine own_go sts0 ?_
              show own_R p.tables e below _ Ts0 (mkF m 116 #[.val (.int nn), .val (.int bits), .val (.int cc), .val (.int (4 : Int32)), .val (.int r1), .val (.int r2), .val (.int r3), .val (.int r4), .val (.int r5), .val (.ref a1), .unset, .unset, .unset, .unset, .unset, .unset, .unset, .unset, .unset, .unset, .unset, .unset, .unset, .unset] [])
              refine own_go (fun _ => XS.iloadN Xs0.here hx rfl (hb hby at_116) rfl ) ?_
              show own_R p.tables e below _ Ts0 (mkF m 117 #[.val (.int nn), .val (.int bits), .val (.int cc), .val (.int (4 : Int32)), .val (.int r1), .val (.int r2), .val (.int r3), .val (.int r4), .val (.int r5), .val (.ref a1), .unset, .unset, .unset, .unset, .unset, .unset, .unset, .unset, .unset, .unset, .unset, .unset, .unset, .unset] [(.int (4 : Int32))])
              refine own_go (fun _ => XS.iconst Xs0.here hx rfl (hb hby at_117)) ?_
              show own_R p.tables e below _ Ts0 (mkF m 118 #[.val (.int nn), .val (.int bits), .val (.int cc), .val (.int (4 : Int32)), .val (.int r1), .val (.int r2), .val (.int r3), .val (.int r4), .val (.int r5), .val (.ref a1), .unset, .unset, .unset, .unset, .unset, .unset, .unset, .unset, .unset, .unset, .unset, .unset, .unset, .unset] [(.int (2 : Int32)), (.int (4 : Int32))])
              refine own_go (fun _ => XS.icmpNo Xs0.here hx rfl (hb hby at_118) rfl (flt (by decide)).1) ?_
              show own_R p.tables e below _ Ts0 (mkF m 121 #[.val (.int nn), .val (.int bits), .val (.int cc), .val (.int (4 : Int32)), .val (.int r1), .val (.int r2), .val (.int r3), .val (.int r4), .val (.int r5), .val (.ref a1), .unset, .unset, .unset, .unset, .unset, .unset, .unset, .unset, .unset, .unset, .unset, .unset, .unset, .unset] [])
              refine own_go (fun _ => XS.aload Xs0.here hx rfl (hb hby at_121) rfl rfl) ?_
              show own_R p.tables e below _ Ts0 (mkF m 123 #[.val (.int nn), .val (.int bits), .val (.int cc), .val (.int (4 : Int32)), .val (.int r1), .val (.int r2), .val (.int r3), .val (.int r4), .val (.int r5), .val (.ref a1), .unset, .unset, .unset, .unset, .unset, .unset, .unset, .unset, .unset, .unset, .unset, .unset, .unset, .unset] [(.ref a1)])
              refine own_go (fun _ => XS.iconst Xs0.here hx rfl (hb hby at_123)) ?_
              show own_R p.tables e below _ Ts0 (mkF m 124 #[.val (.int nn), .val (.int bits), .val (.int cc), .val (.int (4 : Int32)), .val (.int r1), .val (.int r2), .val (.int r3), .val (.int r4), .val (.int r5), .val (.ref a1), .unset, .unset, .unset, .unset, .unset, .unset, .unset, .unset, .unset, .unset, .unset, .unset, .unset, .unset] [(.int (1 : Int32)), (.ref a1)])
              refine own_go (fun _ => XS.iload Xs0.here hx rfl (hb hby at_124) rfl ) ?_
              show own_R p.tables e below _ Ts0 (mkF m 126 #[.val (.int nn), .val (.int bits), .val (.int cc), .val (.int (4 : Int32)), .val (.int r1), .val (.int r2), .val (.int r3), .val (.int r4), .val (.int r5), .val (.ref a1), .unset, .unset, .unset, .unset, .unset, .unset, .unset, .unset, .unset, .unset, .unset, .unset, .unset, .unset] [(.int r2), (.int (1 : Int32)), (.ref a1)])
              obtain ⟨Ts1, hs1, Xs1, es1, Ws1, Vs1, sts1⟩ := own_stZ Xs0 hx hZ es0 Vs0 (j := (1 : Int32)) ⟨by decide, by decide⟩ 1 rfl (Nat.le_of_ble_eq_true rfl) hr2 (g := (mkF m 126 #[.val (.int nn), .val (.int bits), .val (.int cc), .val (.int (4 : Int32)), .val (.int r1), .val (.int r2), .val (.int r3), .val (.int r4), .val (.int r5), .val (.ref a1), .unset, .unset, .unset, .unset, .unset, .unset, .unset, .unset, .unset, .unset, .unset, .unset, .unset, .unset] [(.int r2), (.int (1 : Int32)), (.ref a1)])) rfl rfl (hb hby at_126)
              have Ks1 : Keep h0 hs1 [] := Ks0.wr Ws1 (Or.inr q1)
              have Ns1 := Fr.snoc Xs1 Ns0 g1a
              refine own_go sts1 ?_
              show own_R p.tables e below _ Ts1 (mkF m 127 #[.val (.int nn), .val (.int bits), .val (.int cc), .val (.int (4 : Int32)), .val (.int r1), .val (.int r2), .val (.int r3), .val (.int r4), .val (.int r5), .val (.ref a1), .unset, .unset, .unset, .unset, .unset, .unset, .unset, .unset, .unset, .unset, .unset, .unset, .unset, .unset] [])
              refine own_go (fun _ => XS.iloadN Xs1.here hx rfl (hb hby at_127) rfl ) ?_
              show own_R p.tables e below _ Ts1 (mkF m 128 #[.val (.int nn), .val (.int bits), .val (.int cc), .val (.int (4 : Int32)), .val (.int r1), .val (.int r2), .val (.int r3), .val (.int r4), .val (.int r5), .val (.ref a1), .unset, .unset, .unset, .unset, .unset, .unset, .unset, .unset, .unset, .unset, .unset, .unset, .unset, .unset] [(.int (4 : Int32))])
              refine own_go (fun _ => XS.iconst Xs1.here hx rfl (hb hby at_128)) ?_
              show own_R p.tables e below _ Ts1 (mkF m 129 #[.val (.int nn), .val (.int bits), .val (.int cc), .val (.int (4 : Int32)), .val (.int r1), .val (.int r2), .val (.int r3), .val (.int r4), .val (.int r5), .val (.ref a1), .unset, .unset, .unset, .unset, .unset, .unset, .unset, .unset, .unset, .unset, .unset, .unset, .unset, .unset] [(.int (3 : Int32)), (.int (4 : Int32))])
              refine own_go (fun _ => XS.icmpNo Xs1.here hx rfl (hb hby at_129) rfl (flt (by decide)).1) ?_
              show own_R p.tables e below _ Ts1 (mkF m 132 #[.val (.int nn), .val (.int bits), .val (.int cc), .val (.int (4 : Int32)), .val (.int r1), .val (.int r2), .val (.int r3), .val (.int r4), .val (.int r5), .val (.ref a1), .unset, .unset, .unset, .unset, .unset, .unset, .unset, .unset, .unset, .unset, .unset, .unset, .unset, .unset] [])
              refine own_go (fun _ => XS.aload Xs1.here hx rfl (hb hby at_132) rfl rfl) ?_
              show own_R p.tables e below _ Ts1 (mkF m 134 #[.val (.int nn), .val (.int bits), .val (.int cc), .val (.int (4 : Int32)), .val (.int r1), .val (.int r2), .val (.int r3), .val (.int r4), .val (.int r5), .val (.ref a1), .unset, .unset, .unset, .unset, .unset, .unset, .unset, .unset, .unset, .unset, .unset, .unset, .unset, .unset] [(.ref a1)])
              refine own_go (fun _ => XS.iconst Xs1.here hx rfl (hb hby at_134)) ?_
              show own_R p.tables e below _ Ts1 (mkF m 135 #[.val (.int nn), .val (.int bits), .val (.int cc), .val (.int (4 : Int32)), .val (.int r1), .val (.int r2), .val (.int r3), .val (.int r4), .val (.int r5), .val (.ref a1), .unset, .unset, .unset, .unset, .unset, .unset, .unset, .unset, .unset, .unset, .unset, .unset, .unset, .unset] [(.int (2 : Int32)), (.ref a1)])
              refine own_go (fun _ => XS.iload Xs1.here hx rfl (hb hby at_135) rfl ) ?_
              show own_R p.tables e below _ Ts1 (mkF m 137 #[.val (.int nn), .val (.int bits), .val (.int cc), .val (.int (4 : Int32)), .val (.int r1), .val (.int r2), .val (.int r3), .val (.int r4), .val (.int r5), .val (.ref a1), .unset, .unset, .unset, .unset, .unset, .unset, .unset, .unset, .unset, .unset, .unset, .unset, .unset, .unset] [(.int r3), (.int (2 : Int32)), (.ref a1)])
              obtain ⟨Ts2, hs2, Xs2, es2, Ws2, Vs2, sts2⟩ := own_stZ Xs1 hx hZ es1 Vs1 (j := (2 : Int32)) ⟨by decide, by decide⟩ 2 rfl (Nat.le_of_ble_eq_true rfl) hr3 (g := (mkF m 137 #[.val (.int nn), .val (.int bits), .val (.int cc), .val (.int (4 : Int32)), .val (.int r1), .val (.int r2), .val (.int r3), .val (.int r4), .val (.int r5), .val (.ref a1), .unset, .unset, .unset, .unset, .unset, .unset, .unset, .unset, .unset, .unset, .unset, .unset, .unset, .unset] [(.int r3), (.int (2 : Int32)), (.ref a1)])) rfl rfl (hb hby at_137)
              have Ks2 : Keep h0 hs2 [] := Ks1.wr Ws2 (Or.inr q1)
              have Ns2 := Fr.snoc Xs2 Ns1 g1a
              refine own_go sts2 ?_
              show own_R p.tables e below _ Ts2 (mkF m 138 #[.val (.int nn), .val (.int bits), .val (.int cc), .val (.int (4 : Int32)), .val (.int r1), .val (.int r2), .val (.int r3), .val (.int r4), .val (.int r5), .val (.ref a1), .unset, .unset, .unset, .unset, .unset, .unset, .unset, .unset, .unset, .unset, .unset, .unset, .unset, .unset] [])
              refine own_go (fun _ => XS.iloadN Xs2.here hx rfl (hb hby at_138) rfl ) ?_
              show own_R p.tables e below _ Ts2 (mkF m 139 #[.val (.int nn), .val (.int bits), .val (.int cc), .val (.int (4 : Int32)), .val (.int r1), .val (.int r2), .val (.int r3), .val (.int r4), .val (.int r5), .val (.ref a1), .unset, .unset, .unset, .unset, .unset, .unset, .unset, .unset, .unset, .unset, .unset, .unset, .unset, .unset] [(.int (4 : Int32))])
              refine own_go (fun _ => XS.iconst Xs2.here hx rfl (hb hby at_139)) ?_
              show own_R p.tables e below _ Ts2 (mkF m 140 #[.val (.int nn), .val (.int bits), .val (.int cc), .val (.int (4 : Int32)), .val (.int r1), .val (.int r2), .val (.int r3), .val (.int r4), .val (.int r5), .val (.ref a1), .unset, .unset, .unset, .unset, .unset, .unset, .unset, .unset, .unset, .unset, .unset, .unset, .unset, .unset] [(.int (4 : Int32)), (.int (4 : Int32))])
              refine own_go (fun _ => XS.icmpNo Xs2.here hx rfl (hb hby at_140) rfl (flt (by decide)).1) ?_
              show own_R p.tables e below _ Ts2 (mkF m 143 #[.val (.int nn), .val (.int bits), .val (.int cc), .val (.int (4 : Int32)), .val (.int r1), .val (.int r2), .val (.int r3), .val (.int r4), .val (.int r5), .val (.ref a1), .unset, .unset, .unset, .unset, .unset, .unset, .unset, .unset, .unset, .unset, .unset, .unset, .unset, .unset] [])
              refine own_go (fun _ => XS.aload Xs2.here hx rfl (hb hby at_143) rfl rfl) ?_
              show own_R p.tables e below _ Ts2 (mkF m 145 #[.val (.int nn), .val (.int bits), .val (.int cc), .val (.int (4 : Int32)), .val (.int r1), .val (.int r2), .val (.int r3), .val (.int r4), .val (.int r5), .val (.ref a1), .unset, .unset, .unset, .unset, .unset, .unset, .unset, .unset, .unset, .unset, .unset, .unset, .unset, .unset] [(.ref a1)])
              refine own_go (fun _ => XS.iconst Xs2.here hx rfl (hb hby at_145)) ?_
              show own_R p.tables e below _ Ts2 (mkF m 146 #[.val (.int nn), .val (.int bits), .val (.int cc), .val (.int (4 : Int32)), .val (.int r1), .val (.int r2), .val (.int r3), .val (.int r4), .val (.int r5), .val (.ref a1), .unset, .unset, .unset, .unset, .unset, .unset, .unset, .unset, .unset, .unset, .unset, .unset, .unset, .unset] [(.int (3 : Int32)), (.ref a1)])
              refine own_go (fun _ => XS.iload Xs2.here hx rfl (hb hby at_146) rfl ) ?_
              show own_R p.tables e below _ Ts2 (mkF m 148 #[.val (.int nn), .val (.int bits), .val (.int cc), .val (.int (4 : Int32)), .val (.int r1), .val (.int r2), .val (.int r3), .val (.int r4), .val (.int r5), .val (.ref a1), .unset, .unset, .unset, .unset, .unset, .unset, .unset, .unset, .unset, .unset, .unset, .unset, .unset, .unset] [(.int r4), (.int (3 : Int32)), (.ref a1)])
              obtain ⟨Ts3, hs3, Xs3, es3, Ws3, Vs3, sts3⟩ := own_stZ Xs2 hx hZ es2 Vs2 (j := (3 : Int32)) ⟨by decide, by decide⟩ 3 rfl (Nat.le_of_ble_eq_true rfl) hr4 (g := (mkF m 148 #[.val (.int nn), .val (.int bits), .val (.int cc), .val (.int (4 : Int32)), .val (.int r1), .val (.int r2), .val (.int r3), .val (.int r4), .val (.int r5), .val (.ref a1), .unset, .unset, .unset, .unset, .unset, .unset, .unset, .unset, .unset, .unset, .unset, .unset, .unset, .unset] [(.int r4), (.int (3 : Int32)), (.ref a1)])) rfl rfl (hb hby at_148)
              have Ks3 : Keep h0 hs3 [] := Ks2.wr Ws3 (Or.inr q1)
              have Ns3 := Fr.snoc Xs3 Ns2 g1a
              refine own_go sts3 ?_
              show own_R p.tables e below _ Ts3 (mkF m 149 #[.val (.int nn), .val (.int bits), .val (.int cc), .val (.int (4 : Int32)), .val (.int r1), .val (.int r2), .val (.int r3), .val (.int r4), .val (.int r5), .val (.ref a1), .unset, .unset, .unset, .unset, .unset, .unset, .unset, .unset, .unset, .unset, .unset, .unset, .unset, .unset] [])
              refine own_go (fun _ => XS.iloadN Xs3.here hx rfl (hb hby at_149) rfl ) ?_
              show own_R p.tables e below _ Ts3 (mkF m 150 #[.val (.int nn), .val (.int bits), .val (.int cc), .val (.int (4 : Int32)), .val (.int r1), .val (.int r2), .val (.int r3), .val (.int r4), .val (.int r5), .val (.ref a1), .unset, .unset, .unset, .unset, .unset, .unset, .unset, .unset, .unset, .unset, .unset, .unset, .unset, .unset] [(.int (4 : Int32))])
              refine own_go (fun _ => XS.iconst Xs3.here hx rfl (hb hby at_150)) ?_
              show own_R p.tables e below _ Ts3 (mkF m 151 #[.val (.int nn), .val (.int bits), .val (.int cc), .val (.int (4 : Int32)), .val (.int r1), .val (.int r2), .val (.int r3), .val (.int r4), .val (.int r5), .val (.ref a1), .unset, .unset, .unset, .unset, .unset, .unset, .unset, .unset, .unset, .unset, .unset, .unset, .unset, .unset] [(.int (5 : Int32)), (.int (4 : Int32))])
              refine own_go (fun _ => XS.icmpYes Xs3.here hx rfl (pc0 := 151) (pc' := 160) rfl (hb hby at_151) rfl (tlt (by decide)).1 (by decide) (by decide)) ?_
              show own_R p.tables e below _ Ts3 (mkF m 160 #[.val (.int nn), .val (.int bits), .val (.int cc), .val (.int (4 : Int32)), .val (.int r1), .val (.int r2), .val (.int r3), .val (.int r4), .val (.int r5), .val (.ref a1), .unset, .unset, .unset, .unset, .unset, .unset, .unset, .unset, .unset, .unset, .unset, .unset, .unset, .unset] [])
              subst y5
              exact JM _ _ _ a1 k1 ([r1, r2, r3, r4] : List Int32) Xs3 es3 Ns3 Ks3.1 g1a (Nat.le_of_ble_eq_true rfl) Vs3 ((own_st_app 1 ([r1, r2, r3, r4] : List Int32) 1 0 FP.dconst0).symm) ((own_ok_app 1 ([r1, r2, r3, r4] : List Int32) 1 0 FP.dconst0).symm)
            · show own_R p.tables e below _ T0 (mkF m 100 #[.val (.int nn), .val (.int bits), .val (.int cc), .val (.int (5 : Int32)), .val (.int r1), .val (.int r2), .val (.int r3), .val (.int r4), .val (.int r5), .unset, .unset, .unset, .unset, .unset, .unset, .unset, .unset, .unset, .unset, .unset, .unset, .unset, .unset, .unset] [])
              refine own_go (fun _ => XS.iloadN X0.here hx rfl (hb hby at_100) rfl ) ?_
              show own_R p.tables e below _ T0 (mkF m 101 #[.val (.int nn), .val (.int bits), .val (.int cc), .val (.int (5 : Int32)), .val (.int r1), .val (.int r2), .val (.int r3), .val (.int r4), .val (.int r5), .unset, .unset, .unset, .unset, .unset, .unset, .unset, .unset, .unset, .unset, .unset, .unset, .unset, .unset, .unset] [(.int (5 : Int32))])
              obtain ⟨T1, h1, k1, X1, e1, E1, A1, st1⟩ := newP X0 hx hZ (hw _ (List.mem_of_getElem? (i := 1) rfl)) e0 (g := (mkF m 101 #[.val (.int nn), .val (.int bits), .val (.int cc), .val (.int (5 : Int32)), .val (.int r1), .val (.int r2), .val (.int r3), .val (.int r4), .val (.int r5), .unset, .unset, .unset, .unset, .unset, .unset, .unset, .unset, .unset, .unset, .unset, .unset, .unset, .unset, .unset] [(.int (5 : Int32))])) rfl (hb hby at_101) rfl (by decide) (cap := 5) (by decide) (by decide) (by decide) (by decide)
              obtain ⟨a1, g1⟩ : ∃ z, z = h0.size := ⟨_, rfl⟩
              rw [← g1] at A1 st1
              refine own_go st1 ?_
              show own_R p.tables e below _ T1 (mkF m 103 #[.val (.int nn), .val (.int bits), .val (.int cc), .val (.int (5 : Int32)), .val (.int r1), .val (.int r2), .val (.int r3), .val (.int r4), .val (.int r5), .unset, .unset, .unset, .unset, .unset, .unset, .unset, .unset, .unset, .unset, .unset, .unset, .unset, .unset, .unset] [(.ref a1)])
              have V1 : Arv Z h1 a1 k1 .boolean (5 : Int32) [(.int 0), (.int 0), (.int 0), (.int 0), (.int 0)] (.int 0) := (Arv.new A1 (by decide)).pad (pad_rep [] (.int 0) 5)
              have q1 : h0.size ≤ a1 := Nat.le_of_eq g1.symm
              have g1a : n0 ≤ a1 := Nat.le_trans Z0 q1
              have K1 : Keep h0 h1 [] := (Keep.refl h0 []).ext E1
              refine own_go (fun _ => XS.astore X1.here hx rfl (hb hby at_103) rfl rfl (l' := #[.val (.int nn), .val (.int bits), .val (.int cc), .val (.int (5 : Int32)), .val (.int r1), .val (.int r2), .val (.int r3), .val (.int r4), .val (.int r5), .val (.ref a1), .unset, .unset, .unset, .unset, .unset, .unset, .unset, .unset, .unset, .unset, .unset, .unset, .unset, .unset]) rfl) ?_
              show own_R p.tables e below _ T1 (mkF m 105 #[.val (.int nn), .val (.int bits), .val (.int cc), .val (.int (5 : Int32)), .val (.int r1), .val (.int r2), .val (.int r3), .val (.int r4), .val (.int r5), .val (.ref a1), .unset, .unset, .unset, .unset, .unset, .unset, .unset, .unset, .unset, .unset, .unset, .unset, .unset, .unset] [])
              refine own_go (fun _ => XS.iloadN X1.here hx rfl (hb hby at_105) rfl ) ?_
              show own_R p.tables e below _ T1 (mkF m 106 #[.val (.int nn), .val (.int bits), .val (.int cc), .val (.int (5 : Int32)), .val (.int r1), .val (.int r2), .val (.int r3), .val (.int r4), .val (.int r5), .val (.ref a1), .unset, .unset, .unset, .unset, .unset, .unset, .unset, .unset, .unset, .unset, .unset, .unset, .unset, .unset] [(.int (5 : Int32))])
              refine own_go (fun _ => XS.iconst X1.here hx rfl (hb hby at_106)) ?_
              show own_R p.tables e below _ T1 (mkF m 107 #[.val (.int nn), .val (.int bits), .val (.int cc), .val (.int (5 : Int32)), .val (.int r1), .val (.int r2), .val (.int r3), .val (.int r4), .val (.int r5), .val (.ref a1), .unset, .unset, .unset, .unset, .unset, .unset, .unset, .unset, .unset, .unset, .unset, .unset, .unset, .unset] [(.int (1 : Int32)), (.int (5 : Int32))])
              refine own_go (fun _ => XS.icmpNo X1.here hx rfl (hb hby at_107) rfl (flt (by decide)).1) ?_
              show own_R p.tables e below _ T1 (mkF m 110 #[.val (.int nn), .val (.int bits), .val (.int cc), .val (.int (5 : Int32)), .val (.int r1), .val (.int r2), .val (.int r3), .val (.int r4), .val (.int r5), .val (.ref a1), .unset, .unset, .unset, .unset, .unset, .unset, .unset, .unset, .unset, .unset, .unset, .unset, .unset, .unset] [])
              refine own_go (fun _ => XS.aload X1.here hx rfl (hb hby at_110) rfl rfl) ?_
              show own_R p.tables e below _ T1 (mkF m 112 #[.val (.int nn), .val (.int bits), .val (.int cc), .val (.int (5 : Int32)), .val (.int r1), .val (.int r2), .val (.int r3), .val (.int r4), .val (.int r5), .val (.ref a1), .unset, .unset, .unset, .unset, .unset, .unset, .unset, .unset, .unset, .unset, .unset, .unset, .unset, .unset] [(.ref a1)])
              refine own_go (fun _ => XS.iconst X1.here hx rfl (hb hby at_112)) ?_
              show own_R p.tables e below _ T1 (mkF m 113 #[.val (.int nn), .val (.int bits), .val (.int cc), .val (.int (5 : Int32)), .val (.int r1), .val (.int r2), .val (.int r3), .val (.int r4), .val (.int r5), .val (.ref a1), .unset, .unset, .unset, .unset, .unset, .unset, .unset, .unset, .unset, .unset, .unset, .unset, .unset, .unset] [(.int (0 : Int32)), (.ref a1)])
              refine own_go (fun _ => XS.iload X1.here hx rfl (hb hby at_113) rfl ) ?_
              show own_R p.tables e below _ T1 (mkF m 115 #[.val (.int nn), .val (.int bits), .val (.int cc), .val (.int (5 : Int32)), .val (.int r1), .val (.int r2), .val (.int r3), .val (.int r4), .val (.int r5), .val (.ref a1), .unset, .unset, .unset, .unset, .unset, .unset, .unset, .unset, .unset, .unset, .unset, .unset, .unset, .unset] [(.int r1), (.int (0 : Int32)), (.ref a1)])
              obtain ⟨Ts0, hs0, Xs0, es0, Ws0, Vs0, sts0⟩ := own_stZ X1 hx hZ e1 V1 (j := (0 : Int32)) ⟨by decide, by decide⟩ 0 rfl (Nat.le_of_ble_eq_true rfl) hr1 (g := (mkF m 115 #[.val (.int nn), .val (.int bits), .val (.int cc), .val (.int (5 : Int32)), .val (.int r1), .val (.int r2), .val (.int r3), .val (.int r4), .val (.int r5), .val (.ref a1), .unset, .unset, .unset, .unset, .unset, .unset, .unset, .unset, .unset, .unset, .unset, .unset, .unset, .unset] [(.int r1), (.int (0 : Int32)), (.ref a1)])) rfl rfl (hb hby at_115)
              have Ks0 : Keep h0 hs0 [] := K1.wr Ws0 (Or.inr q1)
              have Ns0 := Fr.snoc Xs0 N0 g1a
              refine own_go sts0 ?_
              show own_R p.tables e below _ Ts0 (mkF m 116 #[.val (.int nn), .val (.int bits), .val (.int cc), .val (.int (5 : Int32)), .val (.int r1), .val (.int r2), .val (.int r3), .val (.int r4), .val (.int r5), .val (.ref a1), .unset, .unset, .unset, .unset, .unset, .unset, .unset, .unset, .unset, .unset, .unset, .unset, .unset, .unset] [])
              refine own_go (fun _ => XS.iloadN Xs0.here hx rfl (hb hby at_116) rfl ) ?_
              show own_R p.tables e below _ Ts0 (mkF m 117 #[.val (.int nn), .val (.int bits), .val (.int cc), .val (.int (5 : Int32)), .val (.int r1), .val (.int r2), .val (.int r3), .val (.int r4), .val (.int r5), .val (.ref a1), .unset, .unset, .unset, .unset, .unset, .unset, .unset, .unset, .unset, .unset, .unset, .unset, .unset, .unset] [(.int (5 : Int32))])
              refine own_go (fun _ => XS.iconst Xs0.here hx rfl (hb hby at_117)) ?_
              show own_R p.tables e below _ Ts0 (mkF m 118 #[.val (.int nn), .val (.int bits), .val (.int cc), .val (.int (5 : Int32)), .val (.int r1), .val (.int r2), .val (.int r3), .val (.int r4), .val (.int r5), .val (.ref a1), .unset, .unset, .unset, .unset, .unset, .unset, .unset, .unset, .unset, .unset, .unset, .unset, .unset, .unset] [(.int (2 : Int32)), (.int (5 : Int32))])
              refine own_go (fun _ => XS.icmpNo Xs0.here hx rfl (hb hby at_118) rfl (flt (by decide)).1) ?_
              show own_R p.tables e below _ Ts0 (mkF m 121 #[.val (.int nn), .val (.int bits), .val (.int cc), .val (.int (5 : Int32)), .val (.int r1), .val (.int r2), .val (.int r3), .val (.int r4), .val (.int r5), .val (.ref a1), .unset, .unset, .unset, .unset, .unset, .unset, .unset, .unset, .unset, .unset, .unset, .unset, .unset, .unset] [])
              refine own_go (fun _ => XS.aload Xs0.here hx rfl (hb hby at_121) rfl rfl) ?_
              show own_R p.tables e below _ Ts0 (mkF m 123 #[.val (.int nn), .val (.int bits), .val (.int cc), .val (.int (5 : Int32)), .val (.int r1), .val (.int r2), .val (.int r3), .val (.int r4), .val (.int r5), .val (.ref a1), .unset, .unset, .unset, .unset, .unset, .unset, .unset, .unset, .unset, .unset, .unset, .unset, .unset, .unset] [(.ref a1)])
              refine own_go (fun _ => XS.iconst Xs0.here hx rfl (hb hby at_123)) ?_
              show own_R p.tables e below _ Ts0 (mkF m 124 #[.val (.int nn), .val (.int bits), .val (.int cc), .val (.int (5 : Int32)), .val (.int r1), .val (.int r2), .val (.int r3), .val (.int r4), .val (.int r5), .val (.ref a1), .unset, .unset, .unset, .unset, .unset, .unset, .unset, .unset, .unset, .unset, .unset, .unset, .unset, .unset] [(.int (1 : Int32)), (.ref a1)])
              refine own_go (fun _ => XS.iload Xs0.here hx rfl (hb hby at_124) rfl ) ?_
              show own_R p.tables e below _ Ts0 (mkF m 126 #[.val (.int nn), .val (.int bits), .val (.int cc), .val (.int (5 : Int32)), .val (.int r1), .val (.int r2), .val (.int r3), .val (.int r4), .val (.int r5), .val (.ref a1), .unset, .unset, .unset, .unset, .unset, .unset, .unset, .unset, .unset, .unset, .unset, .unset, .unset, .unset] [(.int r2), (.int (1 : Int32)), (.ref a1)])
              obtain ⟨Ts1, hs1, Xs1, es1, Ws1, Vs1, sts1⟩ := own_stZ Xs0 hx hZ es0 Vs0 (j := (1 : Int32)) ⟨by decide, by decide⟩ 1 rfl (Nat.le_of_ble_eq_true rfl) hr2 (g := (mkF m 126 #[.val (.int nn), .val (.int bits), .val (.int cc), .val (.int (5 : Int32)), .val (.int r1), .val (.int r2), .val (.int r3), .val (.int r4), .val (.int r5), .val (.ref a1), .unset, .unset, .unset, .unset, .unset, .unset, .unset, .unset, .unset, .unset, .unset, .unset, .unset, .unset] [(.int r2), (.int (1 : Int32)), (.ref a1)])) rfl rfl (hb hby at_126)
              have Ks1 : Keep h0 hs1 [] := Ks0.wr Ws1 (Or.inr q1)
              have Ns1 := Fr.snoc Xs1 Ns0 g1a
              refine own_go sts1 ?_
              show own_R p.tables e below _ Ts1 (mkF m 127 #[.val (.int nn), .val (.int bits), .val (.int cc), .val (.int (5 : Int32)), .val (.int r1), .val (.int r2), .val (.int r3), .val (.int r4), .val (.int r5), .val (.ref a1), .unset, .unset, .unset, .unset, .unset, .unset, .unset, .unset, .unset, .unset, .unset, .unset, .unset, .unset] [])
              refine own_go (fun _ => XS.iloadN Xs1.here hx rfl (hb hby at_127) rfl ) ?_
              show own_R p.tables e below _ Ts1 (mkF m 128 #[.val (.int nn), .val (.int bits), .val (.int cc), .val (.int (5 : Int32)), .val (.int r1), .val (.int r2), .val (.int r3), .val (.int r4), .val (.int r5), .val (.ref a1), .unset, .unset, .unset, .unset, .unset, .unset, .unset, .unset, .unset, .unset, .unset, .unset, .unset, .unset] [(.int (5 : Int32))])
              refine own_go (fun _ => XS.iconst Xs1.here hx rfl (hb hby at_128)) ?_
              show own_R p.tables e below _ Ts1 (mkF m 129 #[.val (.int nn), .val (.int bits), .val (.int cc), .val (.int (5 : Int32)), .val (.int r1), .val (.int r2), .val (.int r3), .val (.int r4), .val (.int r5), .val (.ref a1), .unset, .unset, .unset, .unset, .unset, .unset, .unset, .unset, .unset, .unset, .unset, .unset, .unset, .unset] [(.int (3 : Int32)), (.int (5 : Int32))])
              refine own_go (fun _ => XS.icmpNo Xs1.here hx rfl (hb hby at_129) rfl (flt (by decide)).1) ?_
              show own_R p.tables e below _ Ts1 (mkF m 132 #[.val (.int nn), .val (.int bits), .val (.int cc), .val (.int (5 : Int32)), .val (.int r1), .val (.int r2), .val (.int r3), .val (.int r4), .val (.int r5), .val (.ref a1), .unset, .unset, .unset, .unset, .unset, .unset, .unset, .unset, .unset, .unset, .unset, .unset, .unset, .unset] [])
              refine own_go (fun _ => XS.aload Xs1.here hx rfl (hb hby at_132) rfl rfl) ?_
              show own_R p.tables e below _ Ts1 (mkF m 134 #[.val (.int nn), .val (.int bits), .val (.int cc), .val (.int (5 : Int32)), .val (.int r1), .val (.int r2), .val (.int r3), .val (.int r4), .val (.int r5), .val (.ref a1), .unset, .unset, .unset, .unset, .unset, .unset, .unset, .unset, .unset, .unset, .unset, .unset, .unset, .unset] [(.ref a1)])
              refine own_go (fun _ => XS.iconst Xs1.here hx rfl (hb hby at_134)) ?_
              show own_R p.tables e below _ Ts1 (mkF m 135 #[.val (.int nn), .val (.int bits), .val (.int cc), .val (.int (5 : Int32)), .val (.int r1), .val (.int r2), .val (.int r3), .val (.int r4), .val (.int r5), .val (.ref a1), .unset, .unset, .unset, .unset, .unset, .unset, .unset, .unset, .unset, .unset, .unset, .unset, .unset, .unset] [(.int (2 : Int32)), (.ref a1)])
              refine own_go (fun _ => XS.iload Xs1.here hx rfl (hb hby at_135) rfl ) ?_
              show own_R p.tables e below _ Ts1 (mkF m 137 #[.val (.int nn), .val (.int bits), .val (.int cc), .val (.int (5 : Int32)), .val (.int r1), .val (.int r2), .val (.int r3), .val (.int r4), .val (.int r5), .val (.ref a1), .unset, .unset, .unset, .unset, .unset, .unset, .unset, .unset, .unset, .unset, .unset, .unset, .unset, .unset] [(.int r3), (.int (2 : Int32)), (.ref a1)])
              obtain ⟨Ts2, hs2, Xs2, es2, Ws2, Vs2, sts2⟩ := own_stZ Xs1 hx hZ es1 Vs1 (j := (2 : Int32)) ⟨by decide, by decide⟩ 2 rfl (Nat.le_of_ble_eq_true rfl) hr3 (g := (mkF m 137 #[.val (.int nn), .val (.int bits), .val (.int cc), .val (.int (5 : Int32)), .val (.int r1), .val (.int r2), .val (.int r3), .val (.int r4), .val (.int r5), .val (.ref a1), .unset, .unset, .unset, .unset, .unset, .unset, .unset, .unset, .unset, .unset, .unset, .unset, .unset, .unset] [(.int r3), (.int (2 : Int32)), (.ref a1)])) rfl rfl (hb hby at_137)
              have Ks2 : Keep h0 hs2 [] := Ks1.wr Ws2 (Or.inr q1)
              have Ns2 := Fr.snoc Xs2 Ns1 g1a
              refine own_go sts2 ?_
              show own_R p.tables e below _ Ts2 (mkF m 138 #[.val (.int nn), .val (.int bits), .val (.int cc), .val (.int (5 : Int32)), .val (.int r1), .val (.int r2), .val (.int r3), .val (.int r4), .val (.int r5), .val (.ref a1), .unset, .unset, .unset, .unset, .unset, .unset, .unset, .unset, .unset, .unset, .unset, .unset, .unset, .unset] [])
              refine own_go (fun _ => XS.iloadN Xs2.here hx rfl (hb hby at_138) rfl ) ?_
              show own_R p.tables e below _ Ts2 (mkF m 139 #[.val (.int nn), .val (.int bits), .val (.int cc), .val (.int (5 : Int32)), .val (.int r1), .val (.int r2), .val (.int r3), .val (.int r4), .val (.int r5), .val (.ref a1), .unset, .unset, .unset, .unset, .unset, .unset, .unset, .unset, .unset, .unset, .unset, .unset, .unset, .unset] [(.int (5 : Int32))])
              refine own_go (fun _ => XS.iconst Xs2.here hx rfl (hb hby at_139)) ?_
              show own_R p.tables e below _ Ts2 (mkF m 140 #[.val (.int nn), .val (.int bits), .val (.int cc), .val (.int (5 : Int32)), .val (.int r1), .val (.int r2), .val (.int r3), .val (.int r4), .val (.int r5), .val (.ref a1), .unset, .unset, .unset, .unset, .unset, .unset, .unset, .unset, .unset, .unset, .unset, .unset, .unset, .unset] [(.int (4 : Int32)), (.int (5 : Int32))])
              refine own_go (fun _ => XS.icmpNo Xs2.here hx rfl (hb hby at_140) rfl (flt (by decide)).1) ?_
              show own_R p.tables e below _ Ts2 (mkF m 143 #[.val (.int nn), .val (.int bits), .val (.int cc), .val (.int (5 : Int32)), .val (.int r1), .val (.int r2), .val (.int r3), .val (.int r4), .val (.int r5), .val (.ref a1), .unset, .unset, .unset, .unset, .unset, .unset, .unset, .unset, .unset, .unset, .unset, .unset, .unset, .unset] [])
              refine own_go (fun _ => XS.aload Xs2.here hx rfl (hb hby at_143) rfl rfl) ?_
              show own_R p.tables e below _ Ts2 (mkF m 145 #[.val (.int nn), .val (.int bits), .val (.int cc), .val (.int (5 : Int32)), .val (.int r1), .val (.int r2), .val (.int r3), .val (.int r4), .val (.int r5), .val (.ref a1), .unset, .unset, .unset, .unset, .unset, .unset, .unset, .unset, .unset, .unset, .unset, .unset, .unset, .unset] [(.ref a1)])
              refine own_go (fun _ => XS.iconst Xs2.here hx rfl (hb hby at_145)) ?_
              show own_R p.tables e below _ Ts2 (mkF m 146 #[.val (.int nn), .val (.int bits), .val (.int cc), .val (.int (5 : Int32)), .val (.int r1), .val (.int r2), .val (.int r3), .val (.int r4), .val (.int r5), .val (.ref a1), .unset, .unset, .unset, .unset, .unset, .unset, .unset, .unset, .unset, .unset, .unset, .unset, .unset, .unset] [(.int (3 : Int32)), (.ref a1)])
              refine own_go (fun _ => XS.iload Xs2.here hx rfl (hb hby at_146) rfl ) ?_
              show own_R p.tables e below _ Ts2 (mkF m 148 #[.val (.int nn), .val (.int bits), .val (.int cc), .val (.int (5 : Int32)), .val (.int r1), .val (.int r2), .val (.int r3), .val (.int r4), .val (.int r5), .val (.ref a1), .unset, .unset, .unset, .unset, .unset, .unset, .unset, .unset, .unset, .unset, .unset, .unset, .unset, .unset] [(.int r4), (.int (3 : Int32)), (.ref a1)])
              obtain ⟨Ts3, hs3, Xs3, es3, Ws3, Vs3, sts3⟩ := own_stZ Xs2 hx hZ es2 Vs2 (j := (3 : Int32)) ⟨by decide, by decide⟩ 3 rfl (Nat.le_of_ble_eq_true rfl) hr4 (g := (mkF m 148 #[.val (.int nn), .val (.int bits), .val (.int cc), .val (.int (5 : Int32)), .val (.int r1), .val (.int r2), .val (.int r3), .val (.int r4), .val (.int r5), .val (.ref a1), .unset, .unset, .unset, .unset, .unset, .unset, .unset, .unset, .unset, .unset, .unset, .unset, .unset, .unset] [(.int r4), (.int (3 : Int32)), (.ref a1)])) rfl rfl (hb hby at_148)
              have Ks3 : Keep h0 hs3 [] := Ks2.wr Ws3 (Or.inr q1)
              have Ns3 := Fr.snoc Xs3 Ns2 g1a
              refine own_go sts3 ?_
              show own_R p.tables e below _ Ts3 (mkF m 149 #[.val (.int nn), .val (.int bits), .val (.int cc), .val (.int (5 : Int32)), .val (.int r1), .val (.int r2), .val (.int r3), .val (.int r4), .val (.int r5), .val (.ref a1), .unset, .unset, .unset, .unset, .unset, .unset, .unset, .unset, .unset, .unset, .unset, .unset, .unset, .unset] [])
              refine own_go (fun _ => XS.iloadN Xs3.here hx rfl (hb hby at_149) rfl ) ?_
              show own_R p.tables e below _ Ts3 (mkF m 150 #[.val (.int nn), .val (.int bits), .val (.int cc), .val (.int (5 : Int32)), .val (.int r1), .val (.int r2), .val (.int r3), .val (.int r4), .val (.int r5), .val (.ref a1), .unset, .unset, .unset, .unset, .unset, .unset, .unset, .unset, .unset, .unset, .unset, .unset, .unset, .unset] [(.int (5 : Int32))])
              refine own_go (fun _ => XS.iconst Xs3.here hx rfl (hb hby at_150)) ?_
              show own_R p.tables e below _ Ts3 (mkF m 151 #[.val (.int nn), .val (.int bits), .val (.int cc), .val (.int (5 : Int32)), .val (.int r1), .val (.int r2), .val (.int r3), .val (.int r4), .val (.int r5), .val (.ref a1), .unset, .unset, .unset, .unset, .unset, .unset, .unset, .unset, .unset, .unset, .unset, .unset, .unset, .unset] [(.int (5 : Int32)), (.int (5 : Int32))])
              refine own_go (fun _ => XS.icmpNo Xs3.here hx rfl (hb hby at_151) rfl (flt (by decide)).1) ?_
              show own_R p.tables e below _ Ts3 (mkF m 154 #[.val (.int nn), .val (.int bits), .val (.int cc), .val (.int (5 : Int32)), .val (.int r1), .val (.int r2), .val (.int r3), .val (.int r4), .val (.int r5), .val (.ref a1), .unset, .unset, .unset, .unset, .unset, .unset, .unset, .unset, .unset, .unset, .unset, .unset, .unset, .unset] [])
              refine own_go (fun _ => XS.aload Xs3.here hx rfl (hb hby at_154) rfl rfl) ?_
              show own_R p.tables e below _ Ts3 (mkF m 156 #[.val (.int nn), .val (.int bits), .val (.int cc), .val (.int (5 : Int32)), .val (.int r1), .val (.int r2), .val (.int r3), .val (.int r4), .val (.int r5), .val (.ref a1), .unset, .unset, .unset, .unset, .unset, .unset, .unset, .unset, .unset, .unset, .unset, .unset, .unset, .unset] [(.ref a1)])
              refine own_go (fun _ => XS.iconst Xs3.here hx rfl (hb hby at_156)) ?_
              show own_R p.tables e below _ Ts3 (mkF m 157 #[.val (.int nn), .val (.int bits), .val (.int cc), .val (.int (5 : Int32)), .val (.int r1), .val (.int r2), .val (.int r3), .val (.int r4), .val (.int r5), .val (.ref a1), .unset, .unset, .unset, .unset, .unset, .unset, .unset, .unset, .unset, .unset, .unset, .unset, .unset, .unset] [(.int (4 : Int32)), (.ref a1)])
              refine own_go (fun _ => XS.iload Xs3.here hx rfl (hb hby at_157) rfl ) ?_
              show own_R p.tables e below _ Ts3 (mkF m 159 #[.val (.int nn), .val (.int bits), .val (.int cc), .val (.int (5 : Int32)), .val (.int r1), .val (.int r2), .val (.int r3), .val (.int r4), .val (.int r5), .val (.ref a1), .unset, .unset, .unset, .unset, .unset, .unset, .unset, .unset, .unset, .unset, .unset, .unset, .unset, .unset] [(.int r5), (.int (4 : Int32)), (.ref a1)])
              obtain ⟨Ts4, hs4, Xs4, es4, Ws4, Vs4, sts4⟩ := own_stZ Xs3 hx hZ es3 Vs3 (j := (4 : Int32)) ⟨by decide, by decide⟩ 4 rfl (Nat.le_of_ble_eq_true rfl) hr5 (g := (mkF m 159 #[.val (.int nn), .val (.int bits), .val (.int cc), .val (.int (5 : Int32)), .val (.int r1), .val (.int r2), .val (.int r3), .val (.int r4), .val (.int r5), .val (.ref a1), .unset, .unset, .unset, .unset, .unset, .unset, .unset, .unset, .unset, .unset, .unset, .unset, .unset, .unset] [(.int r5), (.int (4 : Int32)), (.ref a1)])) rfl rfl (hb hby at_159)
              have Ks4 : Keep h0 hs4 [] := Ks3.wr Ws4 (Or.inr q1)
              have Ns4 := Fr.snoc Xs4 Ns3 g1a
              refine own_go sts4 ?_
              show own_R p.tables e below _ Ts4 (mkF m 160 #[.val (.int nn), .val (.int bits), .val (.int cc), .val (.int (5 : Int32)), .val (.int r1), .val (.int r2), .val (.int r3), .val (.int r4), .val (.int r5), .val (.ref a1), .unset, .unset, .unset, .unset, .unset, .unset, .unset, .unset, .unset, .unset, .unset, .unset, .unset, .unset] [])
              exact JM _ _ _ a1 k1 ([r1, r2, r3, r4, r5] : List Int32) Xs4 es4 Ns4 Ks4.1 g1a (Nat.le_of_ble_eq_true rfl) Vs4 ((own_st_app 0 ([r1, r2, r3, r4, r5] : List Int32) 1 0 FP.dconst0).symm) ((own_ok_app 0 ([r1, r2, r3, r4, r5] : List Int32) 1 0 FP.dconst0).symm)
          by_cases c4 : n < (5 : Int32)
          · show own_R p.tables e below _ T0 (mkF m 83 #[.val (.int nn), .val (.int bits), .val (.int cc), .val (.int n), .val (.int r1), .val (.int r2), .val (.int r3), .val (.int r4), .unset, .unset, .unset, .unset, .unset, .unset, .unset, .unset, .unset, .unset, .unset, .unset, .unset, .unset, .unset, .unset] [(.int (5 : Int32)), (.int n)])
            refine own_go (fun _ => XS.icmpYes X0.here hx rfl (pc0 := 83) (pc' := 97) rfl (hb hby at_83) rfl (tlt c4).1 (by decide) (by decide)) ?_
            show own_R p.tables e below _ T0 (mkF m 97 #[.val (.int nn), .val (.int bits), .val (.int cc), .val (.int n), .val (.int r1), .val (.int r2), .val (.int r3), .val (.int r4), .unset, .unset, .unset, .unset, .unset, .unset, .unset, .unset, .unset, .unset, .unset, .unset, .unset, .unset, .unset, .unset] [])
            refine own_go (fun _ => XS.iconst X0.here hx rfl (hb hby at_97)) ?_
            refine own_go (fun _ => XS.istore X0.here hx rfl (hb hby at_98) rfl (l' := #[.val (.int nn), .val (.int bits), .val (.int cc), .val (.int n), .val (.int r1), .val (.int r2), .val (.int r3), .val (.int r4), .val (.int (0 : Int32)), .unset, .unset, .unset, .unset, .unset, .unset, .unset, .unset, .unset, .unset, .unset, .unset, .unset, .unset, .unset]) rfl) ?_
            show own_R p.tables e below _ T0 (mkF m 100 #[.val (.int nn), .val (.int bits), .val (.int cc), .val (.int n), .val (.int r1), .val (.int r2), .val (.int r3), .val (.int r4), .val (.int (0 : Int32)), .unset, .unset, .unset, .unset, .unset, .unset, .unset, .unset, .unset, .unset, .unset, .unset, .unset, .unset, .unset] [])
            exact J4 _ (Or.inl rfl) (fun _ => rfl)
          · show own_R p.tables e below _ T0 (mkF m 83 #[.val (.int nn), .val (.int bits), .val (.int cc), .val (.int n), .val (.int r1), .val (.int r2), .val (.int r3), .val (.int r4), .unset, .unset, .unset, .unset, .unset, .unset, .unset, .unset, .unset, .unset, .unset, .unset, .unset, .unset, .unset, .unset] [(.int (5 : Int32)), (.int n)])
            refine own_go (fun _ => XS.icmpNo X0.here hx rfl (hb hby at_83) rfl (flt c4).1) ?_
            show own_R p.tables e below _ T0 (mkF m 86 #[.val (.int nn), .val (.int bits), .val (.int cc), .val (.int n), .val (.int r1), .val (.int r2), .val (.int r3), .val (.int r4), .unset, .unset, .unset, .unset, .unset, .unset, .unset, .unset, .unset, .unset, .unset, .unset, .unset, .unset, .unset, .unset] [])
            refine own_go (fun _ => XS.iloadN X0.here hx rfl (hb hby at_86) rfl ) ?_
            show own_R p.tables e below _ T0 (mkF m 87 #[.val (.int nn), .val (.int bits), .val (.int cc), .val (.int n), .val (.int r1), .val (.int r2), .val (.int r3), .val (.int r4), .unset, .unset, .unset, .unset, .unset, .unset, .unset, .unset, .unset, .unset, .unset, .unset, .unset, .unset, .unset, .unset] [(.int bits)])
            refine own_go (fun _ => XS.bipush X0.here hx rfl (hb hby at_87)) ?_
            show own_R p.tables e below _ T0 (mkF m 89 #[.val (.int nn), .val (.int bits), .val (.int cc), .val (.int n), .val (.int r1), .val (.int r2), .val (.int r3), .val (.int r4), .unset, .unset, .unset, .unset, .unset, .unset, .unset, .unset, .unset, .unset, .unset, .unset, .unset, .unset, .unset, .unset] [(.int (16 : Int32)), (.int bits)])
            refine own_go (fun _ => XS.iand X0.here hx rfl (hb hby at_89) rfl) ?_
            show own_R p.tables e below _ T0 (mkF m 90 #[.val (.int nn), .val (.int bits), .val (.int cc), .val (.int n), .val (.int r1), .val (.int r2), .val (.int r3), .val (.int r4), .unset, .unset, .unset, .unset, .unset, .unset, .unset, .unset, .unset, .unset, .unset, .unset, .unset, .unset, .unset, .unset] [(.int (bits &&& (16 : Int32)))])
            by_cases t4 : (bits &&& (16 : Int32)) = (0 : Int32)
            · show own_R p.tables e below _ T0 (mkF m 90 #[.val (.int nn), .val (.int bits), .val (.int cc), .val (.int n), .val (.int r1), .val (.int r2), .val (.int r3), .val (.int r4), .unset, .unset, .unset, .unset, .unset, .unset, .unset, .unset, .unset, .unset, .unset, .unset, .unset, .unset, .unset, .unset] [(.int (bits &&& (16 : Int32)))])
              refine own_go (fun _ => XS.ifYes X0.here hx rfl (pc0 := 90) (pc' := 97) rfl (hb hby at_90) rfl ((if0 _ _).trans (teq t4).1) (by decide) (by decide)) ?_
              show own_R p.tables e below _ T0 (mkF m 97 #[.val (.int nn), .val (.int bits), .val (.int cc), .val (.int n), .val (.int r1), .val (.int r2), .val (.int r3), .val (.int r4), .unset, .unset, .unset, .unset, .unset, .unset, .unset, .unset, .unset, .unset, .unset, .unset, .unset, .unset, .unset, .unset] [])
              refine own_go (fun _ => XS.iconst X0.here hx rfl (hb hby at_97)) ?_
              refine own_go (fun _ => XS.istore X0.here hx rfl (hb hby at_98) rfl (l' := #[.val (.int nn), .val (.int bits), .val (.int cc), .val (.int n), .val (.int r1), .val (.int r2), .val (.int r3), .val (.int r4), .val (.int (0 : Int32)), .unset, .unset, .unset, .unset, .unset, .unset, .unset, .unset, .unset, .unset, .unset, .unset, .unset, .unset, .unset]) rfl) ?_
              show own_R p.tables e below _ T0 (mkF m 100 #[.val (.int nn), .val (.int bits), .val (.int cc), .val (.int n), .val (.int r1), .val (.int r2), .val (.int r3), .val (.int r4), .val (.int (0 : Int32)), .unset, .unset, .unset, .unset, .unset, .unset, .unset, .unset, .unset, .unset, .unset, .unset, .unset, .unset, .unset] [])
              exact J4 _ (Or.inl rfl) (fun _ => rfl)
            · show own_R p.tables e below _ T0 (mkF m 90 #[.val (.int nn), .val (.int bits), .val (.int cc), .val (.int n), .val (.int r1), .val (.int r2), .val (.int r3), .val (.int r4), .unset, .unset, .unset, .unset, .unset, .unset, .unset, .unset, .unset, .unset, .unset, .unset, .unset, .unset, .unset, .unset] [(.int (bits &&& (16 : Int32)))])
              refine own_go (fun _ => XS.ifNo X0.here hx rfl (hb hby at_90) rfl ((if0 _ _).trans (feq t4).1)) ?_
              show own_R p.tables e below _ T0 (mkF m 93 #[.val (.int nn), .val (.int bits), .val (.int cc), .val (.int n), .val (.int r1), .val (.int r2), .val (.int r3), .val (.int r4), .unset, .unset, .unset, .unset, .unset, .unset, .unset, .unset, .unset, .unset, .unset, .unset, .unset, .unset, .unset, .unset] [])
              refine own_go (fun _ => XS.iconst X0.here hx rfl (hb hby at_93)) ?_
              refine own_go (fun _ => XS.goto X0.here hx rfl (pc0 := 94) (pc' := 98) rfl (hb hby at_94) (by decide) (by decide)) ?_
              refine own_go (fun _ => XS.istore X0.here hx rfl (hb hby at_98) rfl (l' := #[.val (.int nn), .val (.int bits), .val (.int cc), .val (.int n), .val (.int r1), .val (.int r2), .val (.int r3), .val (.int r4), .val (.int (1 : Int32)), .unset, .unset, .unset, .unset, .unset, .unset, .unset, .unset, .unset, .unset, .unset, .unset, .unset, .unset, .unset]) rfl) ?_
              show own_R p.tables e below _ T0 (mkF m 100 #[.val (.int nn), .val (.int bits), .val (.int cc), .val (.int n), .val (.int r1), .val (.int r2), .val (.int r3), .val (.int r4), .val (.int (1 : Int32)), .unset, .unset, .unset, .unset, .unset, .unset, .unset, .unset, .unset, .unset, .unset, .unset, .unset, .unset, .unset] [])
              exact J4 _ (Or.inr rfl) (fun q => absurd q c4)
        by_cases c3 : n < (4 : Int32)
        · show own_R p.tables e below _ T0 (mkF m 64 #[.val (.int nn), .val (.int bits), .val (.int cc), .val (.int n), .val (.int r1), .val (.int r2), .val (.int r3), .unset, .unset, .unset, .unset, .unset, .unset, .unset, .unset, .unset, .unset, .unset, .unset, .unset, .unset, .unset, .unset, .unset] [(.int (4 : Int32)), (.int n)])
          refine own_go (fun _ => XS.icmpYes X0.here hx rfl (pc0 := 64) (pc' := 78) rfl (hb hby at_64) rfl (tlt c3).1 (by decide) (by decide)) ?_
          show own_R p.tables e below _ T0 (mkF m 78 #[.val (.int nn), .val (.int bits), .val (.int cc), .val (.int n), .val (.int r1), .val (.int r2), .val (.int r3), .unset, .unset, .unset, .unset, .unset, .unset, .unset, .unset, .unset, .unset, .unset, .unset, .unset, .unset, .unset, .unset, .unset] [])
          refine own_go (fun _ => XS.iconst X0.here hx rfl (hb hby at_78)) ?_
          refine own_go (fun _ => XS.istore X0.here hx rfl (hb hby at_79) rfl (l' := #[.val (.int nn), .val (.int bits), .val (.int cc), .val (.int n), .val (.int r1), .val (.int r2), .val (.int r3), .val (.int (0 : Int32)), .unset, .unset, .unset, .unset, .unset, .unset, .unset, .unset, .unset, .unset, .unset, .unset, .unset, .unset, .unset, .unset]) rfl) ?_
          show own_R p.tables e below _ T0 (mkF m 81 #[.val (.int nn), .val (.int bits), .val (.int cc), .val (.int n), .val (.int r1), .val (.int r2), .val (.int r3), .val (.int (0 : Int32)), .unset, .unset, .unset, .unset, .unset, .unset, .unset, .unset, .unset, .unset, .unset, .unset, .unset, .unset, .unset, .unset] [])
          exact J3 _ (Or.inl rfl) (fun _ => rfl)
        · show own_R p.tables e below _ T0 (mkF m 64 #[.val (.int nn), .val (.int bits), .val (.int cc), .val (.int n), .val (.int r1), .val (.int r2), .val (.int r3), .unset, .unset, .unset, .unset, .unset, .unset, .unset, .unset, .unset, .unset, .unset, .unset, .unset, .unset, .unset, .unset, .unset] [(.int (4 : Int32)), (.int n)])
          refine own_go (fun _ => XS.icmpNo X0.here hx rfl (hb hby at_64) rfl (flt c3).1) ?_
          show own_R p.tables e below _ T0 (mkF m 67 #[.val (.int nn), .val (.int bits), .val (.int cc), .val (.int n), .val (.int r1), .val (.int r2), .val (.int r3), .unset, .unset, .unset, .unset, .unset, .unset, .unset, .unset, .unset, .unset, .unset, .unset, .unset, .unset, .unset, .unset, .unset] [])
          refine own_go (fun _ => XS.iloadN X0.here hx rfl (hb hby at_67) rfl ) ?_
          show own_R p.tables e below _ T0 (mkF m 68 #[.val (.int nn), .val (.int bits), .val (.int cc), .val (.int n), .val (.int r1), .val (.int r2), .val (.int r3), .unset, .unset, .unset, .unset, .unset, .unset, .unset, .unset, .unset, .unset, .unset, .unset, .unset, .unset, .unset, .unset, .unset] [(.int bits)])
          refine own_go (fun _ => XS.bipush X0.here hx rfl (hb hby at_68)) ?_
          show own_R p.tables e below _ T0 (mkF m 70 #[.val (.int nn), .val (.int bits), .val (.int cc), .val (.int n), .val (.int r1), .val (.int r2), .val (.int r3), .unset, .unset, .unset, .unset, .unset, .unset, .unset, .unset, .unset, .unset, .unset, .unset, .unset, .unset, .unset, .unset, .unset] [(.int (8 : Int32)), (.int bits)])
          refine own_go (fun _ => XS.iand X0.here hx rfl (hb hby at_70) rfl) ?_
          show own_R p.tables e below _ T0 (mkF m 71 #[.val (.int nn), .val (.int bits), .val (.int cc), .val (.int n), .val (.int r1), .val (.int r2), .val (.int r3), .unset, .unset, .unset, .unset, .unset, .unset, .unset, .unset, .unset, .unset, .unset, .unset, .unset, .unset, .unset, .unset, .unset] [(.int (bits &&& (8 : Int32)))])
          by_cases t3 : (bits &&& (8 : Int32)) = (0 : Int32)
          · show own_R p.tables e below _ T0 (mkF m 71 #[.val (.int nn), .val (.int bits), .val (.int cc), .val (.int n), .val (.int r1), .val (.int r2), .val (.int r3), .unset, .unset, .unset, .unset, .unset, .unset, .unset, .unset, .unset, .unset, .unset, .unset, .unset, .unset, .unset, .unset, .unset] [(.int (bits &&& (8 : Int32)))])
            refine own_go (fun _ => XS.ifYes X0.here hx rfl (pc0 := 71) (pc' := 78) rfl (hb hby at_71) rfl ((if0 _ _).trans (teq t3).1) (by decide) (by decide)) ?_
            show own_R p.tables e below _ T0 (mkF m 78 #[.val (.int nn), .val (.int bits), .val (.int cc), .val (.int n), .val (.int r1), .val (.int r2), .val (.int r3), .unset, .unset, .unset, .unset, .unset, .unset, .unset, .unset, .unset, .unset, .unset, .unset, .unset, .unset, .unset, .unset, .unset] [])
            refine own_go (fun _ => XS.iconst X0.here hx rfl (hb hby at_78)) ?_
            refine own_go (fun _ => XS.istore X0.here hx rfl (hb hby at_79) rfl (l' := #[.val (.int nn), .val (.int bits), .val (.int cc), .val (.int n), .val (.int r1), .val (.int r2), .val (.int r3), .val (.int (0 : Int32)), .unset, .unset, .unset, .unset, .unset, .unset, .unset, .unset, .unset, .unset, .unset, .unset, .unset, .unset, .unset, .unset]) rfl) ?_
            show own_R p.tables e below _ T0 (mkF m 81 #[.val (.int nn), .val (.int bits), .val (.int cc), .val (.int n), .val (.int r1), .val (.int r2), .val (.int r3), .val (.int (0 : Int32)), .unset, .unset, .unset, .unset, .unset, .unset, .unset, .unset, .unset, .unset, .unset, .unset, .unset, .unset, .unset, .unset] [])
            exact J3 _ (Or.inl rfl) (fun _ => rfl)
          · show own_R p.tables e below _ T0 (mkF m 71 #[.val (.int nn), .val (.int bits), .val (.int cc), .val (.int n), .val (.int r1), .val (.int r2), .val (.int r3), .unset, .unset, .unset, .unset, .unset, .unset, .unset, .unset, .unset, .unset, .unset, .unset, .unset, .unset, .unset, .unset, .unset] [(.int (bits &&& (8 : Int32)))])
            refine own_go (fun _ => XS.ifNo X0.here hx rfl (hb hby at_71) rfl ((if0 _ _).trans (feq t3).1)) ?_
            show own_R p.tables e below _ T0 (mkF m 74 #[.val (.int nn), .val (.int bits), .val (.int cc), .val (.int n), .val (.int r1), .val (.int r2), .val (.int r3), .unset, .unset, .unset, .unset, .unset, .unset, .unset, .unset, .unset, .unset, .unset, .unset, .unset, .unset, .unset, .unset, .unset] [])
            refine own_go (fun _ => XS.iconst X0.here hx rfl (hb hby at_74)) ?_
            refine own_go (fun _ => XS.goto X0.here hx rfl (pc0 := 75) (pc' := 79) rfl (hb hby at_75) (by decide) (by decide)) ?_
            refine own_go (fun _ => XS.istore X0.here hx rfl (hb hby at_79) rfl (l' := #[.val (.int nn), .val (.int bits), .val (.int cc), .val (.int n), .val (.int r1), .val (.int r2), .val (.int r3), .val (.int (1 : Int32)), .unset, .unset, .unset, .unset, .unset, .unset, .unset, .unset, .unset, .unset, .unset, .unset, .unset, .unset, .unset, .unset]) rfl) ?_
            show own_R p.tables e below _ T0 (mkF m 81 #[.val (.int nn), .val (.int bits), .val (.int cc), .val (.int n), .val (.int r1), .val (.int r2), .val (.int r3), .val (.int (1 : Int32)), .unset, .unset, .unset, .unset, .unset, .unset, .unset, .unset, .unset, .unset, .unset, .unset, .unset, .unset, .unset, .unset] [])
            exact J3 _ (Or.inr rfl) (fun q => absurd q c3)
      by_cases c2 : n < (3 : Int32)
      · show own_R p.tables e below _ T0 (mkF m 46 #[.val (.int nn), .val (.int bits), .val (.int cc), .val (.int n), .val (.int r1), .val (.int r2), .unset, .unset, .unset, .unset, .unset, .unset, .unset, .unset, .unset, .unset, .unset, .unset, .unset, .unset, .unset, .unset, .unset, .unset] [(.int (3 : Int32)), (.int n)])
        refine own_go (fun _ => XS.icmpYes X0.here hx rfl (pc0 := 46) (pc' := 59) rfl (hb hby at_46) rfl (tlt c2).1 (by decide) (by decide)) ?_
        show own_R p.tables e below _ T0 (mkF m 59 #[.val (.int nn), .val (.int bits), .val (.int cc), .val (.int n), .val (.int r1), .val (.int r2), .unset, .unset, .unset, .unset, .unset, .unset, .unset, .unset, .unset, .unset, .unset, .unset, .unset, .unset, .unset, .unset, .unset, .unset] [])
        refine own_go (fun _ => XS.iconst X0.here hx rfl (hb hby at_59)) ?_
        refine own_go (fun _ => XS.istore X0.here hx rfl (hb hby at_60) rfl (l' := #[.val (.int nn), .val (.int bits), .val (.int cc), .val (.int n), .val (.int r1), .val (.int r2), .val (.int (0 : Int32)), .unset, .unset, .unset, .unset, .unset, .unset, .unset, .unset, .unset, .unset, .unset, .unset, .unset, .unset, .unset, .unset, .unset]) rfl) ?_
        show own_R p.tables e below _ T0 (mkF m 62 #[.val (.int nn), .val (.int bits), .val (.int cc), .val (.int n), .val (.int r1), .val (.int r2), .val (.int (0 : Int32)), .unset, .unset, .unset, .unset, .unset, .unset, .unset, .unset, .unset, .unset, .unset, .unset, .unset, .unset, .unset, .unset, .unset] [])
        exact J2 _ (Or.inl rfl) (fun _ => rfl)
      · show own_R p.tables e below _ T0 (mkF m 46 #[.val (.int nn), .val (.int bits), .val (.int cc), .val (.int n), .val (.int r1), .val (.int r2), .unset, .unset, .unset, .unset, .unset, .unset, .unset, .unset, .unset, .unset, .unset, .unset, .unset, .unset, .unset, .unset, .unset, .unset] [(.int (3 : Int32)), (.int n)])
        refine own_go (fun _ => XS.icmpNo X0.here hx rfl (hb hby at_46) rfl (flt c2).1) ?_
        show own_R p.tables e below _ T0 (mkF m 49 #[.val (.int nn), .val (.int bits), .val (.int cc), .val (.int n), .val (.int r1), .val (.int r2), .unset, .unset, .unset, .unset, .unset, .unset, .unset, .unset, .unset, .unset, .unset, .unset, .unset, .unset, .unset, .unset, .unset, .unset] [])
        refine own_go (fun _ => XS.iloadN X0.here hx rfl (hb hby at_49) rfl ) ?_
        show own_R p.tables e below _ T0 (mkF m 50 #[.val (.int nn), .val (.int bits), .val (.int cc), .val (.int n), .val (.int r1), .val (.int r2), .unset, .unset, .unset, .unset, .unset, .unset, .unset, .unset, .unset, .unset, .unset, .unset, .unset, .unset, .unset, .unset, .unset, .unset] [(.int bits)])
        refine own_go (fun _ => XS.iconst X0.here hx rfl (hb hby at_50)) ?_
        show own_R p.tables e below _ T0 (mkF m 51 #[.val (.int nn), .val (.int bits), .val (.int cc), .val (.int n), .val (.int r1), .val (.int r2), .unset, .unset, .unset, .unset, .unset, .unset, .unset, .unset, .unset, .unset, .unset, .unset, .unset, .unset, .unset, .unset, .unset, .unset] [(.int (4 : Int32)), (.int bits)])
        refine own_go (fun _ => XS.iand X0.here hx rfl (hb hby at_51) rfl) ?_
        show own_R p.tables e below _ T0 (mkF m 52 #[.val (.int nn), .val (.int bits), .val (.int cc), .val (.int n), .val (.int r1), .val (.int r2), .unset, .unset, .unset, .unset, .unset, .unset, .unset, .unset, .unset, .unset, .unset, .unset, .unset, .unset, .unset, .unset, .unset, .unset] [(.int (bits &&& (4 : Int32)))])
        by_cases t2 : (bits &&& (4 : Int32)) = (0 : Int32)
        · show own_R p.tables e below _ T0 (mkF m 52 #[.val (.int nn), .val (.int bits), .val (.int cc), .val (.int n), .val (.int r1), .val (.int r2), .unset, .unset, .unset, .unset, .unset, .unset, .unset, .unset, .unset, .unset, .unset, .unset, .unset, .unset, .unset, .unset, .unset, .unset] [(.int (bits &&& (4 : Int32)))])
          refine own_go (fun _ => XS.ifYes X0.here hx rfl (pc0 := 52) (pc' := 59) rfl (hb hby at_52) rfl ((if0 _ _).trans (teq t2).1) (by decide) (by decide)) ?_
          show own_R p.tables e below _ T0 (mkF m 59 #[.val (.int nn), .val (.int bits), .val (.int cc), .val (.int n), .val (.int r1), .val (.int r2), .unset, .unset, .unset, .unset, .unset, .unset, .unset, .unset, .unset, .unset, .unset, .unset, .unset, .unset, .unset, .unset, .unset, .unset] [])
          refine own_go (fun _ => XS.iconst X0.here hx rfl (hb hby at_59)) ?_
          refine own_go (fun _ => XS.istore X0.here hx rfl (hb hby at_60) rfl (l' := #[.val (.int nn), .val (.int bits), .val (.int cc), .val (.int n), .val (.int r1), .val (.int r2), .val (.int (0 : Int32)), .unset, .unset, .unset, .unset, .unset, .unset, .unset, .unset, .unset, .unset, .unset, .unset, .unset, .unset, .unset, .unset, .unset]) rfl) ?_
          show own_R p.tables e below _ T0 (mkF m 62 #[.val (.int nn), .val (.int bits), .val (.int cc), .val (.int n), .val (.int r1), .val (.int r2), .val (.int (0 : Int32)), .unset, .unset, .unset, .unset, .unset, .unset, .unset, .unset, .unset, .unset, .unset, .unset, .unset, .unset, .unset, .unset, .unset] [])
          exact J2 _ (Or.inl rfl) (fun _ => rfl)
        · show own_R p.tables e below _ T0 (mkF m 52 #[.val (.int nn), .val (.int bits), .val (.int cc), .val (.int n), .val (.int r1), .val (.int r2), .unset, .unset, .unset, .unset, .unset, .unset, .unset, .unset, .unset, .unset, .unset, .unset, .unset, .unset, .unset, .unset, .unset, .unset] [(.int (bits &&& (4 : Int32)))])
          refine own_go (fun _ => XS.ifNo X0.here hx rfl (hb hby at_52) rfl ((if0 _ _).trans (feq t2).1)) ?_
          show own_R p.tables e below _ T0 (mkF m 55 #[.val (.int nn), .val (.int bits), .val (.int cc), .val (.int n), .val (.int r1), .val (.int r2), .unset, .unset, .unset, .unset, .unset, .unset, .unset, .unset, .unset, .unset, .unset, .unset, .unset, .unset, .unset, .unset, .unset, .unset] [])
          refine own_go (fun _ => XS.iconst X0.here hx rfl (hb hby at_55)) ?_
          refine own_go (fun _ => XS.goto X0.here hx rfl (pc0 := 56) (pc' := 60) rfl (hb hby at_56) (by decide) (by decide)) ?_
          refine own_go (fun _ => XS.istore X0.here hx rfl (hb hby at_60) rfl (l' := #[.val (.int nn), .val (.int bits), .val (.int cc), .val (.int n), .val (.int r1), .val (.int r2), .val (.int (1 : Int32)), .unset, .unset, .unset, .unset, .unset, .unset, .unset, .unset, .unset, .unset, .unset, .unset, .unset, .unset, .unset, .unset, .unset]) rfl) ?_
          show own_R p.tables e below _ T0 (mkF m 62 #[.val (.int nn), .val (.int bits), .val (.int cc), .val (.int n), .val (.int r1), .val (.int r2), .val (.int (1 : Int32)), .unset, .unset, .unset, .unset, .unset, .unset, .unset, .unset, .unset, .unset, .unset, .unset, .unset, .unset, .unset, .unset, .unset] [])
          exact J2 _ (Or.inr rfl) (fun q => absurd q c2)
    by_cases c1 : n < (2 : Int32)
    · show own_R p.tables e below _ T0 (mkF m 28 #[.val (.int nn), .val (.int bits), .val (.int cc), .val (.int n), .val (.int r1), .unset, .unset, .unset, .unset, .unset, .unset, .unset, .unset, .unset, .unset, .unset, .unset, .unset, .unset, .unset, .unset, .unset, .unset, .unset] [(.int (2 : Int32)), (.int n)])
      refine own_go (fun _ => XS.icmpYes X0.here hx rfl (pc0 := 28) (pc' := 41) rfl (hb hby at_28) rfl (tlt c1).1 (by decide) (by decide)) ?_
      show own_R p.tables e below _ T0 (mkF m 41 #[.val (.int nn), .val (.int bits), .val (.int cc), .val (.int n), .val (.int r1), .unset, .unset, .unset, .unset, .unset, .unset, .unset, .unset, .unset, .unset, .unset, .unset, .unset, .unset, .unset, .unset, .unset, .unset, .unset] [])
      refine own_go (fun _ => XS.iconst X0.here hx rfl (hb hby at_41)) ?_
      refine own_go (fun _ => XS.istore X0.here hx rfl (hb hby at_42) rfl (l' := #[.val (.int nn), .val (.int bits), .val (.int cc), .val (.int n), .val (.int r1), .val (.int (0 : Int32)), .unset, .unset, .unset, .unset, .unset, .unset, .unset, .unset, .unset, .unset, .unset, .unset, .unset, .unset, .unset, .unset, .unset, .unset]) rfl) ?_
      show own_R p.tables e below _ T0 (mkF m 44 #[.val (.int nn), .val (.int bits), .val (.int cc), .val (.int n), .val (.int r1), .val (.int (0 : Int32)), .unset, .unset, .unset, .unset, .unset, .unset, .unset, .unset, .unset, .unset, .unset, .unset, .unset, .unset, .unset, .unset, .unset, .unset] [])
      exact J1 _ (Or.inl rfl) (fun _ => rfl)
    · show own_R p.tables e below _ T0 (mkF m 28 #[.val (.int nn), .val (.int bits), .val (.int cc), .val (.int n), .val (.int r1), .unset, .unset, .unset, .unset, .unset, .unset, .unset, .unset, .unset, .unset, .unset, .unset, .unset, .unset, .unset, .unset, .unset, .unset, .unset] [(.int (2 : Int32)), (.int n)])
      refine own_go (fun _ => XS.icmpNo X0.here hx rfl (hb hby at_28) rfl (flt c1).1) ?_
      show own_R p.tables e below _ T0 (mkF m 31 #[.val (.int nn), .val (.int bits), .val (.int cc), .val (.int n), .val (.int r1), .unset, .unset, .unset, .unset, .unset, .unset, .unset, .unset, .unset, .unset, .unset, .unset, .unset, .unset, .unset, .unset, .unset, .unset, .unset] [])
      refine own_go (fun _ => XS.iloadN X0.here hx rfl (hb hby at_31) rfl ) ?_
      show own_R p.tables e below _ T0 (mkF m 32 #[.val (.int nn), .val (.int bits), .val (.int cc), .val (.int n), .val (.int r1), .unset, .unset, .unset, .unset, .unset, .unset, .unset, .unset, .unset, .unset, .unset, .unset, .unset, .unset, .unset, .unset, .unset, .unset, .unset] [(.int bits)])
      refine own_go (fun _ => XS.iconst X0.here hx rfl (hb hby at_32)) ?_
      show own_R p.tables e below _ T0 (mkF m 33 #[.val (.int nn), .val (.int bits), .val (.int cc), .val (.int n), .val (.int r1), .unset, .unset, .unset, .unset, .unset, .unset, .unset, .unset, .unset, .unset, .unset, .unset, .unset, .unset, .unset, .unset, .unset, .unset, .unset] [(.int (2 : Int32)), (.int bits)])
      refine own_go (fun _ => XS.iand X0.here hx rfl (hb hby at_33) rfl) ?_
      show own_R p.tables e below _ T0 (mkF m 34 #[.val (.int nn), .val (.int bits), .val (.int cc), .val (.int n), .val (.int r1), .unset, .unset, .unset, .unset, .unset, .unset, .unset, .unset, .unset, .unset, .unset, .unset, .unset, .unset, .unset, .unset, .unset, .unset, .unset] [(.int (bits &&& (2 : Int32)))])
      by_cases t1 : (bits &&& (2 : Int32)) = (0 : Int32)
      · show own_R p.tables e below _ T0 (mkF m 34 #[.val (.int nn), .val (.int bits), .val (.int cc), .val (.int n), .val (.int r1), .unset, .unset, .unset, .unset, .unset, .unset, .unset, .unset, .unset, .unset, .unset, .unset, .unset, .unset, .unset, .unset, .unset, .unset, .unset] [(.int (bits &&& (2 : Int32)))])
        refine own_go (fun _ => XS.ifYes X0.here hx rfl (pc0 := 34) (pc' := 41) rfl (hb hby at_34) rfl ((if0 _ _).trans (teq t1).1) (by decide) (by decide)) ?_
        show own_R p.tables e below _ T0 (mkF m 41 #[.val (.int nn), .val (.int bits), .val (.int cc), .val (.int n), .val (.int r1), .unset, .unset, .unset, .unset, .unset, .unset, .unset, .unset, .unset, .unset, .unset, .unset, .unset, .unset, .unset, .unset, .unset, .unset, .unset] [])
        refine own_go (fun _ => XS.iconst X0.here hx rfl (hb hby at_41)) ?_
        refine own_go (fun _ => XS.istore X0.here hx rfl (hb hby at_42) rfl (l' := #[.val (.int nn), .val (.int bits), .val (.int cc), .val (.int n), .val (.int r1), .val (.int (0 : Int32)), .unset, .unset, .unset, .unset, .unset, .unset, .unset, .unset, .unset, .unset, .unset, .unset, .unset, .unset, .unset, .unset, .unset, .unset]) rfl) ?_
        show own_R p.tables e below _ T0 (mkF m 44 #[.val (.int nn), .val (.int bits), .val (.int cc), .val (.int n), .val (.int r1), .val (.int (0 : Int32)), .unset, .unset, .unset, .unset, .unset, .unset, .unset, .unset, .unset, .unset, .unset, .unset, .unset, .unset, .unset, .unset, .unset, .unset] [])
        exact J1 _ (Or.inl rfl) (fun _ => rfl)
      · show own_R p.tables e below _ T0 (mkF m 34 #[.val (.int nn), .val (.int bits), .val (.int cc), .val (.int n), .val (.int r1), .unset, .unset, .unset, .unset, .unset, .unset, .unset, .unset, .unset, .unset, .unset, .unset, .unset, .unset, .unset, .unset, .unset, .unset, .unset] [(.int (bits &&& (2 : Int32)))])
        refine own_go (fun _ => XS.ifNo X0.here hx rfl (hb hby at_34) rfl ((if0 _ _).trans (feq t1).1)) ?_
        show own_R p.tables e below _ T0 (mkF m 37 #[.val (.int nn), .val (.int bits), .val (.int cc), .val (.int n), .val (.int r1), .unset, .unset, .unset, .unset, .unset, .unset, .unset, .unset, .unset, .unset, .unset, .unset, .unset, .unset, .unset, .unset, .unset, .unset, .unset] [])
        refine own_go (fun _ => XS.iconst X0.here hx rfl (hb hby at_37)) ?_
        refine own_go (fun _ => XS.goto X0.here hx rfl (pc0 := 38) (pc' := 42) rfl (hb hby at_38) (by decide) (by decide)) ?_
        refine own_go (fun _ => XS.istore X0.here hx rfl (hb hby at_42) rfl (l' := #[.val (.int nn), .val (.int bits), .val (.int cc), .val (.int n), .val (.int r1), .val (.int (1 : Int32)), .unset, .unset, .unset, .unset, .unset, .unset, .unset, .unset, .unset, .unset, .unset, .unset, .unset, .unset, .unset, .unset, .unset, .unset]) rfl) ?_
        show own_R p.tables e below _ T0 (mkF m 44 #[.val (.int nn), .val (.int bits), .val (.int cc), .val (.int n), .val (.int r1), .val (.int (1 : Int32)), .unset, .unset, .unset, .unset, .unset, .unset, .unset, .unset, .unset, .unset, .unset, .unset, .unset, .unset, .unset, .unset, .unset, .unset] [])
        exact J1 _ (Or.inr rfl) (fun q => absurd q c1)
  by_cases c0 : n < (1 : Int32)
  · show own_R p.tables e below _ T0 (mkF m 10 #[.val (.int nn), .val (.int bits), .val (.int cc), .val (.int n), .unset, .unset, .unset, .unset, .unset, .unset, .unset, .unset, .unset, .unset, .unset, .unset, .unset, .unset, .unset, .unset, .unset, .unset, .unset, .unset] [(.int (1 : Int32)), (.int n)])
    refine own_go (fun _ => XS.icmpYes X0.here hx rfl (pc0 := 10) (pc' := 23) rfl (hb hby at_10) rfl (tlt c0).1 (by decide) (by decide)) ?_
    show own_R p.tables e below _ T0 (mkF m 23 #[.val (.int nn), .val (.int bits), .val (.int cc), .val (.int n), .unset, .unset, .unset, .unset, .unset, .unset, .unset, .unset, .unset, .unset, .unset, .unset, .unset, .unset, .unset, .unset, .unset, .unset, .unset, .unset] [])
    refine own_go (fun _ => XS.iconst X0.here hx rfl (hb hby at_23)) ?_
    refine own_go (fun _ => XS.istore X0.here hx rfl (hb hby at_24) rfl (l' := #[.val (.int nn), .val (.int bits), .val (.int cc), .val (.int n), .val (.int (0 : Int32)), .unset, .unset, .unset, .unset, .unset, .unset, .unset, .unset, .unset, .unset, .unset, .unset, .unset, .unset, .unset, .unset, .unset, .unset, .unset]) rfl) ?_
    show own_R p.tables e below _ T0 (mkF m 26 #[.val (.int nn), .val (.int bits), .val (.int cc), .val (.int n), .val (.int (0 : Int32)), .unset, .unset, .unset, .unset, .unset, .unset, .unset, .unset, .unset, .unset, .unset, .unset, .unset, .unset, .unset, .unset, .unset, .unset, .unset] [])
    exact J0 _ (Or.inl rfl) (fun _ => rfl)
  · show own_R p.tables e below _ T0 (mkF m 10 #[.val (.int nn), .val (.int bits), .val (.int cc), .val (.int n), .unset, .unset, .unset, .unset, .unset, .unset, .unset, .unset, .unset, .unset, .unset, .unset, .unset, .unset, .unset, .unset, .unset, .unset, .unset, .unset] [(.int (1 : Int32)), (.int n)])
    refine own_go (fun _ => XS.icmpNo X0.here hx rfl (hb hby at_10) rfl (flt c0).1) ?_
    show own_R p.tables e below _ T0 (mkF m 13 #[.val (.int nn), .val (.int bits), .val (.int cc), .val (.int n), .unset, .unset, .unset, .unset, .unset, .unset, .unset, .unset, .unset, .unset, .unset, .unset, .unset, .unset, .unset, .unset, .unset, .unset, .unset, .unset] [])
    refine own_go (fun _ => XS.iloadN X0.here hx rfl (hb hby at_13) rfl ) ?_
    show own_R p.tables e below _ T0 (mkF m 14 #[.val (.int nn), .val (.int bits), .val (.int cc), .val (.int n), .unset, .unset, .unset, .unset, .unset, .unset, .unset, .unset, .unset, .unset, .unset, .unset, .unset, .unset, .unset, .unset, .unset, .unset, .unset, .unset] [(.int bits)])
    refine own_go (fun _ => XS.iconst X0.here hx rfl (hb hby at_14)) ?_
    show own_R p.tables e below _ T0 (mkF m 15 #[.val (.int nn), .val (.int bits), .val (.int cc), .val (.int n), .unset, .unset, .unset, .unset, .unset, .unset, .unset, .unset, .unset, .unset, .unset, .unset, .unset, .unset, .unset, .unset, .unset, .unset, .unset, .unset] [(.int (1 : Int32)), (.int bits)])
    refine own_go (fun _ => XS.iand X0.here hx rfl (hb hby at_15) rfl) ?_
    show own_R p.tables e below _ T0 (mkF m 16 #[.val (.int nn), .val (.int bits), .val (.int cc), .val (.int n), .unset, .unset, .unset, .unset, .unset, .unset, .unset, .unset, .unset, .unset, .unset, .unset, .unset, .unset, .unset, .unset, .unset, .unset, .unset, .unset] [(.int (bits &&& (1 : Int32)))])
    by_cases t0 : (bits &&& (1 : Int32)) = (0 : Int32)
    · show own_R p.tables e below _ T0 (mkF m 16 #[.val (.int nn), .val (.int bits), .val (.int cc), .val (.int n), .unset, .unset, .unset, .unset, .unset, .unset, .unset, .unset, .unset, .unset, .unset, .unset, .unset, .unset, .unset, .unset, .unset, .unset, .unset, .unset] [(.int (bits &&& (1 : Int32)))])
      refine own_go (fun _ => XS.ifYes X0.here hx rfl (pc0 := 16) (pc' := 23) rfl (hb hby at_16) rfl ((if0 _ _).trans (teq t0).1) (by decide) (by decide)) ?_
      show own_R p.tables e below _ T0 (mkF m 23 #[.val (.int nn), .val (.int bits), .val (.int cc), .val (.int n), .unset, .unset, .unset, .unset, .unset, .unset, .unset, .unset, .unset, .unset, .unset, .unset, .unset, .unset, .unset, .unset, .unset, .unset, .unset, .unset] [])
      refine own_go (fun _ => XS.iconst X0.here hx rfl (hb hby at_23)) ?_
      refine own_go (fun _ => XS.istore X0.here hx rfl (hb hby at_24) rfl (l' := #[.val (.int nn), .val (.int bits), .val (.int cc), .val (.int n), .val (.int (0 : Int32)), .unset, .unset, .unset, .unset, .unset, .unset, .unset, .unset, .unset, .unset, .unset, .unset, .unset, .unset, .unset, .unset, .unset, .unset, .unset]) rfl) ?_
      show own_R p.tables e below _ T0 (mkF m 26 #[.val (.int nn), .val (.int bits), .val (.int cc), .val (.int n), .val (.int (0 : Int32)), .unset, .unset, .unset, .unset, .unset, .unset, .unset, .unset, .unset, .unset, .unset, .unset, .unset, .unset, .unset, .unset, .unset, .unset, .unset] [])
      exact J0 _ (Or.inl rfl) (fun _ => rfl)
    · show own_R p.tables e below _ T0 (mkF m 16 #[.val (.int nn), .val (.int bits), .val (.int cc), .val (.int n), .unset, .unset, .unset, .unset, .unset, .unset, .unset, .unset, .unset, .unset, .unset, .unset, .unset, .unset, .unset, .unset, .unset, .unset, .unset, .unset] [(.int (bits &&& (1 : Int32)))])
      refine own_go (fun _ => XS.ifNo X0.here hx rfl (hb hby at_16) rfl ((if0 _ _).trans (feq t0).1)) ?_
      show own_R p.tables e below _ T0 (mkF m 19 #[.val (.int nn), .val (.int bits), .val (.int cc), .val (.int n), .unset, .unset, .unset, .unset, .unset, .unset, .unset, .unset, .unset, .unset, .unset, .unset, .unset, .unset, .unset, .unset, .unset, .unset, .unset, .unset] [])
      refine own_go (fun _ => XS.iconst X0.here hx rfl (hb hby at_19)) ?_
      refine own_go (fun _ => XS.goto X0.here hx rfl (pc0 := 20) (pc' := 24) rfl (hb hby at_20) (by decide) (by decide)) ?_
      refine own_go (fun _ => XS.istore X0.here hx rfl (hb hby at_24) rfl (l' := #[.val (.int nn), .val (.int bits), .val (.int cc), .val (.int n), .val (.int (1 : Int32)), .unset, .unset, .unset, .unset, .unset, .unset, .unset, .unset, .unset, .unset, .unset, .unset, .unset, .unset, .unset, .unset, .unset, .unset, .unset]) rfl) ?_
      show own_R p.tables e below _ T0 (mkF m 26 #[.val (.int nn), .val (.int bits), .val (.int cc), .val (.int n), .val (.int (1 : Int32)), .unset, .unset, .unset, .unset, .unset, .unset, .unset, .unset, .unset, .unset, .unset, .unset, .unset, .unset, .unset, .unset, .unset, .unset, .unset] [])
      exact J0 _ (Or.inr rfl) (fun q => absurd q c0)
set_option maxRecDepth 65536 in
set_option maxHeartbeats 40000000 in
theorem comes_1 {Post : Tables → Env → Array Value → State → Outcome → State → Prop} (hpost : ∀ tb e args s v u, (limb_1_1.after args s (.returned v) u = true ∧ limb_1_2.after args s (.returned v) u = true ∧ True) → FrameEnd s (.returned v) u (Jvm.fieldLocs frame_1_writes args s ++ Jvm.arrayLocs frame_1_arrays args s ++ Jvm.staticLocs frame_1_statics s) 16 128 → Post tb e args s (.returned v) u) :
    ArmFor flags0 classFile x code maxLocals ret World_1 tables_1 room_1 Calls_1 rest_1 Pre_1 Post := by
  intro l hfl _ _ p e ha hc hk s m args below hf hA hF happ hP
  obtain ⟨hcalls, hrest, hpre⟩ := hP
  obtain ⟨-, -, -, hnamed, -, -, -, hat⟩ := (Spec.applies_iff hf).mp happ
  obtain ⟨hg, hn⟩ := and_e (Cond.before_iff.mp (show (Jvm.Cond.and given_1 narrow_1).before args s = true from hpre))
  obtain ⟨gc, q0⟩ := and_e hg
  obtain ⟨g0, q1⟩ := and_e q0
  obtain ⟨g1, q2⟩ := and_e q1
  have g2 := q2
  obtain ⟨w0, w1, w2, rfl⟩ : ∃ w0 w1 w2 : Value, args = #[w0, w1, w2] := by
    have hs : args.size = 3 := by simpa [Cond.value, given_1] using gc
    obtain ⟨L⟩ := args
    match L, hs with
    | [w0, w1, w2], _ => exact ⟨w0, w1, w2, rfl⟩
  have hw := fun d (hd : d ∈ tables_1) => atoms_spec (ws := Jvm.Cond.code x code maxLocals ret :: tables_1) hat d (List.mem_cons_of_mem _ hd)
  have hfit : Fit s := fun {y c} hc i hi => by
    obtain ⟨ha, rfl⟩ := Array.getElem?_eq_some_iff.mp hc
    have q := List.all_eq_true.mp ((Array.all_eq_true_iff_forall_mem.mp hF) _ (Array.getElem_mem ha)) i (List.mem_range.mpr hi)
    simpa [Array.getElem?_eq_getElem hi] using q
  obtain ⟨i0, ei0⟩ := is_v g0
  obtain rfl : w0 = (.int i0) := Option.some.inj ei0
  obtain ⟨i1, ei1⟩ := is_v g1
  obtain rfl : w1 = (.int i1) := Option.some.inj ei1
  obtain ⟨i2, ei2⟩ := is_v g2
  obtain rfl : w2 = (.int i2) := Option.some.inj ei2
  obtain ⟨n, o, h1, h2, h3, _, L, rfl, ⟨rfl, N⟩, hq⟩ := rm0 l s _ hw tables_1 s.heap s.heap.size i0 i1 i2 (Nat.le_refl _) p e ha hc hk s m _ below hf ((Spec.applies_iff_loose hf).mp happ).1 ⟨rfl, State.Warmed39.refl s, rfl⟩ trivial
  refine ⟨n, _, h1, h2, h3, hpost _ _ _ _ _ _ ⟨Cond.after_iff.mpr rfl, Cond.after_iff.mpr (eq_i res_at (Term.int_eval (1)) rfl), trivial⟩ ⟨hq.1, hq.2.1, (hq.2.2.sift fun y hy => Or.inr (N y hy)).mono (by decide) (by decide)⟩⟩
theorem main_1_1 : Claimed_1_1 := comes_1 fun _ _ _ _ _ _ h hF => ⟨h.1, hF⟩
theorem main_1_2 : Claimed_1_2 := comes_1 fun _ _ _ _ _ _ h hF => ⟨h.2.1, hF⟩

end Jvm.Pilot.@@N@@
namespace Jvm.Pilot.@@N@@
open Jvm Jvm.ClassFile Sem Op Lib Jvm.Free Jvm.Stand Jvm.Pilot.@@N@@.Jvm.D
/-! MADE BY PROGRAM (witnessworld.py) out of the Statement's table words and the real class files: 11 classes; the members and pool entries that the words name. The judged class is class 1, her method 2. -/
namespace start1
open Jvm.ClassFile
def u (s : String) : CpInfo := .utf8 (stringToUtf16 s)
/-- a pool by its gaps: so many unusable entries, then the entry; so many at the end -/
def gap : Nat → List CpInfo → List CpInfo
  | 0, r => r
  | n + 1, r => .unusable :: gap n r
def poolList (es : List (Nat × CpInfo)) (last : Nat) : List CpInfo := es.foldr (fun e r => gap e.1 (e.2 :: r)) (gap last [])
def pool (es : List (Nat × CpInfo)) (last : Nat) : Array CpInfo := ⟨poolList es last⟩
def fileOf (pool : Array CpInfo) (this : Nat) (attrs : Array Attribute := #[]) (ms : Array MethodInfo := #[]) (fl : Nat := 33) (sup : Nat := 0) (ifs : Array Nat := #[]) (fds : Array FieldInfo := #[]) : ClassFile where
  minorVersion := 0
  majorVersion := 65
  constantPool := pool
  accessFlags := fl
  thisClass := this
  superClass := sup
  interfaces := ifs
  fields := fds
  methods := ms
  attributes := attrs
def plain (name : String) (sup : Option ClassId) : Class where
  name := name
  kind := .ordinary
  loader := none
  accessFlags := 33
  super := sup
  interfaces := #[]
  cf := none
  fields := #[]
  methods := #[]
  instanceTypes := #[]
  staticTypes := #[]
  resolved := #[]
  callSites := []
  init := .initialized
  statics := none
  mirror := none

def pool0 : Array CpInfo := pool [(5, u "<init>"), (0, u "()V"), (1, .class_ 10), (1, u "java/lang/Object")] 113

def k0c0 : Code := { maxStack := 0, maxLocals := 1, code := object_method_1_code, exceptionTable := #[], attributes := #[] }
def k0m0 : Method := { name := "<init>", desc := "()V", sig := { parameters := [], returnType := none }, accessFlags := 1, code := some k0c0 }
/-- java/lang/Object -/
def k0 : Class := { plain "java/lang/Object" none with
  accessFlags := 33
  interfaces := #[]
  cf := some (fileOf pool0 8 #[] #[{ accessFlags := 1, nameIndex := 5, descriptorIndex := 6, attributes := #[] }] 33 0 #[] #[])
  fields := #[]
  methods := #[k0m0]
  instanceTypes := #[]
  staticTypes := #[]
  resolved := Array.replicate 124 none
  statics := none }

def pool1 : Array CpInfo := pool [(2, .class_ 4), (1, u "java/lang/Object"), (0, u "<init>"), (0, u "()V"), (0, .integer 2147483647), (0, .integer 1073741823), (0, .class_ 10), (0, u "com/example/kookaburra/kookaburra/eval/Ranking"), (0, .methodref 9 12), (0, .nameAndType 5 13), (0, u "([ZI)V"), (0, .methodref 9 15), (0, .nameAndType 16 17), (0, u "averagePrecision"), (0, u "()D"), (0, .methodref 19 20), (0, .class_ 21), (0, .nameAndType 22 23), (0, u "com/example/kookaburra/kookaburra/eval/RankingAveragePrecisionPinLaw"), (0, u "term"), (0, u "(ZII)D"), (3, u "law"), (0, u "(III)Z")] 4

def k1m0 : Method := { name := "<init>", desc := "()V", sig := { parameters := [], returnType := none }, accessFlags := 2, code := none }
def k1c1 : Code := { maxStack := 4, maxLocals := 3, code := method_2_code, exceptionTable := #[], attributes := #[] }
def k1m1 : Method := { name := "term", desc := "(ZII)D", sig := { parameters := [.boolean, .int, .int], returnType := some .double }, accessFlags := 10, code := some k1c1 }
def k1c2 : Code := { maxStack := 5, maxLocals := 24, code := code, exceptionTable := #[], attributes := #[] }
def k1m2 : Method := { name := "law", desc := "(III)Z", sig := { parameters := [.int, .int, .int], returnType := some .boolean }, accessFlags := 9, code := some k1c2 }
/-- com/example/kookaburra/kookaburra/eval/RankingAveragePrecisionPinLaw -/
def k1 : Class := { plain "com/example/kookaburra/kookaburra/eval/RankingAveragePrecisionPinLaw" (some 0) with
  accessFlags := 49
  interfaces := #[]
  cf := some (fileOf pool1 19 #[] #[{ accessFlags := 2, nameIndex := 5, descriptorIndex := 6, attributes := #[] }, { accessFlags := 10, nameIndex := 22, descriptorIndex := 23, attributes := #[] }, { accessFlags := 9, nameIndex := 27, descriptorIndex := 28, attributes := #[] }] 49 2 #[] #[])
  fields := #[]
  methods := #[k1m0, k1m1, k1m2]
  instanceTypes := #[]
  staticTypes := #[]
  resolved := Array.replicate 33 none
  statics := none }

def pool2 : Array CpInfo := pool [(1, .methodref 2 3), (0, .class_ 4), (0, .nameAndType 5 6), (0, u "java/lang/Object"), (0, u "<init>"), (0, u "()V"), (0, .fieldref 8 9), (0, .class_ 10), (0, .nameAndType 11 12), (0, u "com/example/kookaburra/kookaburra/eval/Ranking"), (0, u "relevantAt"), (0, u "[Z"), (0, .fieldref 8 14), (0, .nameAndType 15 16), (0, u "relevantCount"), (0, u "I"), (10, u "([ZI)V"), (6, u "averagePrecision"), (0, u "()D")] 7

def k2c0 : Code := { maxStack := 2, maxLocals := 3, code := prog_7_method_1_code, exceptionTable := #[], attributes := #[] }
def k2m0 : Method := { name := "<init>", desc := "([ZI)V", sig := { parameters := [(.array .boolean), .int], returnType := none }, accessFlags := 0, code := some k2c0 }
def k2c1 : Code := { maxStack := 6, maxLocals := 5, code := prog_7_method_5_code, exceptionTable := #[], attributes := #[] }
def k2m1 : Method := { name := "averagePrecision", desc := "()D", sig := { parameters := [], returnType := some .double }, accessFlags := 0, code := some k2c1 }
/-- com/example/kookaburra/kookaburra/eval/Ranking -/
def k2 : Class := { plain "com/example/kookaburra/kookaburra/eval/Ranking" (some 0) with
  accessFlags := 48
  interfaces := #[]
  cf := some (fileOf pool2 8 #[] #[{ accessFlags := 0, nameIndex := 5, descriptorIndex := 27, attributes := #[] }, { accessFlags := 0, nameIndex := 34, descriptorIndex := 35, attributes := #[] }] 48 2 #[] #[{ accessFlags := 18, nameIndex := 11, descriptorIndex := 12, attributes := #[] }, { accessFlags := 18, nameIndex := 15, descriptorIndex := 16, attributes := #[] }])
  fields := #[{ name := "relevantAt", type := (.array .boolean), accessFlags := 18, slot := 0, constantValue := 0 }, { name := "relevantCount", type := .int, accessFlags := 18, slot := 1, constantValue := 0 }]
  methods := #[k2m0, k2m1]
  instanceTypes := #[(.array .boolean), .int]
  staticTypes := #[]
  resolved := Array.replicate 43 none
  statics := none }

def pool3 : Array CpInfo := pool [(1, u "java/lang/Cloneable"), (0, .class_ 1), (0, u "java/lang/Object"), (0, .class_ 3)] 3

/-- java/lang/Cloneable -/
def k3 : Class := { plain "java/lang/Cloneable" (some 0) with
  accessFlags := 1537
  interfaces := #[]
  cf := some (fileOf pool3 2 #[] #[] 1537 4 #[] #[])
  fields := #[]
  methods := #[]
  instanceTypes := #[]
  staticTypes := #[]
  resolved := Array.replicate 8 none
  statics := none }

def pool4 : Array CpInfo := pool [(1, u "java/io/Serializable"), (0, .class_ 1), (0, u "java/lang/Object"), (0, .class_ 3)] 3

/-- java/io/Serializable -/
def k4 : Class := { plain "java/io/Serializable" (some 0) with
  accessFlags := 1537
  interfaces := #[]
  cf := some (fileOf pool4 2 #[] #[] 1537 4 #[] #[])
  fields := #[]
  methods := #[]
  instanceTypes := #[]
  staticTypes := #[]
  resolved := Array.replicate 8 none
  statics := none }

/-- the primitive boolean -/
def k5 : Class := { plain "boolean" none with kind := .primitive 'Z', accessFlags := 0x411 }
/-- [Z -/
def k6 : Class := { plain "[Z" (some 0) with kind := .array 5 .boolean, interfaces := #[3, 4], accessFlags := 1041 }

/-- the primitive byte -/
def k7 : Class := { plain "byte" none with kind := .primitive 'B', accessFlags := 0x411 }
/-- [B -/
def k8 : Class := { plain "[B" (some 0) with kind := .array 7 .byte, interfaces := #[3, 4], accessFlags := 1041 }

/-- the primitive int -/
def k9 : Class := { plain "int" none with kind := .primitive 'I', accessFlags := 0x411 }
/-- [I -/
def k10 : Class := { plain "[I" (some 0) with kind := .array 9 .int, interfaces := #[3, 4], accessFlags := 1041 }

def heap : Heap := #[]
def classes : Array Class := #[k0, k1, k2, k3, k4, k5, k6, k7, k8, k9, k10]
def interned : List (Array UInt16 × Addr) := []
def slotsUsed : Nat := 0
def theMethod : MethodId := ⟨1, 2⟩
def args0 : Array Value := #[.int 1, .int 2, .int 3]
def aboutOver (below : List Frame) : State where
  vm := { classes := classes, interned := interned.toArray }
  heap := heap
  slotsUsed := slotsUsed
  threads := #[{ frames := .invoking theMethod args0 :: below }]
def below0 : List Frame := [.native { method := ⟨0, 0⟩, args := #[] }]
def about1 : State := aboutOver below0
def p0 : Program := .bare "" "" ""
def e0 : Env := launch0.env 0 0 0
theorem w_frames : about1.frames = Frame.invoking theMethod args0 :: below0 := rfl
set_option maxRecDepth 65536 in
theorem w_args : argsFit about1.vm theMethod args0 = true := by decide +kernel
set_option maxRecDepth 65536 in
theorem w_heap : heapFits about1 = true := by decide +kernel
set_option maxRecDepth 65536 in
theorem w_runnable : about1.curStatus? = some .runnable := by decide +kernel
set_option maxRecDepth 65536 in
theorem w_alone : about1.alone = true := by decide +kernel
set_option maxRecDepth 65536 in
theorem w_named : about1.methodNamed? x = some theMethod := by decide +kernel
set_option maxRecDepth 65536 in
theorem w_hears : about1.hears theMethod below0 = true := by decide +kernel
set_option maxRecDepth 65536 in
theorem w_ripe : about1.ripe theMethod args0 below0 = true := by decide +kernel
theorem w_running : about1.status = .running := rfl
set_option maxRecDepth 65536 in
theorem w_room : about1.hasRoom e0.platform room_1 = true :=
  launch0.hasRoom_least _ room_1 (by decide +kernel) (by decide +kernel) (by decide +kernel) (by decide +kernel) (by decide +kernel) (by decide +kernel)
theorem allAtoms_all (ts : List Jvm.Cond) (a : Array Jvm.Value) (st : Jvm.State) : (allAtoms ts).before a st = ts.all (fun c => c.before a st) := by
  induction ts with
  | nil => rfl
  | cons c t ih =>
    show (Jvm.Cond.and c (allAtoms t)).before a st = _
    rw [Jvm.Cond.before_and, ih, List.all_cons]
def words1 : List Jvm.Cond := Jvm.Cond.code x code maxLocals ret :: tables_1
/-- a 'code' word, met by the world's own term for the bytes: nothing is compared byte by byte -/
theorem code_word {y : MethodName} {bytes : ByteArray} {mx : Nat} {rt : Option FieldType} {a : Array Value} {s : State} {m : MethodId} {meth : Method} {c : Code} (h1 : s.methodNamed? y = some m) (h2 : s.vm.method? m = some meth) (h3 : meth.code = some c) (h4 : c.code = bytes)
    (h5 : (c.maxLocals == mx && c.exceptionTable.isEmpty && decide (c.maxStack ≤ mostOperands) && decide (meth.sig.returnType = rt) && !meth.locks && decide (parseMethodDescriptor y.desc = some meth.sig)) = true) : (Jvm.Cond.code y bytes mx rt).before a s = true := by
  simp only [Bool.and_eq_true, beq_iff_eq, Bool.not_eq_true', decide_eq_true_eq] at h5
  obtain ⟨⟨⟨⟨⟨g1, g2⟩, g3⟩, g4⟩, g5⟩, g6⟩ := h5
  simp [Cond.before, Cond.holds, Cond.value, h1, h2, h3, h4, g1, g2, g3, g4, g5, g6]
def isCode : Jvm.Cond → Bool
  | .code _ _ _ _ => true
  | _ => false
theorem all_split {L : List Jvm.Cond} {P : Jvm.Cond → Bool} (h1 : L.all (fun c => isCode c || P c) = true) (h2 : ∀ c ∈ L.filter isCode, P c = true) : L.all P = true := by
  refine List.all_eq_true.mpr fun c hc => ?_
  have h := List.all_eq_true.mp h1 c hc
  rcases Bool.eq_false_or_eq_true (isCode c) with hi | hi
  · exact h2 c (List.mem_filter.mpr ⟨hc, hi⟩)
  · simpa [hi] using h
set_option maxRecDepth 65536 in
theorem w_c0 : (Jvm.Cond.code x code maxLocals ret).before args0 about1 = true := code_word (m := ⟨1, 2⟩) (meth := k1m2) (c := k1c2) (by decide +kernel) rfl rfl rfl (by decide +kernel)
set_option maxRecDepth 65536 in
theorem w_c1 : (Jvm.Cond.code ({ cls := "com/example/kookaburra/kookaburra/eval/Ranking", name := "<init>", desc := "([ZI)V" } : Jvm.MethodName) prog_7_method_1_code (3 : Nat) (Option.none : Option Jvm.ClassFile.FieldType)).before args0 about1 = true := code_word (m := ⟨2, 0⟩) (meth := k2m0) (c := k2c0) (by decide +kernel) rfl rfl rfl (by decide +kernel)
set_option maxRecDepth 65536 in
theorem w_c2 : (Jvm.Cond.code ({ cls := "java/lang/Object", name := "<init>", desc := "()V" } : Jvm.MethodName) object_method_1_code (1 : Nat) (Option.none : Option Jvm.ClassFile.FieldType)).before args0 about1 = true := code_word (m := ⟨0, 0⟩) (meth := k0m0) (c := k0c0) (by decide +kernel) rfl rfl rfl (by decide +kernel)
set_option maxRecDepth 65536 in
theorem w_c3 : (Jvm.Cond.code ({ cls := "com/example/kookaburra/kookaburra/eval/Ranking", name := "averagePrecision", desc := "()D" } : Jvm.MethodName) prog_7_method_5_code (5 : Nat) (Option.some Jvm.ClassFile.FieldType.double)).before args0 about1 = true := code_word (m := ⟨2, 1⟩) (meth := k2m1) (c := k2c1) (by decide +kernel) rfl rfl rfl (by decide +kernel)
set_option maxRecDepth 65536 in
theorem w_c4 : (Jvm.Cond.code ({ cls := "com/example/kookaburra/kookaburra/eval/RankingAveragePrecisionPinLaw", name := "term", desc := "(ZII)D" } : Jvm.MethodName) method_2_code (3 : Nat) (Option.some Jvm.ClassFile.FieldType.double)).before args0 about1 = true := code_word (m := ⟨1, 1⟩) (meth := k1m1) (c := k1c1) (by decide +kernel) rfl rfl rfl (by decide +kernel)
def codes1 : List Jvm.Cond := [Jvm.Cond.code x code maxLocals ret, Jvm.Cond.code ({ cls := "com/example/kookaburra/kookaburra/eval/Ranking", name := "<init>", desc := "([ZI)V" } : Jvm.MethodName) prog_7_method_1_code (3 : Nat) (Option.none : Option Jvm.ClassFile.FieldType), Jvm.Cond.code ({ cls := "java/lang/Object", name := "<init>", desc := "()V" } : Jvm.MethodName) object_method_1_code (1 : Nat) (Option.none : Option Jvm.ClassFile.FieldType), Jvm.Cond.code ({ cls := "com/example/kookaburra/kookaburra/eval/Ranking", name := "averagePrecision", desc := "()D" } : Jvm.MethodName) prog_7_method_5_code (5 : Nat) (Option.some Jvm.ClassFile.FieldType.double), Jvm.Cond.code ({ cls := "com/example/kookaburra/kookaburra/eval/RankingAveragePrecisionPinLaw", name := "term", desc := "(ZII)D" } : Jvm.MethodName) method_2_code (3 : Nat) (Option.some Jvm.ClassFile.FieldType.double)]
set_option maxRecDepth 65536 in
theorem codes_eq : words1.filter isCode = codes1 := rfl
theorem w_codes : ∀ c ∈ words1.filter isCode, c.before args0 about1 = true := by
  rw [codes_eq]
  intro c hc
  simp only [codes1, List.mem_cons, List.not_mem_nil, or_false] at hc
  rcases hc with rfl | rfl | rfl | rfl | rfl
  · exact w_c0
  · exact w_c1
  · exact w_c2
  · exact w_c3
  · exact w_c4
set_option maxRecDepth 65536 in
theorem w_t1 : (words1.take 24).all (fun c => isCode c || c.before args0 about1) = true := by decide +kernel
set_option maxRecDepth 65536 in
theorem w_t2 : (words1.drop 24).all (fun c => isCode c || c.before args0 about1) = true := by decide +kernel
theorem w_tables : (allAtoms (Jvm.Cond.code x code maxLocals ret :: tables_1)).before args0 about1 = true := by
  rw [allAtoms_all]
  show words1.all (fun c => c.before args0 about1) = true
  refine all_split ?_ w_codes
  rw [← List.take_append_drop 24 words1, List.all_append, w_t1, w_t2]
  rfl
set_option maxRecDepth 65536 in
theorem w_case : (Jvm.Cond.and given_1 narrow_1).before args0 about1 = true := by decide +kernel
theorem w_applies : (headSpec (Jvm.Cond.code x code maxLocals ret :: tables_1) room_1).applies x e0.platform about1 = true :=
  (Spec.applies_iff w_frames).mpr ⟨w_running, w_runnable, w_alone, w_named, w_hears, w_ripe, w_room, w_tables⟩
theorem atStart : AtStart classFile x code maxLocals ret World_1 tables_1 room_1 Calls_1 rest_1 Pre_1 launch0 p0 e0 about1 theMethod args0 below0 :=
  ⟨lists_1, trivial, launch0.admits_env _ _ _, launch0.least_env, fairChoices_fair.cas, fairChoices_fair.clock, w_frames, w_args, w_heap, w_applies, trivial, trivial, w_case⟩
end start1
theorem witness_1 : WitnessClaimed_1 := ⟨start1.p0, start1.e0, start1.about1, start1.theMethod, start1.args0, start1.below0, start1.atStart⟩
end Jvm.Pilot.@@N@@
