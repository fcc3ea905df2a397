import JvmDerived
import JvmDerived.Pilot.@@N@@Statement
import JvmDerived.Pilot.@@N@@Code
set_option linter.unusedVariables false
set_option linter.unusedSimpArgs false
namespace Jvm.Pilot.@@N@@
open Jvm Jvm.ClassFile Sem Op Lib Jvm.Free Jvm.Stand Jvm.LawKit Jvm.RoadKit Bundle Jvm.Pilot.@@N@@.Jvm.D

section OwnKit
variable {p : Program} {l : Launch} {e : Env} {R : Room} {s : State} {m : MethodId} {args : Array Value} {below : List Frame} {meth : Method} {c : Code} {T : State} {locs : List Loc} {cells slots : Nat} {Z : State} {a0 : Array Value} {h : Heap}
/-- from T at frame F the walk reaches a state that P holds of -/
def own_R (tb : Tables) (e : Env) (below : List Frame) (P : State → Prop) (T : State) (F : JFrame) : Prop := ∃ t, Steps tb e below (T.setTop F) t ∧ P t
theorem own_go {tb : Tables} {e : Env} {below : List Frame} {P : State → Prop} {T T' : State} {F F' : JFrame} (h : ∀ t, Steps tb e below (T'.setTop F') t → Steps tb e below (T.setTop F) t) (r : own_R tb e below P T' F') : own_R tb e below P T F := by
  obtain ⟨t, a, b⟩ := r
  exact ⟨t, h t a, b⟩
/-- what a body's end must meet -/
def own_E (s : State) (below : List Frame) (Q : Option Value → Heap → List Loc → Prop) (C N : Nat) (t : State) : Prop := ∃ v L, t.status = .running ∧ Ended t below (.returned v) ∧ Q v t.heap L ∧ FrameEnd s (.returned v) t L C N
/-- a body's contract -/
abbrev own_C (l : Launch) (Z : State) (y : MethodName) (bytes : ByteArray) (ml : Nat) (ret : Option FieldType) (ws : List Jvm.Cond) (rm : Room) (as : Array Value) (h0 : Heap) (Q : Option Value → Heap → List Loc → Prop) : Prop :=
  MetFree l y (head1 (Jvm.Cond.code y bytes ml ret :: ws) rm) (fun a U => a = as ∧ Z.Warmed39 U.vm ∧ U.heap = h0) (fun _ _ _ _ _ => True) (fun _ U o U' => ∃ v L, o = .returned v ∧ Q v U'.heap L ∧ FrameEnd U o U' L rm.cells rm.slots)
theorem own_body {y : MethodName} {bytes : ByteArray} {ml : Nat} {ret : Option FieldType} {ws : List Jvm.Cond} {rm : Room} {as : Array Value} {h0 : Heap} {Q : Option Value → Heap → List Loc → Prop} {ls : Array Slot}
    (hy : plainFor y = true) (hef : ∀ m, entryFrame m as ml = mkF m 0 ls [])
    (H : ∀ (p : Program) (e : Env) (s : State) (m : MethodId) (below : List Frame) (meth : Method) (c : Code) (T : State), Z.Warmed39 s.vm → p.tables.exec = Jvm.exec → c.code = bytes → c.maxLocals = ml → s.vm.findClass y.cls = some m.cls → meth.name = y.name → meth.sig.returnType = ret → meth.locks = false →
      Stand p l e rm s m as below meth c T [] 0 0 → T.heap = h0 → own_R p.tables e below (own_E s below Q rm.cells rm.slots) T (mkF m 0 ls [])) :
    own_C l Z y bytes ml ret ws rm as h0 Q := by
  refine MetFree.of_bodySF hy hisR ?_
  intro p e s m args below meth c s₁ Bd hml0 hP hK
  obtain ⟨rfl, hZ, hh⟩ := hP
  obtain ⟨t, st, v, L, h1, h2, h3, h4⟩ := H p e s m below meth c s₁ hZ Bd.exec Bd.bytes hml0 (findClass_of_methodNamed Bd.named) (name_of_methodNamed Bd.named Bd.method).1 Bd.returns Bd.notSynchronized (Stand.of_body Bd) (by rw [← hh, Bd.state]; rfl)
  exact ⟨t, _, castTop (hef m) st, h1, h2, v, L, rfl, h3, h4⟩
theorem own_end {Q : Option Value → Heap → List Loc → Prop} {C N : Nat} {F : JFrame} (X : Stand p l e R s m args below meth c T locs cells slots) (v : Option Value) (hv : meth.sig.returnType = none → v = none) (hlk : meth.locks = false)
    (hst : ∀ fs, (∀ (f : JFrame) (acts : List Action), f.method = m → f.locked = none → f.entered = [] → (doReturn e (T.setTop f) acts v).1 = T.setFrames fs) → Steps p.tables e below (T.setTop F) (T.setFrames fs))
    (hQ : Q v T.heap locs) (hc : cells ≤ C) (hn : slots ≤ N) : own_R p.tables e below (own_E s below Q C N) T F := by
  obtain ⟨fs, hr, hrun, hended, hW, hsame⟩ := X.leave (v := v) hv hlk
  exact ⟨_, hst fs hr, v, locs, hrun, hended, hQ, ⟨_, rfl⟩, hW, hsame.mono hc hn⟩
theorem own_retI (X : Stand p l e R s m args below meth c T locs cells slots) (hx : p.tables.exec = Jvm.exec) {pc : Nat} {Ls : Array Slot} {z : Int32} {rest : List Value} (hret : meth.sig.returnType = some .int) (hd : decode c.code pc = .ok (.ireturn, 1)) {fs : List Frame}
    (hl : ∀ (f : JFrame) (acts : List Action), f.method = m → f.locked = none → f.entered = [] → (doReturn e (T.setTop f) acts (some (.int z))).1 = T.setFrames fs) : Steps p.tables e below (T.setTop (mkF m pc Ls (.int z :: rest))) (T.setFrames fs) := by
  have hm' : T.vm.method? m = some meth := X.method'
  have hn : narrow .int (.int z) = .int z := rfl
  show Steps p.tables e below (T.setTop { method := m, pc := pc, locals := Ls, stack := _ :: rest, locked := none }) _
  jvm_step X.here [X.here.top, hx, hd, hm', hret, hn]
  first | (intro acts; rw [hl _ acts rfl rfl rfl]) | rw [hl _ _ rfl rfl rfl]
  exact Steps.refl _
theorem own_retJ (X : Stand p l e R s m args below meth c T locs cells slots) (hx : p.tables.exec = Jvm.exec) {pc : Nat} {Ls : Array Slot} {z : Int64} {rest : List Value} (hret : meth.sig.returnType = some .long) (hd : decode c.code pc = .ok (.lreturn, 1)) {fs : List Frame}
    (hl : ∀ (f : JFrame) (acts : List Action), f.method = m → f.locked = none → f.entered = [] → (doReturn e (T.setTop f) acts (some (.long z))).1 = T.setFrames fs) : Steps p.tables e below (T.setTop (mkF m pc Ls (.long z :: rest))) (T.setFrames fs) := by
  have hm' : T.vm.method? m = some meth := X.method'
  have hn : narrow .long (.long z) = .long z := rfl
  show Steps p.tables e below (T.setTop { method := m, pc := pc, locals := Ls, stack := _ :: rest, locked := none }) _
  jvm_step X.here [X.here.top, hx, hd, hm', hret, hn]
  first | (intro acts; rw [hl _ acts rfl rfl rfl]) | rw [hl _ _ rfl rfl rfl]
  exact Steps.refl _
theorem own_retD (X : Stand p l e R s m args below meth c T locs cells slots) (hx : p.tables.exec = Jvm.exec) {pc : Nat} {Ls : Array Slot} {z : UInt64} {rest : List Value} (hret : meth.sig.returnType = some .double) (hd : decode c.code pc = .ok (.dreturn, 1)) {fs : List Frame}
    (hl : ∀ (f : JFrame) (acts : List Action), f.method = m → f.locked = none → f.entered = [] → (doReturn e (T.setTop f) acts (some (.double z))).1 = T.setFrames fs) : Steps p.tables e below (T.setTop (mkF m pc Ls (.double z :: rest))) (T.setFrames fs) := by
  have hm' : T.vm.method? m = some meth := X.method'
  have hn : narrow .double (.double z) = .double z := rfl
  show Steps p.tables e below (T.setTop { method := m, pc := pc, locals := Ls, stack := _ :: rest, locked := none }) _
  jvm_step X.here [X.here.top, hx, hd, hm', hret, hn]
  first | (intro acts; rw [hl _ acts rfl rfl rfl]) | rw [hl _ _ rfl rfl rfl]
  exact Steps.refl _
theorem own_retA (X : Stand p l e R s m args below meth c T locs cells slots) (hx : p.tables.exec = Jvm.exec) {pc : Nat} {Ls : Array Slot} {z : Value} {t : FieldType} {rest : List Value} (hret : meth.sig.returnType = some t) (ht : t.isReference = true) (hz : z.isRef = true) (hd : decode c.code pc = .ok (.areturn, 1)) {fs : List Frame}
    (hl : ∀ (f : JFrame) (acts : List Action), f.method = m → f.locked = none → f.entered = [] → (doReturn e (T.setTop f) acts (some z)).1 = T.setFrames fs) : Steps p.tables e below (T.setTop (mkF m pc Ls (z :: rest))) (T.setFrames fs) := by
  have hm' : T.vm.method? m = some meth := X.method'
  show Steps p.tables e below (T.setTop { method := m, pc := pc, locals := Ls, stack := _ :: rest, locked := none }) _
  jvm_step X.here [X.here.top, hx, hd, hm', hret, ht, hz]
  first | (intro acts; rw [hl _ acts rfl rfl rfl]) | rw [hl _ _ rfl rfl rfl]
  exact Steps.refl _
theorem own_len {a : Addr} {k : ClassId} {ty : FieldType} {n : Int32} {vs : List Value} {d : Value} (X : Stand p l e R s m args below meth c T locs cells slots) (hx : p.tables.exec = Jvm.exec) (hZ : Z.Warmed39 s.vm) (eT : T.heap = h) (V : Arv Z h a k ty n vs d)
    {g : JFrame} (hg : g.method = m) {rest : List Value} (hs : g.stack = .ref a :: rest) (hd : decode c.code g.pc = .ok (.arraylength, 1)) :
    ∀ t, Steps p.tables e below (T.setTop { g with pc := g.pc + 1, stack := .int n :: rest }) t → Steps p.tables e below (T.setTop g) t := by
  obtain ⟨cl, Ar, -, S, N, -, -⟩ := V
  intro t st
  refine X.arraylength hx (by rw [eT]; exact Ar.1) (State.isArrayOf_alike hZ.alike Ar.2.1) hg hs hd t ?_
  rw [len_of S N]
  exact st
theorem own_ldD {a : Addr} {k : ClassId} {n j : Int32} {vs : List Value} {d v : Value} (X : Stand p l e R s m args below meth c T locs cells slots) (hx : p.tables.exec = Jvm.exec) (hZ : Z.Warmed39 s.vm) (eT : T.heap = h) (V : Arv Z h a k .double n vs d) (hj : ¬ j < 0 ∧ j < n) (hv : vs.getD j.toNatClampNeg d = v)
    {g : JFrame} (hg : g.method = m) {rest : List Value} (hs : g.stack = .int j :: .ref a :: rest) (hd : decode c.code g.pc = .ok (.daload, 1)) :
    ∀ t, Steps p.tables e below (T.setTop { g with pc := g.pc + 1, stack := v :: rest }) t → Steps p.tables e below (T.setTop g) t := by
  obtain ⟨cl, Ar, -, S, N, H, -⟩ := V
  intro t st
  exact X.daload hx (by rw [eT]; exact Ar.1) (State.isArrayOf_alike hZ.alike Ar.2.1) Ar.2.2 (inb_of S hj) (H.at (inb_of S hj) hv) hg hs hd t st
theorem own_ldZ {a : Addr} {k : ClassId} {n j : Int32} {vs : List Value} {d v : Value} (X : Stand p l e R s m args below meth c T locs cells slots) (hx : p.tables.exec = Jvm.exec) (hZ : Z.Warmed39 s.vm) (eT : T.heap = h) (V : Arv Z h a k .boolean n vs d) (hj : ¬ j < 0 ∧ j < n) (hv : vs.getD j.toNatClampNeg d = v)
    {g : JFrame} (hg : g.method = m) {rest : List Value} (hs : g.stack = .int j :: .ref a :: rest) (hd : decode c.code g.pc = .ok (.baload, 1)) :
    ∀ t, Steps p.tables e below (T.setTop { g with pc := g.pc + 1, stack := v :: rest }) t → Steps p.tables e below (T.setTop g) t := by
  obtain ⟨cl, Ar, -, S, N, H, -⟩ := V
  intro t st
  exact X.baloadBooleans hx (by rw [eT]; exact Ar.1) (State.isArrayOf_alike hZ.alike Ar.2.1) Ar.2.2 (inb_of S hj) (H.at (inb_of S hj) hv) hg hs hd t st
theorem own_stD {a : Addr} {k : ClassId} {n j : Int32} {vs : List Value} {d : Value} {x : UInt64} (X : Stand p l e R s m args below meth c T locs cells slots) (hx : p.tables.exec = Jvm.exec) (hZ : Z.Warmed39 s.vm) (eT : T.heap = h) (V : Arv Z h a k .double n vs d) (hj : ¬ j < 0 ∧ j < n) (i : Nat) (hji : j.toNatClampNeg = i) (hi : i < vs.length)
    {g : JFrame} (hg : g.method = m) {rest : List Value} (hs : g.stack = .double x :: .int j :: .ref a :: rest) (hd : decode c.code g.pc = .ok (.dastore, 1)) :
    ∃ T' h', Stand p l e R s m args below meth c T' (locs ++ [⟨a, j.toNatClampNeg⟩]) cells slots ∧ T'.heap = h' ∧ Wr h h' a j.toNatClampNeg (.double x) ∧ Arv Z h' a k .double n (vs.set i (.double x)) d ∧ ∀ t, Steps p.tables e below (T'.setTop { g with pc := g.pc + 1, stack := rest }) t → Steps p.tables e below (T.setTop g) t := by
  obtain ⟨cl, Ar, q, S, N, H, G⟩ := V
  obtain ⟨T', h', X', e', W, st⟩ := stD X hx hZ eT Ar (inb_of S hj) hg hs hd
  exact ⟨T', h', X', e', W, Arv.set Ar q S N H G rfl W i hji hi, st⟩
theorem own_stZ {a : Addr} {k : ClassId} {n j : Int32} {vs : List Value} {d : Value} {x : Int32} (X : Stand p l e R s m args below meth c T locs cells slots) (hx : p.tables.exec = Jvm.exec) (hZ : Z.Warmed39 s.vm) (eT : T.heap = h) (V : Arv Z h a k .boolean n vs d) (hj : ¬ j < 0 ∧ j < n) (i : Nat) (hji : j.toNatClampNeg = i) (hi : i < vs.length) (h01 : x = 0 ∨ x = 1)
    {g : JFrame} (hg : g.method = m) {rest : List Value} (hs : g.stack = .int x :: .int j :: .ref a :: rest) (hd : decode c.code g.pc = .ok (.bastore, 1)) :
    ∃ T' h', Stand p l e R s m args below meth c T' (locs ++ [⟨a, j.toNatClampNeg⟩]) cells slots ∧ T'.heap = h' ∧ Wr h h' a j.toNatClampNeg (.int x) ∧ Arv Z h' a k .boolean n (vs.set i (.int x)) d ∧ ∀ t, Steps p.tables e below (T'.setTop { g with pc := g.pc + 1, stack := rest }) t → Steps p.tables e below (T.setTop g) t := by
  obtain ⟨cl, Ar, q, S, N, H, G⟩ := V
  obtain ⟨T', h', X', e', W, st⟩ := stZ X hx hZ eT Ar (inb_of S hj) hg hs hd
  have en : nar .boolean x = x := by rcases h01 with rfl | rfl <;> rfl
  rw [en] at W
  exact ⟨T', h', X', e', W, Arv.set Ar q S N H G (by rcases h01 with rfl | rfl <;> rfl) W i hji hi, st⟩
/-- a payer's form: what the three calls ask -/
abbrev own_B (l : Launch) (R : Room) (p : Program) (e : Env) (below : List Frame) (s : State) (args : Array Value) (y : MethodName) (W : Nat) (as : Array Value) (h : Heap) (kc ks : Nat) (Q : Option Value → Heap → List Loc → Prop) : Prop :=
  Back l R p e below s args y 3 W (fun A a => a = as ∧ A.U.heap = h ∧ A.cells + kc ≤ R.cells ∧ A.slots + ks ≤ R.slots) (fun A _ v B => ∃ L, Q v B.U.heap L ∧ B.locs = A.locs ++ L ∧ B.cells = A.cells + kc ∧ B.slots = A.slots + ks)
theorem own_backS (X : Stand p l e R s m args below meth c T locs cells slots) (hx : p.tables.exec = Jvm.exec) (hZ : Z.Warmed39 s.vm) {own : String} (hown : s.vm.findClass own = some m.cls) {index : Nat} {y : MethodName} {bytes : ByteArray} {maxL : Nat} {ret : Option FieldType}
    (w1 : (Jvm.Cond.methodLink own index y).before a0 Z = true) (w2 : (Jvm.Cond.static y).before a0 Z = true) (w3 : (Jvm.Cond.initialized y.cls).before a0 Z = true) (w4 : (Jvm.Cond.code y bytes maxL ret).before a0 Z = true) (hy : y.cls ≠ "java/lang/invoke/MethodHandle" ∧ y.cls ≠ "java/lang/invoke/VarHandle")
    {W kc ks : Nat} {as : Array Value} {Q : Option Value → Heap → List Loc → Prop} (hK : own_B l R p e below s args y W as h kc ks Q) 
    {g : JFrame} (hg : g.method = m) (hsize : g.locals.size = c.maxLocals) {argsL rest : List Value} (hlen : ∀ sig, parseMethodDescriptor y.desc = some sig → argsL.length = sig.parameters.length)
    (hst : g.stack = argsL.reverse ++ rest) (has : argsL.toArray = as) (hW : 2 * g.monitorRoom + (rest.map fun v => v.category).sum ≤ W) (hd : decode c.code g.pc = .ok (.invokestatic index, 3)) (eT : T.heap = h)
    (hc : cells + kc ≤ R.cells) (hs : slots + ks ≤ R.slots) :
    ∃ v T' L, Stand p l e R s m args below meth c T' (locs ++ L) (cells + kc) (slots + ks) ∧ Q v T'.heap L ∧ ∀ t, Steps p.tables e below (T'.setTop { g with pc := g.pc + 3, stack := v.toList ++ rest }) t → Steps p.tables e below (T.setTop g) t := by
  obtain ⟨v, vm1, ⟨T1, L1, k1, n1⟩, -, X1, ⟨Lc, hQ, l1, y1, z1⟩, st⟩ := Jvm.LawKit.callS X hx (y := y) hown (mvT hZ w1) (mvT hZ w2) (mvT hZ w3) (mvT hZ w4) hy hK hg hsize (argsL := argsL) (rest := rest) hlen hst hW hd (fun _ _ => ⟨has, eT, hc, hs⟩)
  dsimp only [Pt.U, Pt.locs, Pt.cells, Pt.slots] at X1 l1 y1 z1 st hQ
  subst l1 y1 z1
  exact ⟨v, T1, Lc, X1, hQ, st⟩
theorem own_callS (X : Stand p l e R s m args below meth c T locs cells slots) (hx : p.tables.exec = Jvm.exec) (hZ : Z.Warmed39 s.vm) {own : String} (hown : s.vm.findClass own = some m.cls) {index : Nat} {y : MethodName} {bytes : ByteArray} {maxL : Nat} {ret : Option FieldType}
    (w1 : (Jvm.Cond.methodLink own index y).before a0 Z = true) (w2 : (Jvm.Cond.static y).before a0 Z = true) (w3 : (Jvm.Cond.initialized y.cls).before a0 Z = true) (w4 : (Jvm.Cond.code y bytes maxL ret).before a0 Z = true) (hy : y.cls ≠ "java/lang/invoke/MethodHandle" ∧ y.cls ≠ "java/lang/invoke/VarHandle")
    {rm : Room} {as : Array Value} {Q : Option Value → Heap → List Loc → Prop} (hM : own_C l Z y bytes maxL ret [] rm as h Q) {W : Nat}
    {g : JFrame} (hg : g.method = m) (hsize : g.locals.size = c.maxLocals) {argsL rest : List Value} (hlen : ∀ sig, parseMethodDescriptor y.desc = some sig → argsL.length = sig.parameters.length)
    (hst : g.stack = argsL.reverse ++ rest) (has : argsL.toArray = as) (hW : 2 * g.monitorRoom + (rest.map fun v => v.category).sum ≤ W) (hd : decode c.code g.pc = .ok (.invokestatic index, 3)) (eT : T.heap = h)
    (hf : rm.frames + 1 ≤ R.frames) (hl : W + (maxL + 11) + rm.locals ≤ R.locals) (hc : cells + rm.cells ≤ R.cells) (hs : slots + rm.slots ≤ R.slots) :
    ∃ v T' L, Stand p l e R s m args below meth c T' (locs ++ L) (cells + rm.cells) (slots + rm.slots) ∧ Q v T'.heap L ∧ ∀ t, Steps p.tables e below (T'.setTop { g with pc := g.pc + 3, stack := v.toList ++ rest }) t → Steps p.tables e below (T.setTop g) t :=
  own_backS X hx hZ hown w1 w2 w3 w4 hy (backOf (W := W) hM hZ w4 w3 hf hl) hg hsize hlen hst has hW hd eT hc hs
theorem own_backI (X : Stand p l e R s m args below meth c T locs cells slots) (hx : p.tables.exec = Jvm.exec) (hZ : Z.Warmed39 s.vm) {own : String} (hown : s.vm.findClass own = some m.cls) {index : Nat} {y : MethodName} {bytes : ByteArray} {maxL : Nat} 
    (hy1 : y.name = "<init>") (w1 : (Jvm.Cond.methodLink own index y).before a0 Z = true) (w2 : (Jvm.Cond.instanceMethod y).before a0 Z = true) (w4 : (Jvm.Cond.code y bytes maxL none).before a0 Z = true) (w3 : (Jvm.Cond.initialized y.cls).before a0 Z = true) (hy : y.cls ≠ "java/lang/invoke/MethodHandle" ∧ y.cls ≠ "java/lang/invoke/VarHandle")
    {W kc ks : Nat} {as : Array Value} {Q : Option Value → Heap → List Loc → Prop} (hK : own_B l R p e below s args y W as h kc ks Q) 
    {g : JFrame} (hg : g.method = m) (hsize : g.locals.size = c.maxLocals) {a : Addr} {argsL rest : List Value} (hlen : ∀ sig, parseMethodDescriptor y.desc = some sig → argsL.length = sig.parameters.length)
    (hst : g.stack = argsL.reverse ++ .ref a :: rest) (has : (.ref a :: argsL).toArray = as) (hW : 2 * g.monitorRoom + (rest.map fun v => v.category).sum ≤ W) (hd : decode c.code g.pc = .ok (.invokespecial index, 3)) (eT : T.heap = h)
    (hc : cells + kc ≤ R.cells) (hs : slots + ks ≤ R.slots) :
    ∃ v T' L, Stand p l e R s m args below meth c T' (locs ++ L) (cells + kc) (slots + ks) ∧ Q v T'.heap L ∧ ∀ t, Steps p.tables e below (T'.setTop { g with pc := g.pc + 3, stack := v.toList ++ rest }) t → Steps p.tables e below (T.setTop g) t := by
  obtain ⟨v, vm1, ⟨T1, L1, k1, n1⟩, -, X1, ⟨Lc, hQ, l1, y1, z1⟩, st⟩ := X.specialBack hx (y := y) hy1 hown (mvT hZ w1) (mvT hZ w2) (mvT hZ w4) hy hK hg hsize (Steps.refl _) (a := a) (argsL := argsL) (rest := rest) hlen hst hW hd (fun _ _ => ⟨has, eT, hc, hs⟩)
  dsimp only [Pt.U, Pt.locs, Pt.cells, Pt.slots] at X1 l1 y1 z1 st hQ
  subst l1 y1 z1
  exact ⟨v, T1, Lc, X1, hQ, fun _ k => st.trans k⟩
theorem own_callI (X : Stand p l e R s m args below meth c T locs cells slots) (hx : p.tables.exec = Jvm.exec) (hZ : Z.Warmed39 s.vm) {own : String} (hown : s.vm.findClass own = some m.cls) {index : Nat} {y : MethodName} {bytes : ByteArray} {maxL : Nat} 
    (hy1 : y.name = "<init>") (w1 : (Jvm.Cond.methodLink own index y).before a0 Z = true) (w2 : (Jvm.Cond.instanceMethod y).before a0 Z = true) (w4 : (Jvm.Cond.code y bytes maxL none).before a0 Z = true) (w3 : (Jvm.Cond.initialized y.cls).before a0 Z = true) (hy : y.cls ≠ "java/lang/invoke/MethodHandle" ∧ y.cls ≠ "java/lang/invoke/VarHandle")
    {rm : Room} {as : Array Value} {Q : Option Value → Heap → List Loc → Prop} (hM : own_C l Z y bytes maxL none [] rm as h Q) {W : Nat}
    {g : JFrame} (hg : g.method = m) (hsize : g.locals.size = c.maxLocals) {a : Addr} {argsL rest : List Value} (hlen : ∀ sig, parseMethodDescriptor y.desc = some sig → argsL.length = sig.parameters.length)
    (hst : g.stack = argsL.reverse ++ .ref a :: rest) (has : (.ref a :: argsL).toArray = as) (hW : 2 * g.monitorRoom + (rest.map fun v => v.category).sum ≤ W) (hd : decode c.code g.pc = .ok (.invokespecial index, 3)) (eT : T.heap = h)
    (hf : rm.frames + 1 ≤ R.frames) (hl : W + (maxL + 11) + rm.locals ≤ R.locals) (hc : cells + rm.cells ≤ R.cells) (hs : slots + rm.slots ≤ R.slots) :
    ∃ v T' L, Stand p l e R s m args below meth c T' (locs ++ L) (cells + rm.cells) (slots + rm.slots) ∧ Q v T'.heap L ∧ ∀ t, Steps p.tables e below (T'.setTop { g with pc := g.pc + 3, stack := v.toList ++ rest }) t → Steps p.tables e below (T.setTop g) t :=
  own_backI X hx hZ hown hy1 w1 w2 w4 w3 hy (backOf (W := W) hM hZ w4 w3 hf hl) hg hsize hlen hst has hW hd eT hc hs
theorem own_backV (X : Stand p l e R s m args below meth c T locs cells slots) (hx : p.tables.exec = Jvm.exec) (hZ : Z.Warmed39 s.vm) {own C : String} (hown : s.vm.findClass own = some m.cls) {index : Nat} {y : MethodName} {bytes : ByteArray} {maxL : Nat} {ret : Option FieldType}
    (w1 : (Jvm.Cond.methodLink own index y).before a0 Z = true) (w2 : (Jvm.Cond.declares y).before a0 Z = true) (w5 : (Jvm.Cond.selects C y y).before a0 Z = true) (w6 : (Jvm.Cond.instanceMethod y).before a0 Z = true) (w4 : (Jvm.Cond.code y bytes maxL ret).before a0 Z = true) (w3 : (Jvm.Cond.initialized y.cls).before a0 Z = true) (hy : y.cls ≠ "java/lang/invoke/MethodHandle" ∧ y.cls ≠ "java/lang/invoke/VarHandle")
    {W kc ks : Nat} {as : Array Value} {Q : Option Value → Heap → List Loc → Prop} (hK : own_B l R p e below s args y W as h kc ks Q) {b : Addr} (hE : Exa Z h b C) 
    {g : JFrame} (hg : g.method = m) (hsize : g.locals.size = c.maxLocals) {argsL rest : List Value} (hlen : ∀ sig, parseMethodDescriptor y.desc = some sig → argsL.length = sig.parameters.length)
    (hst : g.stack = argsL.reverse ++ .ref b :: rest) (has : (.ref b :: argsL).toArray = as) (hW : 2 * g.monitorRoom + (rest.map fun v => v.category).sum ≤ W) (hd : decode c.code g.pc = .ok (.invokevirtual index, 3)) (eT : T.heap = h)
    (hc : cells + kc ≤ R.cells) (hs : slots + ks ≤ R.slots) :
    ∃ v T' L, Stand p l e R s m args below meth c T' (locs ++ L) (cells + kc) (slots + ks) ∧ Q v T'.heap L ∧ ∀ t, Steps p.tables e below (T'.setTop { g with pc := g.pc + 3, stack := v.toList ++ rest }) t → Steps p.tables e below (T.setTop g) t := by
  obtain ⟨cq, kq, qa, qb, qc⟩ := isOf hZ eT hE
  obtain ⟨v, vm1, ⟨T1, L1, k1, n1⟩, -, X1, ⟨Lc, hQ, l1, y1, z1⟩, st⟩ := X.virtualBack hx (y := y) (z := y) hown (mvT hZ w1) (mvT hZ w2) (notFace_of_selects (args := #[]) (mvT hZ w5)) (mvT hZ w5) (mvT hZ w6) hy hK qa qc hg hsize (Steps.refl _) (argsL := argsL) (rest := rest) hlen hst hW hd (fun _ _ => ⟨has, eT, hc, hs⟩)
  dsimp only [Pt.U, Pt.locs, Pt.cells, Pt.slots] at X1 l1 y1 z1 st hQ
  subst l1 y1 z1
  exact ⟨v, T1, Lc, X1, hQ, fun _ k => st.trans k⟩
theorem own_callV (X : Stand p l e R s m args below meth c T locs cells slots) (hx : p.tables.exec = Jvm.exec) (hZ : Z.Warmed39 s.vm) {own C : String} (hown : s.vm.findClass own = some m.cls) {index : Nat} {y : MethodName} {bytes : ByteArray} {maxL : Nat} {ret : Option FieldType}
    (w1 : (Jvm.Cond.methodLink own index y).before a0 Z = true) (w2 : (Jvm.Cond.declares y).before a0 Z = true) (w5 : (Jvm.Cond.selects C y y).before a0 Z = true) (w6 : (Jvm.Cond.instanceMethod y).before a0 Z = true) (w4 : (Jvm.Cond.code y bytes maxL ret).before a0 Z = true) (w3 : (Jvm.Cond.initialized y.cls).before a0 Z = true) (hy : y.cls ≠ "java/lang/invoke/MethodHandle" ∧ y.cls ≠ "java/lang/invoke/VarHandle")
    {rm : Room} {as : Array Value} {Q : Option Value → Heap → List Loc → Prop} (hM : own_C l Z y bytes maxL ret [] rm as h Q) {b : Addr} (hE : Exa Z h b C) {W : Nat}
    {g : JFrame} (hg : g.method = m) (hsize : g.locals.size = c.maxLocals) {argsL rest : List Value} (hlen : ∀ sig, parseMethodDescriptor y.desc = some sig → argsL.length = sig.parameters.length)
    (hst : g.stack = argsL.reverse ++ .ref b :: rest) (has : (.ref b :: argsL).toArray = as) (hW : 2 * g.monitorRoom + (rest.map fun v => v.category).sum ≤ W) (hd : decode c.code g.pc = .ok (.invokevirtual index, 3)) (eT : T.heap = h)
    (hf : rm.frames + 1 ≤ R.frames) (hl : W + (maxL + 11) + rm.locals ≤ R.locals) (hc : cells + rm.cells ≤ R.cells) (hs : slots + rm.slots ≤ R.slots) :
    ∃ v T' L, Stand p l e R s m args below meth c T' (locs ++ L) (cells + rm.cells) (slots + rm.slots) ∧ Q v T'.heap L ∧ ∀ t, Steps p.tables e below (T'.setTop { g with pc := g.pc + 3, stack := v.toList ++ rest }) t → Steps p.tables e below (T.setTop g) t :=
  own_backV X hx hZ hown w1 w2 w5 w6 w4 w3 hy (backOf (W := W) hM hZ w4 w3 hf hl) hE hg hsize hlen hst has hW hd eT hc hs
end OwnKit

section OwnFP
open Jvm.FP.Core
/-- a double's value in units of 2^-1074 -/
def own_z (x : UInt64) : Int := zval b64 (val64 x)
theorem own_zfin {x V : UInt64} (hx : val64 x ≠ .nan) (hV : DFin V) (h : own_z x = own_z V) : DFin x := by
  have h1 := hV.zval_lt
  unfold own_z zval at h
  have hm : zmag b64 (val64 x) = zmag b64 (val64 V) := by
    have := congrArg Int.natAbs h
    rwa [natAbs_signed, natAbs_signed] at this
  unfold DFin
  cases hv : val64 x with
  | nan => exact absurd hv hx
  | inf s =>
    rw [hv] at hm
    have : zmag b64 (.inf s) = b64.tails * 2 ^ (b64.exps - 2) := rfl
    rw [this] at hm
    omega
  | fin s c q => exact ⟨s, c, q, rfl⟩
theorem own_zadd {x y V : UInt64} (hx : DFin x) (hy : DFin y) (hV : DFin V) (h : own_z x + own_z y = own_z V) : DFin (dadd x y) ∧ own_z (dadd x y) = own_z V := by
  have e : own_z (dadd x y) = own_z V := by
    unfold own_z at *
    rw [val64_dadd]
    have a := sum_le good_b64 hx hy (val64_fits x) (val64_fits y) (val64_fits V) hV.ne_nan (Int.le_of_eq h)
    have b := sum_ge good_b64 hx hy (val64_fits x) (val64_fits y) (val64_fits V) hV.ne_nan (Int.le_of_eq h.symm)
    omega
  exact ⟨own_zfin ((notNaN_iff _).mp (dadd_out hx.notNaN hy)) hV e, e⟩
theorem own_zsub {x y V : UInt64} (hx : DFin x) (hy : DFin y) (hV : DFin V) (h : own_z x - own_z y = own_z V) : DFin (dsub x y) ∧ own_z (dsub x y) = own_z V := by
  have e : own_z (dsub x y) = own_z V := by
    unfold own_z at *
    rw [val64_dsub]
    obtain ⟨s, c, q, hq⟩ := hy
    have hn : ∃ s c q, negate (val64 y) = .fin s c q := ⟨!s, c, q, by rw [hq]; rfl⟩
    have a := sum_le good_b64 hx hn (val64_fits x) (negate_fits (val64_fits y)) (val64_fits V) hV.ne_nan (by rw [zval_negate]; omega)
    have b := sum_ge good_b64 hx hn (val64_fits x) (negate_fits (val64_fits y)) (val64_fits V) hV.ne_nan (by rw [zval_negate]; omega)
    omega
  exact ⟨own_zfin ((notNaN_iff _).mp (dsub_out hx.notNaN hy)) hV e, e⟩
theorem own_zmul {x y V : UInt64} (hx : DFin x) (hy : DFin y) (hV : DFin V) (h : own_z x * own_z y = own_z V * (one64 : Int)) : DFin (dmul x y) ∧ own_z (dmul x y) = own_z V := by
  have e : own_z (dmul x y) = own_z V := by
    unfold own_z at *
    rw [val64_dmul]
    have fx := val64_fits x
    have fy := val64_fits y
    obtain ⟨s, c, q, h1⟩ := hx
    obtain ⟨t, d, r, h2⟩ := hy
    rw [h1] at h fx ⊢
    rw [h2] at h fy ⊢
    obtain ⟨p1, p2, p3⟩ := product_units fx fy
    have hq : b64.qmin < 0 := qmin_neg good_b64
    have hs : signed (s != t) (inUnits (c * d) (q + r) (2 * b64.qmin)) = zval b64 (val64 V) * ((2 ^ (b64.qmin - 2 * b64.qmin).toNat : Nat) : Int) := by
      rw [p3, signed_xor, show (b64.qmin - 2 * b64.qmin).toNat = (-b64.qmin).toNat by omega, pow_qmin64]
      exact h
    rw [p1]
    have a := zval_round_le good_b64 (s := (s != t)) (c := c * d) (q := q + r) (e0 := 2 * b64.qmin) (val64_fits V) hV.ne_nan (by omega) p2 (Int.le_of_eq hs)
    have b := zval_round_ge good_b64 (s := (s != t)) (c := c * d) (q := q + r) (e0 := 2 * b64.qmin) (val64_fits V) hV.ne_nan (by omega) p2 (Int.le_of_eq hs.symm)
    omega
  exact ⟨own_zfin ((notNaN_iff _).mp (dmul_out hx hy)) hV e, e⟩
theorem own_zcmp {x y : UInt64} (hx : DFin x) (hy : DFin y) : dcmp x y = some (compare (own_z x) (own_z y)) := dcmp_zval hx.ne_nan hy.ne_nan
/-- n / 2^k is a double, for |n| up to 2^53 and k up to 1000 -/
theorem own_frac (n : Int) (k : Nat) (hk : k ≤ 1000) (hn : n.natAbs ≤ 2 ^ 53) : ∃ V : UInt64, DFin V ∧ ((2 ^ k : Nat) : Int) * own_z V = n * (one64 : Int) := by
  by_cases h0 : n = 0
  · refine ⟨0, ⟨_, _, _, val64_zero⟩, ?_⟩
    unfold own_z
    rw [zval64_zero, h0, Int.mul_zero, Int.zero_mul]
  obtain ⟨c, q, hfit, hv⟩ := natFit good_b64 wide_b64 (decide (n < 0)) (n := n.natAbs) hn
  have hp : b64.p = 53 := rfl
  have hqm : b64.qmin = -1074 := qmin_b64
  have hqM : b64.qmax = 971 := by decide
  have hT : b64.tails = 2 ^ 52 := tails_b64
  obtain ⟨c1, c2, c3, c4⟩ := hfit
  rw [hp] at c1
  have hq : -52 ≤ q := by
    refine Int.le_of_not_gt fun hlt => ?_
    rw [show (q - 0).toNat = 0 by omega, Nat.pow_zero, Nat.mul_one, Nat.mul_one] at hv
    have h1 : 2 ^ 53 ≤ 2 ^ (0 - q).toNat := Nat.pow_le_pow_right (by decide) (by omega)
    have h2 : 1 * 2 ^ (0 - q).toNat ≤ n.natAbs * 2 ^ (0 - q).toNat := Nat.mul_le_mul_right _ (by omega)
    omega
  have fit : FP.Core.fits b64 (.fin (decide (n < 0)) c (q - k)) := ⟨by rw [hp]; exact c1, by omega, by omega, Or.inr (by rcases c4 with c4 | c4 <;> omega)⟩
  refine ⟨of64 (.fin (decide (n < 0)) c (q - k)), ⟨_, _, _, val64_of64 fit⟩, ?_⟩
  unfold own_z
  rw [val64_of64 fit]
  show ((2 ^ k : Nat) : Int) * signed (decide (n < 0)) (inUnits c (q - k) b64.qmin) = _
  have e : 2 ^ k * inUnits c (q - k) b64.qmin = n.natAbs * one64 := by
    unfold inUnits
    rw [hqm, ← pow_qmin64, hqm]
    rw [show (- (-1074 : Int)).toNat = 1074 by decide]
    have h3 : n.natAbs * 2 ^ 1074 * 2 ^ (0 - q).toNat = 2 ^ k * (c * 2 ^ (q - k - -1074).toNat) * 2 ^ (0 - q).toNat := by
      generalize hE : (1074 : Nat) = E1
      have hE' : (E1 : Int) = 1074 := by omega
      calc n.natAbs * 2 ^ E1 * 2 ^ (0 - q).toNat = (n.natAbs * 2 ^ (0 - q).toNat) * 2 ^ E1 := by ac_rfl
        _ = (c * 1 * 2 ^ (q - 0).toNat) * 2 ^ E1 := by rw [hv]
        _ = c * (2 ^ ((q - 0).toNat + E1)) := by rw [Nat.mul_one, Nat.mul_assoc, ← Nat.pow_add]
        _ = c * (2 ^ (k + (q - k - -1074).toNat + (0 - q).toNat)) := by rw [show (q - 0).toNat + E1 = k + (q - k - -1074).toNat + (0 - q).toNat by omega]
        _ = 2 ^ k * (c * 2 ^ (q - k - -1074).toNat) * 2 ^ (0 - q).toNat := by rw [Nat.pow_add, Nat.pow_add]; ac_rfl
    exact (Nat.eq_of_mul_eq_mul_right (Nat.two_pow_pos _) h3).symm
  have e' : ((2 ^ k : Nat) : Int) * ((inUnits c (q - k) b64.qmin : Nat) : Int) = (n.natAbs : Int) * (one64 : Int) := by
    rw [← Int.natCast_mul, e, Int.natCast_mul]
  unfold signed
  by_cases hneg : n < 0
  · simp only [hneg, decide_true, if_true]
    have : (n.natAbs : Int) = -n := by omega
    rw [this, Int.neg_mul] at e'
    rw [Int.mul_neg]
    omega
  · simp only [hneg, decide_false, Bool.false_eq_true, if_false]
    have : (n.natAbs : Int) = n := by omega
    rw [this] at e'
    exact e'
theorem own_half (n : Int) (hn : n.natAbs ≤ 2 ^ 53) : ∃ V : UInt64, DFin V ∧ 2 * own_z V = n * (one64 : Int) := own_frac n 1 (by decide) hn
theorem own_conv {c d mV i b a j u : Nat} (h : i + b = a + j + u) : (c * 2 ^ i ≤ mV * 2 ^ j * d) ↔ (c * 2 ^ a * 2 ^ u ≤ mV * (d * 2 ^ b)) := by
  have h1 : c * 2 ^ i * 2 ^ b = c * 2 ^ a * 2 ^ u * 2 ^ j := by
    rw [Nat.mul_assoc, ← Nat.pow_add, h, Nat.pow_add, Nat.pow_add]; ac_rfl
  have h2 : mV * 2 ^ j * d * 2 ^ b = mV * (d * 2 ^ b) * 2 ^ j := by ac_rfl
  constructor
  · intro q
    have := Nat.mul_le_mul_right (2 ^ b) q
    rw [h1, h2] at this
    exact Nat.le_of_mul_le_mul_right this (Nat.two_pow_pos _)
  · intro q
    have := Nat.mul_le_mul_right (2 ^ j) q
    rw [← h1, ← h2] at this
    exact Nat.le_of_mul_le_mul_right this (Nat.two_pow_pos _)
theorem own_conv' {c d mV i b a j u : Nat} (h : i + b = a + j + u) : (mV * 2 ^ j * d ≤ c * 2 ^ i) ↔ (mV * (d * 2 ^ b) ≤ c * 2 ^ a * 2 ^ u) := by
  have h1 : c * 2 ^ i * 2 ^ b = c * 2 ^ a * 2 ^ u * 2 ^ j := by
    rw [Nat.mul_assoc, ← Nat.pow_add, h, Nat.pow_add, Nat.pow_add]; ac_rfl
  have h2 : mV * 2 ^ j * d * 2 ^ b = mV * (d * 2 ^ b) * 2 ^ j := by ac_rfl
  constructor
  · intro q
    have := Nat.mul_le_mul_right (2 ^ b) q
    rw [h1, h2] at this
    exact Nat.le_of_mul_le_mul_right this (Nat.two_pow_pos _)
  · intro q
    have := Nat.mul_le_mul_right (2 ^ j) q
    rw [← h1, ← h2] at this
    exact Nat.le_of_mul_le_mul_right this (Nat.two_pow_pos _)
/-- the quotient by a positive double: its shape, and its magnitude against any double's -/
theorem own_quot {x y : UInt64} (hx : DFin x) (hy : DFin y) (hp : 0 < own_z y) :
    sgn (val64 (ddiv x y)) = sgn (val64 x) ∧ val64 (ddiv x y) ≠ .nan ∧
    (∀ V : UInt64, val64 V ≠ .nan → zmag b64 (val64 x) * one64 ≤ zmag b64 (val64 V) * zmag b64 (val64 y) → zmag b64 (val64 (ddiv x y)) ≤ zmag b64 (val64 V)) ∧
    (∀ V : UInt64, zmag b64 (val64 V) * zmag b64 (val64 y) ≤ zmag b64 (val64 x) * one64 → zmag b64 (val64 V) ≤ zmag b64 (val64 (ddiv x y))) := by
  rw [val64_ddiv]
  have fx := val64_fits x
  have fy := val64_fits y
  unfold own_z zval at hp
  obtain ⟨s, c, q, h1⟩ := hx
  obtain ⟨t, d, r, h2⟩ := hy
  rw [h1] at fx ⊢
  rw [h2] at fy hp ⊢
  have hq0 : b64.qmin < 0 := qmin_neg good_b64
  have hz : zmag b64 (.fin t d r) = d * 2 ^ (r - b64.qmin).toNat := rfl
  have ht : t = false := by
    cases t with
    | false => rfl
    | true => simp only [signed, FP.Core.sgn, if_true] at hp; omega
  subst ht
  have hd : d ≠ 0 := by
    intro h0; subst h0
    rw [hz, Nat.zero_mul] at hp
    simp [signed, FP.Core.sgn] at hp
  have hd0 : 0 < d := Nat.pos_of_ne_zero hd
  have e : quotient b64 (.fin s c q) (.fin false d r) = roundRatio b64 (s != false) c d (q - r) := by
    show (if d = 0 then _ else _) = _
    rw [if_neg hd]
  rw [e, sgn_roundRatio]
  refine ⟨by cases s <;> rfl, roundRatio_ne_nan _ _ _ _ _, ?_, ?_⟩
  · intro V hV hle
    refine zmag_roundRatio_le good_b64 (e0 := min b64.qmin (q - r)) hd0 (val64_fits V) hV (by omega) (by omega) ?_
    refine (own_conv (a := (q - b64.qmin).toNat) (b := (r - b64.qmin).toNat) (u := (-b64.qmin).toNat) ?_).mpr ?_
    · have := fx.2.1; have := fy.2.1; omega
    · rw [pow_qmin64]; exact hle
  · intro V hle
    refine zmag_roundRatio_ge good_b64 (e0 := min b64.qmin (q - r)) hd0 (val64_fits V) (by omega) (by omega) ?_
    refine (own_conv' (a := (q - b64.qmin).toNat) (b := (r - b64.qmin).toNat) (u := (-b64.qmin).toNat) ?_).mpr ?_
    · have := fx.2.1; have := fy.2.1; omega
    · rw [pow_qmin64]; exact hle
theorem own_zpos {y : UInt64} (hp : 0 < own_z y) : own_z y = (zmag b64 (val64 y) : Int) := by
  unfold own_z zval signed at *
  by_cases h : sgn (val64 y) = true
  · rw [if_pos h] at hp; omega
  · rw [if_neg h]
theorem own_zdiv_le {x y V : UInt64} (hx : DFin x) (hy : DFin y) (hp : 0 < own_z y) (hV : val64 V ≠ .nan) (h : own_z x * (one64 : Int) ≤ own_z V * own_z y) : own_z (ddiv x y) ≤ own_z V := by
  obtain ⟨q1, q2, q3, q4⟩ := own_quot hx hy hp
  have q3 := q3 V hV
  have q4 := q4 V
  rw [own_zpos hp] at h
  have hB : 0 < zmag b64 (val64 y) := by have := own_zpos hp; omega
  unfold own_z zval at h ⊢
  rw [q1]
  generalize zmag b64 (val64 x) = A at *
  generalize zmag b64 (val64 y) = B at *
  generalize zmag b64 (val64 V) = M at *
  generalize zmag b64 (val64 (ddiv x y)) = D at *
  have c1 : ((A * one64 : Nat) : Int) = (A : Int) * (one64 : Int) := Int.natCast_mul _ _
  have c2 : ((M * B : Nat) : Int) = (M : Int) * (B : Int) := Int.natCast_mul _ _
  generalize sgn (val64 x) = sx at h ⊢
  generalize sgn (val64 V) = sV at h ⊢
  cases sx <;> cases sV <;> simp only [signed, if_true, Bool.false_eq_true, if_false, Int.neg_mul] at h ⊢
  · have := q3 (by omega); omega
  · have h3 : A * one64 = 0 ∧ M * B = 0 := by omega
    have h4 : M = 0 := by rcases Nat.mul_eq_zero.mp h3.2 with h | h <;> omega
    have := q3 (by omega); omega
  · omega
  · have := q4 (by omega); omega
theorem own_zdiv_ge {x y V : UInt64} (hx : DFin x) (hy : DFin y) (hp : 0 < own_z y) (hV : val64 V ≠ .nan) (h : own_z V * own_z y ≤ own_z x * (one64 : Int)) : own_z V ≤ own_z (ddiv x y) := by
  obtain ⟨q1, q2, q3, q4⟩ := own_quot hx hy hp
  have q3 := q3 V hV
  have q4 := q4 V
  rw [own_zpos hp] at h
  have hB : 0 < zmag b64 (val64 y) := by have := own_zpos hp; omega
  unfold own_z zval at h ⊢
  rw [q1]
  generalize zmag b64 (val64 x) = A at *
  generalize zmag b64 (val64 y) = B at *
  generalize zmag b64 (val64 V) = M at *
  generalize zmag b64 (val64 (ddiv x y)) = D at *
  have c1 : ((A * one64 : Nat) : Int) = (A : Int) * (one64 : Int) := Int.natCast_mul _ _
  have c2 : ((M * B : Nat) : Int) = (M : Int) * (B : Int) := Int.natCast_mul _ _
  generalize sgn (val64 x) = sx at h ⊢
  generalize sgn (val64 V) = sV at h ⊢
  cases sx <;> cases sV <;> simp only [signed, if_true, Bool.false_eq_true, if_false, Int.neg_mul] at h ⊢
  · have := q4 (by omega); omega
  · omega
  · have h3 : A * one64 = 0 ∧ M * B = 0 := by omega
    have h4 : M = 0 := by rcases Nat.mul_eq_zero.mp h3.2 with h | h <;> omega
    have := q3 (by omega); omega
  · have := q3 (by omega); omega
theorem own_zdiv {x y V : UInt64} (hx : DFin x) (hy : DFin y) (hp : 0 < own_z y) (hV : DFin V) (h : own_z x * (one64 : Int) = own_z V * own_z y) : DFin (ddiv x y) ∧ own_z (ddiv x y) = own_z V := by
  have a := own_zdiv_le hx hy hp hV.ne_nan (Int.le_of_eq h)
  have b := own_zdiv_ge hx hy hp hV.ne_nan (Int.le_of_eq h.symm)
  have e : own_z (ddiv x y) = own_z V := by omega
  exact ⟨own_zfin (own_quot hx hy hp).2.1 hV e, e⟩
/-- x is the number n / 2 -/
def own_DH (n : Int) (x : UInt64) : Prop := DFin x ∧ 2 * own_z x = n * (one64 : Int)
theorem own_DH.fin {n : Int} {x : UInt64} (h : own_DH n x) : DFin x := h.1
theorem own_DH.nn {n : Int} {x : UInt64} (h : own_DH n x) : Jvm.Free.Fl.NoNaN64 x := Jvm.Free.Fl.noNaN64_no.mpr h.1.notNaN
theorem own_DH.of_z {n : Int} {x V : UInt64} (hx : DFin x) (hV : 2 * own_z V = n * (one64 : Int)) (h : own_z x = own_z V) : own_DH n x := ⟨hx, by rw [h]; exact hV⟩
theorem own_dh_int {i : Int} {x : UInt64} (h : DInt i x) : own_DH (2 * i) x := by
  refine ⟨?_, by unfold own_z; rw [DInt_zval h, Int.mul_assoc]⟩
  unfold DInt at h
  unfold DFin
  cases hv : val64 x with
  | nan => rw [hv] at h; exact h.elim
  | inf s => rw [hv] at h; exact h.elim
  | fin s c q => exact ⟨s, c, q, rfl⟩
theorem own_dh_i2d (a : Int32) : own_DH (2 * a.toInt) (FP.i2d a) := own_dh_int (i2d_int a)
theorem own_dh_l2d (a : Int64) (h : a.toInt.natAbs ≤ 2 ^ 53) : own_DH (2 * a.toInt) (FP.l2d a) := own_dh_int (l2d_int h)
theorem own_dh_add {m n : Int} {x y : UInt64} (hx : own_DH m x) (hy : own_DH n y) (h : (m + n).natAbs ≤ 2 ^ 53) : own_DH (m + n) (FP.dadd x y) := by
  obtain ⟨V, hV, eV⟩ := own_half _ h
  have e : own_z x + own_z y = own_z V := by
    have h1 := hx.2; have h2 := hy.2
    rw [Int.add_mul] at eV
    omega
  obtain ⟨q1, q2⟩ := own_zadd hx.1 hy.1 hV e
  exact own_DH.of_z q1 eV q2
theorem own_dh_sub {m n : Int} {x y : UInt64} (hx : own_DH m x) (hy : own_DH n y) (h : (m - n).natAbs ≤ 2 ^ 53) : own_DH (m - n) (FP.dsub x y) := by
  obtain ⟨V, hV, eV⟩ := own_half _ h
  have e : own_z x - own_z y = own_z V := by
    have h1 := hx.2; have h2 := hy.2
    rw [Int.sub_mul] at eV
    omega
  obtain ⟨q1, q2⟩ := own_zsub hx.1 hy.1 hV e
  exact own_DH.of_z q1 eV q2
/-- a product of which the double of the value is a whole number k: 2 * (m/2) * (n/2) = k -/
theorem own_dh_mul {m n k : Int} {x y : UInt64} (hx : own_DH m x) (hy : own_DH n y) (hk : m * n = 2 * k) (h : k.natAbs ≤ 2 ^ 53) : own_DH k (FP.dmul x y) := by
  obtain ⟨V, hV, eV⟩ := own_half _ h
  have e : own_z x * own_z y = own_z V * (one64 : Int) := by
    have h1 := hx.2; have h2 := hy.2
    generalize (one64 : Int) = U at *
    have h3 : (2 * own_z x) * (2 * own_z y) = (m * U) * (n * U) := by rw [h1, h2]
    have h4 : (m * U) * (n * U) = (m * n) * (U * U) := by ac_rfl
    have h5 : (2 * own_z x) * (2 * own_z y) = 4 * (own_z x * own_z y) := by
      rw [show (4 : Int) = 2 * 2 by rfl]; ac_rfl
    have h6 : (m * n) * (U * U) = 4 * (own_z V * U) := by
      rw [hk, show (2 * k) * (U * U) = 2 * ((k * U) * U) by ac_rfl, ← eV]
      rw [show (4 : Int) = 2 * 2 by rfl]; ac_rfl
    have h7 : 4 * (own_z x * own_z y) = 4 * (own_z V * U) := by rw [← h5, h3, h4, h6]
    omega
  obtain ⟨q1, q2⟩ := own_zmul hx.1 hy.1 hV e
  exact own_DH.of_z q1 eV q2
theorem own_dh_cmp {m n : Int} {x y : UInt64} (hx : own_DH m x) (hy : own_DH n y) : FP.dcmp x y = some (compare m n) := by
  rw [show FP.dcmp x y = _ from own_zcmp hx.1 hy.1]
  have h1 := hx.2; have h2 := hy.2
  have hU : (0 : Int) < (one64 : Int) := by have := one64_pos; omega
  congr 1
  refine compare_congr ⟨fun q => ?_, fun q => ?_⟩ ⟨fun q => ?_, fun q => ?_⟩
  · have : m * (one64 : Int) < n * (one64 : Int) := by omega
    exact Int.lt_of_mul_lt_mul_right this (Int.le_of_lt hU)
  · have := Int.mul_lt_mul_of_pos_right q hU
    omega
  · have : m * (one64 : Int) = n * (one64 : Int) := by omega
    exact Int.eq_of_mul_eq_mul_right (Int.ne_of_gt hU) this
  · subst q; omega
theorem own_dh_div {m n k : Int} {x y : UInt64} (hx : own_DH m x) (hy : own_DH n y) (hn : 0 < n) (hk : 2 * m = k * n) (h : k.natAbs ≤ 2 ^ 53) : own_DH k (FP.ddiv x y) := by
  obtain ⟨V, hV, eV⟩ := own_half _ h
  have h1 := hx.2; have h2 := hy.2
  have hU : (0 : Int) < (one64 : Int) := by have := one64_pos; omega
  have hp : 0 < own_z y := by have := Int.mul_pos hn hU; omega
  have e : own_z x * (one64 : Int) = own_z V * own_z y := by
    generalize (one64 : Int) = U at *
    have h3 : (2 * own_z V) * (2 * own_z y) = (k * U) * (n * U) := by rw [eV, h2]
    have h4 : (k * U) * (n * U) = (k * n) * (U * U) := by ac_rfl
    have h5 : (2 * own_z V) * (2 * own_z y) = 4 * (own_z V * own_z y) := by rw [show (4 : Int) = 2 * 2 by rfl]; ac_rfl
    have h6 : (k * n) * (U * U) = 4 * (own_z x * U) := by
      rw [← hk, show (2 * m) * (U * U) = 2 * ((m * U) * U) by ac_rfl, ← h1, show (4 : Int) = 2 * 2 by rfl]; ac_rfl
    have h7 : 4 * (own_z x * U) = 4 * (own_z V * own_z y) := by rw [← h6, ← h4, ← h3, h5]
    omega
  obtain ⟨q1, q2⟩ := own_zdiv hx.1 hy.1 hp hV e
  exact own_DH.of_z q1 eV q2
end OwnFP

theorem d1_0 : decode method_2_code 0 = .ok (.iload_n 0, 1) := by decide +kernel
theorem d1_1 : decode method_2_code 1 = .ok (.ifCond .ne 7, 3) := by decide +kernel
theorem d1_4 : decode method_2_code 4 = .ok (.getstatic 7, 3) := by decide +kernel
theorem d1_7 : decode method_2_code 7 = .ok (.areturn, 1) := by decide +kernel
theorem d1_8 : decode method_2_code 8 = .ok (.iload_n 0, 1) := by decide +kernel
theorem d1_9 : decode method_2_code 9 = .ok (.iconst 1, 1) := by decide +kernel
theorem d1_10 : decode method_2_code 10 = .ok (.if_icmp .ne 7, 3) := by decide +kernel
theorem d1_13 : decode method_2_code 13 = .ok (.getstatic 13, 3) := by decide +kernel
theorem d1_16 : decode method_2_code 16 = .ok (.areturn, 1) := by decide +kernel
theorem d1_17 : decode method_2_code 17 = .ok (.iload_n 0, 1) := by decide +kernel
theorem d1_18 : decode method_2_code 18 = .ok (.iconst 2, 1) := by decide +kernel
theorem d1_19 : decode method_2_code 19 = .ok (.if_icmp .ne 7, 3) := by decide +kernel
theorem d1_22 : decode method_2_code 22 = .ok (.getstatic 16, 3) := by decide +kernel
theorem d1_25 : decode method_2_code 25 = .ok (.areturn, 1) := by decide +kernel
theorem d1_26 : decode method_2_code 26 = .ok (.iload_n 0, 1) := by decide +kernel
theorem d1_27 : decode method_2_code 27 = .ok (.iconst 3, 1) := by decide +kernel
theorem d1_28 : decode method_2_code 28 = .ok (.if_icmp .ne 7, 3) := by decide +kernel
theorem d1_31 : decode method_2_code 31 = .ok (.getstatic 19, 3) := by decide +kernel
theorem d1_34 : decode method_2_code 34 = .ok (.areturn, 1) := by decide +kernel
theorem d1_35 : decode method_2_code 35 = .ok (.iload_n 0, 1) := by decide +kernel
theorem d1_36 : decode method_2_code 36 = .ok (.iconst 4, 1) := by decide +kernel
theorem d1_37 : decode method_2_code 37 = .ok (.if_icmp .ne 7, 3) := by decide +kernel
theorem d1_40 : decode method_2_code 40 = .ok (.getstatic 22, 3) := by decide +kernel
theorem d1_43 : decode method_2_code 43 = .ok (.areturn, 1) := by decide +kernel
theorem d1_44 : decode method_2_code 44 = .ok (.iload_n 0, 1) := by decide +kernel
theorem d1_45 : decode method_2_code 45 = .ok (.iconst 5, 1) := by decide +kernel
theorem d1_46 : decode method_2_code 46 = .ok (.if_icmp .ne 7, 3) := by decide +kernel
theorem d1_49 : decode method_2_code 49 = .ok (.getstatic 25, 3) := by decide +kernel
theorem d1_52 : decode method_2_code 52 = .ok (.areturn, 1) := by decide +kernel
theorem d1_53 : decode method_2_code 53 = .ok (.iload_n 0, 1) := by decide +kernel
theorem d1_54 : decode method_2_code 54 = .ok (.bipush 6, 2) := by decide +kernel
theorem d1_56 : decode method_2_code 56 = .ok (.if_icmp .ne 7, 3) := by decide +kernel
theorem d1_59 : decode method_2_code 59 = .ok (.getstatic 28, 3) := by decide +kernel
theorem d1_62 : decode method_2_code 62 = .ok (.areturn, 1) := by decide +kernel
theorem d1_63 : decode method_2_code 63 = .ok (.iload_n 0, 1) := by decide +kernel
theorem d1_64 : decode method_2_code 64 = .ok (.bipush 7, 2) := by decide +kernel
theorem d1_66 : decode method_2_code 66 = .ok (.if_icmp .ne 7, 3) := by decide +kernel
theorem d1_69 : decode method_2_code 69 = .ok (.getstatic 31, 3) := by decide +kernel
theorem d1_72 : decode method_2_code 72 = .ok (.areturn, 1) := by decide +kernel
theorem d1_73 : decode method_2_code 73 = .ok (.iload_n 0, 1) := by decide +kernel
theorem d1_74 : decode method_2_code 74 = .ok (.bipush 8, 2) := by decide +kernel
theorem d1_76 : decode method_2_code 76 = .ok (.if_icmp .ne 7, 3) := by decide +kernel
theorem d1_79 : decode method_2_code 79 = .ok (.getstatic 34, 3) := by decide +kernel
theorem d1_82 : decode method_2_code 82 = .ok (.areturn, 1) := by decide +kernel
theorem d1_83 : decode method_2_code 83 = .ok (.getstatic 37, 3) := by decide +kernel
theorem d1_86 : decode method_2_code 86 = .ok (.areturn, 1) := by decide +kernel

theorem d2_0 : decode prog_4_method_6_code 0 = .ok (.aload_n 0, 1) := by decide +kernel
theorem d2_1 : decode prog_4_method_6_code 1 = .ok (.getfield 57, 3) := by decide +kernel
theorem d2_4 : decode prog_4_method_6_code 4 = .ok (.ifCond .eq 7, 3) := by decide +kernel
theorem d2_7 : decode prog_4_method_6_code 7 = .ok (.dload_n 1, 1) := by decide +kernel
theorem d2_8 : decode prog_4_method_6_code 8 = .ok (.goto 7, 3) := by decide +kernel
theorem d2_11 : decode prog_4_method_6_code 11 = .ok (.dload_n 1, 1) := by decide +kernel
theorem d2_12 : decode prog_4_method_6_code 12 = .ok (.iload_n 3, 1) := by decide +kernel
theorem d2_13 : decode prog_4_method_6_code 13 = .ok (.i2d, 1) := by decide +kernel
theorem d2_14 : decode prog_4_method_6_code 14 = .ok (.ddiv, 1) := by decide +kernel
theorem d2_15 : decode prog_4_method_6_code 15 = .ok (.dreturn, 1) := by decide +kernel

theorem pn_0 : plainFor x = true := by first | exact plainFor_of_name (by first | (simp [plainName, overriddenIn]; done) | decide +kernel) | decide +kernel

theorem pn_1 : plainFor (⟨"com/example/kookaburra/kookaburra/eval/MeasureSummaryPinLaw", "pick", "(I)Lcom/example/kookaburra/kookaburra/eval/Measure;"⟩ : MethodName) = true := by first | exact plainFor_of_name (by first | (simp [plainName, overriddenIn]; done) | decide +kernel) | decide +kernel

theorem pn_2 : plainFor (⟨"com/example/kookaburra/kookaburra/eval/Measure", "summary", "(DI)D"⟩ : MethodName) = true := by first | exact plainFor_of_name (by first | (simp [plainName, overriddenIn]; done) | decide +kernel) | decide +kernel

theorem pd__I_Lcom_example_kookaburra_kookaburra_eval_Measure_ : parseMethodDescriptor "(I)Lcom/example/kookaburra/kookaburra/eval/Measure;" = some ⟨[.int], some (.object "com/example/kookaburra/kookaburra/eval/Measure")⟩ := by decide +kernel
theorem pd__DI_D : parseMethodDescriptor "(DI)D" = some ⟨[.double, .int], some .double⟩ := by decide +kernel

def own_Qr (r : Option Value) (h0 : Heap) (n0 : Nat) (v : Option Value) (h : Heap) (L : List Loc) : Prop := v = r ∧ Fr n0 L ∧ h = h0
def own_M (Z : State) (h : Heap) (nm : String) (c : Int32) : Prop := ∃ a, Sta Z h "com/example/kookaburra/kookaburra/eval/Measure" nm "Lcom/example/kookaburra/kookaburra/eval/Measure;" (.ref a) ∧ Exa Z h a "com/example/kookaburra/kookaburra/eval/Measure" ∧ Fld Z h a "com/example/kookaburra/kookaburra/eval/Measure" "count" "Z" (.int c)
def own_cnt (k : Int32) : Int32 := if k < 3 then 1 else 0
def own_Qp (Z : State) (k : Int32) (h0 : Heap) (n0 : Nat) (v : Option Value) (h : Heap) (L : List Loc) : Prop := ∃ a, v = some (.ref a) ∧ Fr n0 L ∧ h = h0 ∧ Exa Z h0 a "com/example/kookaburra/kookaburra/eval/Measure" ∧ Fld Z h0 a "com/example/kookaburra/kookaburra/eval/Measure" "count" "Z" (.int (own_cnt k))
def own_n9 (n : Int32) : Prop := n = 0 ∨ n = 1 ∨ n = 2 ∨ n = 3 ∨ n = 4 ∨ n = 5 ∨ n = 6 ∨ n = 7 ∨ n = 8 ∨ n = 9
set_option maxRecDepth 65536 in
set_option maxHeartbeats 4000000 in
theorem rmPk (l : Launch) (Z : State) (a0 : Array Value) (hw : ∀ d ∈ tables_1, d.before a0 Z = true) (ws : List Jvm.Cond) (h0 : Heap) (n0 : Nat) (k : Int32) (hk : own_n9 k) (MNUM_RET : own_M Z h0 "NUM_RET" 1) (MNUM_REL : own_M Z h0 "NUM_REL" 1) (MNUM_REL_RET : own_M Z h0 "NUM_REL_RET" 1) (MMAP : own_M Z h0 "MAP" 0) (MRECIP_RANK : own_M Z h0 "RECIP_RANK" 0) (MP_5 : own_M Z h0 "P_5" 0) (MP_10 : own_M Z h0 "P_10" 0) (MSUCCESS_1 : own_M Z h0 "SUCCESS_1" 0) (MSUCCESS_5 : own_M Z h0 "SUCCESS_5" 0) (MSUCCESS_10 : own_M Z h0 "SUCCESS_10" 0) :
    own_C l Z (⟨"com/example/kookaburra/kookaburra/eval/MeasureSummaryPinLaw", "pick", "(I)Lcom/example/kookaburra/kookaburra/eval/Measure;"⟩ : MethodName) method_2_code 1 (some (.object "com/example/kookaburra/kookaburra/eval/Measure")) ws ({ frames := 0, cells := 0, slots := 0, locals := 0 } : Room) #[(.int k)] h0 (own_Qp Z k h0 n0) := by
  refine own_body (ls := #[.val (.int k)]) pn_1 (fun m => by first | (simp [entryFrame, mkF, argsToLocals, Value.category]; done) | rfl) ?_
  intro p e s m below meth c T0 hZ hx hby hml hown hnm hret hlk X0 e0
  replace hml : c.maxLocals = 1 := hml
  have N0 := Fr.nil n0
  rcases hk with rfl | rfl | rfl | rfl | rfl | rfl | rfl | rfl | rfl | rfl
  · show own_R p.tables e below _ T0 (mkF m 0 #[.val (.int (0 : Int32))] [])
    obtain ⟨a, S1, E1, F1⟩ := MNUM_RET
    refine own_go (fun _ => XS.iloadN X0.here hx rfl (hb hby d1_0) rfl ) ?_
    show own_R p.tables e below _ T0 (mkF m 1 #[.val (.int (0 : Int32))] [(.int (0 : Int32))])
    refine own_go (fun _ => XS.ifNo X0.here hx rfl (hb hby d1_1) rfl ((if0 _ _).trans (teq (by decide)).2)) ?_
    show own_R p.tables e below _ T0 (mkF m 4 #[.val (.int (0 : Int32))] [])
    obtain ⟨T1, X1, e1, st1⟩ := getS X0 hx hZ hown (host := "") (hw _ (List.mem_of_getElem? (i := 5) rfl)) Via.refl e0 S1 (g := (mkF m 4 #[.val (.int (0 : Int32))] [])) rfl (hb hby d1_4)
    refine own_go st1 ?_
    show own_R p.tables e below _ T1 (mkF m 7 #[.val (.int (0 : Int32))] [(.ref a)])
    exact own_end X1 (some (.ref a)) (fun h => by rw [hret] at h; cases h) hlk (fun fs hr => own_retA X1 hx hret rfl rfl (hb hby d1_7) hr) ⟨a, rfl, N0, e1, E1, F1⟩ (by decide) (by decide)
  · show own_R p.tables e below _ T0 (mkF m 0 #[.val (.int (1 : Int32))] [])
    obtain ⟨a, S1, E1, F1⟩ := MNUM_REL
    refine own_go (fun _ => XS.iloadN X0.here hx rfl (hb hby d1_0) rfl ) ?_
    show own_R p.tables e below _ T0 (mkF m 1 #[.val (.int (1 : Int32))] [(.int (1 : Int32))])
    refine own_go (fun _ => XS.ifYes X0.here hx rfl (pc0 := 1) (pc' := 8) rfl (hb hby d1_1) rfl ((if0 _ _).trans (feq (by decide)).2) (by decide) (by decide)) ?_
    show own_R p.tables e below _ T0 (mkF m 8 #[.val (.int (1 : Int32))] [])
    refine own_go (fun _ => XS.iloadN X0.here hx rfl (hb hby d1_8) rfl ) ?_
    show own_R p.tables e below _ T0 (mkF m 9 #[.val (.int (1 : Int32))] [(.int (1 : Int32))])
    refine own_go (fun _ => XS.iconst X0.here hx rfl (hb hby d1_9)) ?_
    show own_R p.tables e below _ T0 (mkF m 10 #[.val (.int (1 : Int32))] [(.int (1 : Int32)), (.int (1 : Int32))])
    refine own_go (fun _ => XS.icmpNo X0.here hx rfl (hb hby d1_10) rfl (teq (by decide)).2) ?_
    show own_R p.tables e below _ T0 (mkF m 13 #[.val (.int (1 : Int32))] [])
    obtain ⟨T1, X1, e1, st1⟩ := getS X0 hx hZ hown (host := "") (hw _ (List.mem_of_getElem? (i := 22) rfl)) Via.refl e0 S1 (g := (mkF m 13 #[.val (.int (1 : Int32))] [])) rfl (hb hby d1_13)
    refine own_go st1 ?_
    show own_R p.tables e below _ T1 (mkF m 16 #[.val (.int (1 : Int32))] [(.ref a)])
    exact own_end X1 (some (.ref a)) (fun h => by rw [hret] at h; cases h) hlk (fun fs hr => own_retA X1 hx hret rfl rfl (hb hby d1_16) hr) ⟨a, rfl, N0, e1, E1, F1⟩ (by decide) (by decide)
  · show own_R p.tables e below _ T0 (mkF m 0 #[.val (.int (2 : Int32))] [])
    obtain ⟨a, S1, E1, F1⟩ := MNUM_REL_RET
    refine own_go (fun _ => XS.iloadN X0.here hx rfl (hb hby d1_0) rfl ) ?_
    show own_R p.tables e below _ T0 (mkF m 1 #[.val (.int (2 : Int32))] [(.int (2 : Int32))])
    refine own_go (fun _ => XS.ifYes X0.here hx rfl (pc0 := 1) (pc' := 8) rfl (hb hby d1_1) rfl ((if0 _ _).trans (feq (by decide)).2) (by decide) (by decide)) ?_
    show own_R p.tables e below _ T0 (mkF m 8 #[.val (.int (2 : Int32))] [])
    refine own_go (fun _ => XS.iloadN X0.here hx rfl (hb hby d1_8) rfl ) ?_
    show own_R p.tables e below _ T0 (mkF m 9 #[.val (.int (2 : Int32))] [(.int (2 : Int32))])
    refine own_go (fun _ => XS.iconst X0.here hx rfl (hb hby d1_9)) ?_
    show own_R p.tables e below _ T0 (mkF m 10 #[.val (.int (2 : Int32))] [(.int (1 : Int32)), (.int (2 : Int32))])
    refine own_go (fun _ => XS.icmpYes X0.here hx rfl (pc0 := 10) (pc' := 17) rfl (hb hby d1_10) rfl (feq (by decide)).2 (by decide) (by decide)) ?_
    show own_R p.tables e below _ T0 (mkF m 17 #[.val (.int (2 : Int32))] [])
    refine own_go (fun _ => XS.iloadN X0.here hx rfl (hb hby d1_17) rfl ) ?_
    show own_R p.tables e below _ T0 (mkF m 18 #[.val (.int (2 : Int32))] [(.int (2 : Int32))])
    refine own_go (fun _ => XS.iconst X0.here hx rfl (hb hby d1_18)) ?_
    show own_R p.tables e below _ T0 (mkF m 19 #[.val (.int (2 : Int32))] [(.int (2 : Int32)), (.int (2 : Int32))])
    refine own_go (fun _ => XS.icmpNo X0.here hx rfl (hb hby d1_19) rfl (teq (by decide)).2) ?_
    show own_R p.tables e below _ T0 (mkF m 22 #[.val (.int (2 : Int32))] [])
    obtain ⟨T1, X1, e1, st1⟩ := getS X0 hx hZ hown (host := "") (hw _ (List.mem_of_getElem? (i := 16) rfl)) Via.refl e0 S1 (g := (mkF m 22 #[.val (.int (2 : Int32))] [])) rfl (hb hby d1_22)
    refine own_go st1 ?_
    show own_R p.tables e below _ T1 (mkF m 25 #[.val (.int (2 : Int32))] [(.ref a)])
    exact own_end X1 (some (.ref a)) (fun h => by rw [hret] at h; cases h) hlk (fun fs hr => own_retA X1 hx hret rfl rfl (hb hby d1_25) hr) ⟨a, rfl, N0, e1, E1, F1⟩ (by decide) (by decide)
  · show own_R p.tables e below _ T0 (mkF m 0 #[.val (.int (3 : Int32))] [])
    obtain ⟨a, S1, E1, F1⟩ := MMAP
    refine own_go (fun _ => XS.iloadN X0.here hx rfl (hb hby d1_0) rfl ) ?_
    show own_R p.tables e below _ T0 (mkF m 1 #[.val (.int (3 : Int32))] [(.int (3 : Int32))])
    refine own_go (fun _ => XS.ifYes X0.here hx rfl (pc0 := 1) (pc' := 8) rfl (hb hby d1_1) rfl ((if0 _ _).trans (feq (by decide)).2) (by decide) (by decide)) ?_
    show own_R p.tables e below _ T0 (mkF m 8 #[.val (.int (3 : Int32))] [])
    refine own_go (fun _ => XS.iloadN X0.here hx rfl (hb hby d1_8) rfl ) ?_
    show own_R p.tables e below _ T0 (mkF m 9 #[.val (.int (3 : Int32))] [(.int (3 : Int32))])
    refine own_go (fun _ => XS.iconst X0.here hx rfl (hb hby d1_9)) ?_
    show own_R p.tables e below _ T0 (mkF m 10 #[.val (.int (3 : Int32))] [(.int (1 : Int32)), (.int (3 : Int32))])
    refine own_go (fun _ => XS.icmpYes X0.here hx rfl (pc0 := 10) (pc' := 17) rfl (hb hby d1_10) rfl (feq (by decide)).2 (by decide) (by decide)) ?_
    show own_R p.tables e below _ T0 (mkF m 17 #[.val (.int (3 : Int32))] [])
    refine own_go (fun _ => XS.iloadN X0.here hx rfl (hb hby d1_17) rfl ) ?_
    show own_R p.tables e below _ T0 (mkF m 18 #[.val (.int (3 : Int32))] [(.int (3 : Int32))])
    refine own_go (fun _ => XS.iconst X0.here hx rfl (hb hby d1_18)) ?_
    show own_R p.tables e below _ T0 (mkF m 19 #[.val (.int (3 : Int32))] [(.int (2 : Int32)), (.int (3 : Int32))])
    refine own_go (fun _ => XS.icmpYes X0.here hx rfl (pc0 := 19) (pc' := 26) rfl (hb hby d1_19) rfl (feq (by decide)).2 (by decide) (by decide)) ?_
    show own_R p.tables e below _ T0 (mkF m 26 #[.val (.int (3 : Int32))] [])
    refine own_go (fun _ => XS.iloadN X0.here hx rfl (hb hby d1_26) rfl ) ?_
    show own_R p.tables e below _ T0 (mkF m 27 #[.val (.int (3 : Int32))] [(.int (3 : Int32))])
    refine own_go (fun _ => XS.iconst X0.here hx rfl (hb hby d1_27)) ?_
    show own_R p.tables e below _ T0 (mkF m 28 #[.val (.int (3 : Int32))] [(.int (3 : Int32)), (.int (3 : Int32))])
    refine own_go (fun _ => XS.icmpNo X0.here hx rfl (hb hby d1_28) rfl (teq (by decide)).2) ?_
    show own_R p.tables e below _ T0 (mkF m 31 #[.val (.int (3 : Int32))] [])
    obtain ⟨T1, X1, e1, st1⟩ := getS X0 hx hZ hown (host := "") (hw _ (List.mem_of_getElem? (i := 24) rfl)) Via.refl e0 S1 (g := (mkF m 31 #[.val (.int (3 : Int32))] [])) rfl (hb hby d1_31)
    refine own_go st1 ?_
    show own_R p.tables e below _ T1 (mkF m 34 #[.val (.int (3 : Int32))] [(.ref a)])
    exact own_end X1 (some (.ref a)) (fun h => by rw [hret] at h; cases h) hlk (fun fs hr => own_retA X1 hx hret rfl rfl (hb hby d1_34) hr) ⟨a, rfl, N0, e1, E1, F1⟩ (by decide) (by decide)
  · show own_R p.tables e below _ T0 (mkF m 0 #[.val (.int (4 : Int32))] [])
    obtain ⟨a, S1, E1, F1⟩ := MRECIP_RANK
    refine own_go (fun _ => XS.iloadN X0.here hx rfl (hb hby d1_0) rfl ) ?_
    show own_R p.tables e below _ T0 (mkF m 1 #[.val (.int (4 : Int32))] [(.int (4 : Int32))])
    refine own_go (fun _ => XS.ifYes X0.here hx rfl (pc0 := 1) (pc' := 8) rfl (hb hby d1_1) rfl ((if0 _ _).trans (feq (by decide)).2) (by decide) (by decide)) ?_
    show own_R p.tables e below _ T0 (mkF m 8 #[.val (.int (4 : Int32))] [])
    refine own_go (fun _ => XS.iloadN X0.here hx rfl (hb hby d1_8) rfl ) ?_
    show own_R p.tables e below _ T0 (mkF m 9 #[.val (.int (4 : Int32))] [(.int (4 : Int32))])
    refine own_go (fun _ => XS.iconst X0.here hx rfl (hb hby d1_9)) ?_
    show own_R p.tables e below _ T0 (mkF m 10 #[.val (.int (4 : Int32))] [(.int (1 : Int32)), (.int (4 : Int32))])
    refine own_go (fun _ => XS.icmpYes X0.here hx rfl (pc0 := 10) (pc' := 17) rfl (hb hby d1_10) rfl (feq (by decide)).2 (by decide) (by decide)) ?_
    show own_R p.tables e below _ T0 (mkF m 17 #[.val (.int (4 : Int32))] [])
    refine own_go (fun _ => XS.iloadN X0.here hx rfl (hb hby d1_17) rfl ) ?_
    show own_R p.tables e below _ T0 (mkF m 18 #[.val (.int (4 : Int32))] [(.int (4 : Int32))])
    refine own_go (fun _ => XS.iconst X0.here hx rfl (hb hby d1_18)) ?_
    show own_R p.tables e below _ T0 (mkF m 19 #[.val (.int (4 : Int32))] [(.int (2 : Int32)), (.int (4 : Int32))])
    refine own_go (fun _ => XS.icmpYes X0.here hx rfl (pc0 := 19) (pc' := 26) rfl (hb hby d1_19) rfl (feq (by decide)).2 (by decide) (by decide)) ?_
    show own_R p.tables e below _ T0 (mkF m 26 #[.val (.int (4 : Int32))] [])
    refine own_go (fun _ => XS.iloadN X0.here hx rfl (hb hby d1_26) rfl ) ?_
    show own_R p.tables e below _ T0 (mkF m 27 #[.val (.int (4 : Int32))] [(.int (4 : Int32))])
    refine own_go (fun _ => XS.iconst X0.here hx rfl (hb hby d1_27)) ?_
    show own_R p.tables e below _ T0 (mkF m 28 #[.val (.int (4 : Int32))] [(.int (3 : Int32)), (.int (4 : Int32))])
    refine own_go (fun _ => XS.icmpYes X0.here hx rfl (pc0 := 28) (pc' := 35) rfl (hb hby d1_28) rfl (feq (by decide)).2 (by decide) (by decide)) ?_
    show own_R p.tables e below _ T0 (mkF m 35 #[.val (.int (4 : Int32))] [])
    refine own_go (fun _ => XS.iloadN X0.here hx rfl (hb hby d1_35) rfl ) ?_
    show own_R p.tables e below _ T0 (mkF m 36 #[.val (.int (4 : Int32))] [(.int (4 : Int32))])
    refine own_go (fun _ => XS.iconst X0.here hx rfl (hb hby d1_36)) ?_
    show own_R p.tables e below _ T0 (mkF m 37 #[.val (.int (4 : Int32))] [(.int (4 : Int32)), (.int (4 : Int32))])
    refine own_go (fun _ => XS.icmpNo X0.here hx rfl (hb hby d1_37) rfl (teq (by decide)).2) ?_
    show own_R p.tables e below _ T0 (mkF m 40 #[.val (.int (4 : Int32))] [])
    obtain ⟨T1, X1, e1, st1⟩ := getS X0 hx hZ hown (host := "") (hw _ (List.mem_of_getElem? (i := 20) rfl)) Via.refl e0 S1 (g := (mkF m 40 #[.val (.int (4 : Int32))] [])) rfl (hb hby d1_40)
    refine own_go st1 ?_
    show own_R p.tables e below _ T1 (mkF m 43 #[.val (.int (4 : Int32))] [(.ref a)])
    exact own_end X1 (some (.ref a)) (fun h => by rw [hret] at h; cases h) hlk (fun fs hr => own_retA X1 hx hret rfl rfl (hb hby d1_43) hr) ⟨a, rfl, N0, e1, E1, F1⟩ (by decide) (by decide)
  · show own_R p.tables e below _ T0 (mkF m 0 #[.val (.int (5 : Int32))] [])
    obtain ⟨a, S1, E1, F1⟩ := MP_5
    refine own_go (fun _ => XS.iloadN X0.here hx rfl (hb hby d1_0) rfl ) ?_
    show own_R p.tables e below _ T0 (mkF m 1 #[.val (.int (5 : Int32))] [(.int (5 : Int32))])
    refine own_go (fun _ => XS.ifYes X0.here hx rfl (pc0 := 1) (pc' := 8) rfl (hb hby d1_1) rfl ((if0 _ _).trans (feq (by decide)).2) (by decide) (by decide)) ?_
    show own_R p.tables e below _ T0 (mkF m 8 #[.val (.int (5 : Int32))] [])
    refine own_go (fun _ => XS.iloadN X0.here hx rfl (hb hby d1_8) rfl ) ?_
    show own_R p.tables e below _ T0 (mkF m 9 #[.val (.int (5 : Int32))] [(.int (5 : Int32))])
    refine own_go (fun _ => XS.iconst X0.here hx rfl (hb hby d1_9)) ?_
    show own_R p.tables e below _ T0 (mkF m 10 #[.val (.int (5 : Int32))] [(.int (1 : Int32)), (.int (5 : Int32))])
    refine own_go (fun _ => XS.icmpYes X0.here hx rfl (pc0 := 10) (pc' := 17) rfl (hb hby d1_10) rfl (feq (by decide)).2 (by decide) (by decide)) ?_
    show own_R p.tables e below _ T0 (mkF m 17 #[.val (.int (5 : Int32))] [])
    refine own_go (fun _ => XS.iloadN X0.here hx rfl (hb hby d1_17) rfl ) ?_
    show own_R p.tables e below _ T0 (mkF m 18 #[.val (.int (5 : Int32))] [(.int (5 : Int32))])
    refine own_go (fun _ => XS.iconst X0.here hx rfl (hb hby d1_18)) ?_
    show own_R p.tables e below _ T0 (mkF m 19 #[.val (.int (5 : Int32))] [(.int (2 : Int32)), (.int (5 : Int32))])
    refine own_go (fun _ => XS.icmpYes X0.here hx rfl (pc0 := 19) (pc' := 26) rfl (hb hby d1_19) rfl (feq (by decide)).2 (by decide) (by decide)) ?_
    show own_R p.tables e below _ T0 (mkF m 26 #[.val (.int (5 : Int32))] [])
    refine own_go (fun _ => XS.iloadN X0.here hx rfl (hb hby d1_26) rfl ) ?_
    show own_R p.tables e below _ T0 (mkF m 27 #[.val (.int (5 : Int32))] [(.int (5 : Int32))])
    refine own_go (fun _ => XS.iconst X0.here hx rfl (hb hby d1_27)) ?_
    show own_R p.tables e below _ T0 (mkF m 28 #[.val (.int (5 : Int32))] [(.int (3 : Int32)), (.int (5 : Int32))])
    refine own_go (fun _ => XS.icmpYes X0.here hx rfl (pc0 := 28) (pc' := 35) rfl (hb hby d1_28) rfl (feq (by decide)).2 (by decide) (by decide)) ?_
    show own_R p.tables e below _ T0 (mkF m 35 #[.val (.int (5 : Int32))] [])
    refine own_go (fun _ => XS.iloadN X0.here hx rfl (hb hby d1_35) rfl ) ?_
    show own_R p.tables e below _ T0 (mkF m 36 #[.val (.int (5 : Int32))] [(.int (5 : Int32))])
    refine own_go (fun _ => XS.iconst X0.here hx rfl (hb hby d1_36)) ?_
    show own_R p.tables e below _ T0 (mkF m 37 #[.val (.int (5 : Int32))] [(.int (4 : Int32)), (.int (5 : Int32))])
    refine own_go (fun _ => XS.icmpYes X0.here hx rfl (pc0 := 37) (pc' := 44) rfl (hb hby d1_37) rfl (feq (by decide)).2 (by decide) (by decide)) ?_
    show own_R p.tables e below _ T0 (mkF m 44 #[.val (.int (5 : Int32))] [])
    refine own_go (fun _ => XS.iloadN X0.here hx rfl (hb hby d1_44) rfl ) ?_
    show own_R p.tables e below _ T0 (mkF m 45 #[.val (.int (5 : Int32))] [(.int (5 : Int32))])
    refine own_go (fun _ => XS.iconst X0.here hx rfl (hb hby d1_45)) ?_
    show own_R p.tables e below _ T0 (mkF m 46 #[.val (.int (5 : Int32))] [(.int (5 : Int32)), (.int (5 : Int32))])
    refine own_go (fun _ => XS.icmpNo X0.here hx rfl (hb hby d1_46) rfl (teq (by decide)).2) ?_
    show own_R p.tables e below _ T0 (mkF m 49 #[.val (.int (5 : Int32))] [])
    obtain ⟨T1, X1, e1, st1⟩ := getS X0 hx hZ hown (host := "") (hw _ (List.mem_of_getElem? (i := 32) rfl)) Via.refl e0 S1 (g := (mkF m 49 #[.val (.int (5 : Int32))] [])) rfl (hb hby d1_49)
    refine own_go st1 ?_
    show own_R p.tables e below _ T1 (mkF m 52 #[.val (.int (5 : Int32))] [(.ref a)])
    exact own_end X1 (some (.ref a)) (fun h => by rw [hret] at h; cases h) hlk (fun fs hr => own_retA X1 hx hret rfl rfl (hb hby d1_52) hr) ⟨a, rfl, N0, e1, E1, F1⟩ (by decide) (by decide)
  · show own_R p.tables e below _ T0 (mkF m 0 #[.val (.int (6 : Int32))] [])
    obtain ⟨a, S1, E1, F1⟩ := MP_10
    refine own_go (fun _ => XS.iloadN X0.here hx rfl (hb hby d1_0) rfl ) ?_
    show own_R p.tables e below _ T0 (mkF m 1 #[.val (.int (6 : Int32))] [(.int (6 : Int32))])
    refine own_go (fun _ => XS.ifYes X0.here hx rfl (pc0 := 1) (pc' := 8) rfl (hb hby d1_1) rfl ((if0 _ _).trans (feq (by decide)).2) (by decide) (by decide)) ?_
    show own_R p.tables e below _ T0 (mkF m 8 #[.val (.int (6 : Int32))] [])
    refine own_go (fun _ => XS.iloadN X0.here hx rfl (hb hby d1_8) rfl ) ?_
    show own_R p.tables e below _ T0 (mkF m 9 #[.val (.int (6 : Int32))] [(.int (6 : Int32))])
    refine own_go (fun _ => XS.iconst X0.here hx rfl (hb hby d1_9)) ?_
    show own_R p.tables e below _ T0 (mkF m 10 #[.val (.int (6 : Int32))] [(.int (1 : Int32)), (.int (6 : Int32))])
    refine own_go (fun _ => XS.icmpYes X0.here hx rfl (pc0 := 10) (pc' := 17) rfl (hb hby d1_10) rfl (feq (by decide)).2 (by decide) (by decide)) ?_
    show own_R p.tables e below _ T0 (mkF m 17 #[.val (.int (6 : Int32))] [])
    refine own_go (fun _ => XS.iloadN X0.here hx rfl (hb hby d1_17) rfl ) ?_
    show own_R p.tables e below _ T0 (mkF m 18 #[.val (.int (6 : Int32))] [(.int (6 : Int32))])
    refine own_go (fun _ => XS.iconst X0.here hx rfl (hb hby d1_18)) ?_
    show own_R p.tables e below _ T0 (mkF m 19 #[.val (.int (6 : Int32))] [(.int (2 : Int32)), (.int (6 : Int32))])
    refine own_go (fun _ => XS.icmpYes X0.here hx rfl (pc0 := 19) (pc' := 26) rfl (hb hby d1_19) rfl (feq (by decide)).2 (by decide) (by decide)) ?_
    show own_R p.tables e below _ T0 (mkF m 26 #[.val (.int (6 : Int32))] [])
    refine own_go (fun _ => XS.iloadN X0.here hx rfl (hb hby d1_26) rfl ) ?_
    show own_R p.tables e below _ T0 (mkF m 27 #[.val (.int (6 : Int32))] [(.int (6 : Int32))])
    refine own_go (fun _ => XS.iconst X0.here hx rfl (hb hby d1_27)) ?_
    show own_R p.tables e below _ T0 (mkF m 28 #[.val (.int (6 : Int32))] [(.int (3 : Int32)), (.int (6 : Int32))])
    refine own_go (fun _ => XS.icmpYes X0.here hx rfl (pc0 := 28) (pc' := 35) rfl (hb hby d1_28) rfl (feq (by decide)).2 (by decide) (by decide)) ?_
    show own_R p.tables e below _ T0 (mkF m 35 #[.val (.int (6 : Int32))] [])
    refine own_go (fun _ => XS.iloadN X0.here hx rfl (hb hby d1_35) rfl ) ?_
    show own_R p.tables e below _ T0 (mkF m 36 #[.val (.int (6 : Int32))] [(.int (6 : Int32))])
    refine own_go (fun _ => XS.iconst X0.here hx rfl (hb hby d1_36)) ?_
    show own_R p.tables e below _ T0 (mkF m 37 #[.val (.int (6 : Int32))] [(.int (4 : Int32)), (.int (6 : Int32))])
    refine own_go (fun _ => XS.icmpYes X0.here hx rfl (pc0 := 37) (pc' := 44) rfl (hb hby d1_37) rfl (feq (by decide)).2 (by decide) (by decide)) ?_
    show own_R p.tables e below _ T0 (mkF m 44 #[.val (.int (6 : Int32))] [])
    refine own_go (fun _ => XS.iloadN X0.here hx rfl (hb hby d1_44) rfl ) ?_
    show own_R p.tables e below _ T0 (mkF m 45 #[.val (.int (6 : Int32))] [(.int (6 : Int32))])
    refine own_go (fun _ => XS.iconst X0.here hx rfl (hb hby d1_45)) ?_
    show own_R p.tables e below _ T0 (mkF m 46 #[.val (.int (6 : Int32))] [(.int (5 : Int32)), (.int (6 : Int32))])
    refine own_go (fun _ => XS.icmpYes X0.here hx rfl (pc0 := 46) (pc' := 53) rfl (hb hby d1_46) rfl (feq (by decide)).2 (by decide) (by decide)) ?_
    show own_R p.tables e below _ T0 (mkF m 53 #[.val (.int (6 : Int32))] [])
    refine own_go (fun _ => XS.iloadN X0.here hx rfl (hb hby d1_53) rfl ) ?_
    show own_R p.tables e below _ T0 (mkF m 54 #[.val (.int (6 : Int32))] [(.int (6 : Int32))])
    refine own_go (fun _ => XS.bipush X0.here hx rfl (hb hby d1_54)) ?_
    show own_R p.tables e below _ T0 (mkF m 56 #[.val (.int (6 : Int32))] [(.int (6 : Int32)), (.int (6 : Int32))])
    refine own_go (fun _ => XS.icmpNo X0.here hx rfl (hb hby d1_56) rfl (teq (by decide)).2) ?_
    show own_R p.tables e below _ T0 (mkF m 59 #[.val (.int (6 : Int32))] [])
    obtain ⟨T1, X1, e1, st1⟩ := getS X0 hx hZ hown (host := "") (hw _ (List.mem_of_getElem? (i := 26) rfl)) Via.refl e0 S1 (g := (mkF m 59 #[.val (.int (6 : Int32))] [])) rfl (hb hby d1_59)
    refine own_go st1 ?_
    show own_R p.tables e below _ T1 (mkF m 62 #[.val (.int (6 : Int32))] [(.ref a)])
    exact own_end X1 (some (.ref a)) (fun h => by rw [hret] at h; cases h) hlk (fun fs hr => own_retA X1 hx hret rfl rfl (hb hby d1_62) hr) ⟨a, rfl, N0, e1, E1, F1⟩ (by decide) (by decide)
  · show own_R p.tables e below _ T0 (mkF m 0 #[.val (.int (7 : Int32))] [])
    obtain ⟨a, S1, E1, F1⟩ := MSUCCESS_1
    refine own_go (fun _ => XS.iloadN X0.here hx rfl (hb hby d1_0) rfl ) ?_
    show own_R p.tables e below _ T0 (mkF m 1 #[.val (.int (7 : Int32))] [(.int (7 : Int32))])
    refine own_go (fun _ => XS.ifYes X0.here hx rfl (pc0 := 1) (pc' := 8) rfl (hb hby d1_1) rfl ((if0 _ _).trans (feq (by decide)).2) (by decide) (by decide)) ?_
    show own_R p.tables e below _ T0 (mkF m 8 #[.val (.int (7 : Int32))] [])
    refine own_go (fun _ => XS.iloadN X0.here hx rfl (hb hby d1_8) rfl ) ?_
    show own_R p.tables e below _ T0 (mkF m 9 #[.val (.int (7 : Int32))] [(.int (7 : Int32))])
    refine own_go (fun _ => XS.iconst X0.here hx rfl (hb hby d1_9)) ?_
    show own_R p.tables e below _ T0 (mkF m 10 #[.val (.int (7 : Int32))] [(.int (1 : Int32)), (.int (7 : Int32))])
    refine own_go (fun _ => XS.icmpYes X0.here hx rfl (pc0 := 10) (pc' := 17) rfl (hb hby d1_10) rfl (feq (by decide)).2 (by decide) (by decide)) ?_
    show own_R p.tables e below _ T0 (mkF m 17 #[.val (.int (7 : Int32))] [])
    refine own_go (fun _ => XS.iloadN X0.here hx rfl (hb hby d1_17) rfl ) ?_
    show own_R p.tables e below _ T0 (mkF m 18 #[.val (.int (7 : Int32))] [(.int (7 : Int32))])
    refine own_go (fun _ => XS.iconst X0.here hx rfl (hb hby d1_18)) ?_
    show own_R p.tables e below _ T0 (mkF m 19 #[.val (.int (7 : Int32))] [(.int (2 : Int32)), (.int (7 : Int32))])
    refine own_go (fun _ => XS.icmpYes X0.here hx rfl (pc0 := 19) (pc' := 26) rfl (hb hby d1_19) rfl (feq (by decide)).2 (by decide) (by decide)) ?_
    show own_R p.tables e below _ T0 (mkF m 26 #[.val (.int (7 : Int32))] [])
    refine own_go (fun _ => XS.iloadN X0.here hx rfl (hb hby d1_26) rfl ) ?_
    show own_R p.tables e below _ T0 (mkF m 27 #[.val (.int (7 : Int32))] [(.int (7 : Int32))])
    refine own_go (fun _ => XS.iconst X0.here hx rfl (hb hby d1_27)) ?_
    show own_R p.tables e below _ T0 (mkF m 28 #[.val (.int (7 : Int32))] [(.int (3 : Int32)), (.int (7 : Int32))])
    refine own_go (fun _ => XS.icmpYes X0.here hx rfl (pc0 := 28) (pc' := 35) rfl (hb hby d1_28) rfl (feq (by decide)).2 (by decide) (by decide)) ?_
    show own_R p.tables e below _ T0 (mkF m 35 #[.val (.int (7 : Int32))] [])
    refine own_go (fun _ => XS.iloadN X0.here hx rfl (hb hby d1_35) rfl ) ?_
    show own_R p.tables e below _ T0 (mkF m 36 #[.val (.int (7 : Int32))] [(.int (7 : Int32))])
    refine own_go (fun _ => XS.iconst X0.here hx rfl (hb hby d1_36)) ?_
    show own_R p.tables e below _ T0 (mkF m 37 #[.val (.int (7 : Int32))] [(.int (4 : Int32)), (.int (7 : Int32))])
    refine own_go (fun _ => XS.icmpYes X0.here hx rfl (pc0 := 37) (pc' := 44) rfl (hb hby d1_37) rfl (feq (by decide)).2 (by decide) (by decide)) ?_
    show own_R p.tables e below _ T0 (mkF m 44 #[.val (.int (7 : Int32))] [])
    refine own_go (fun _ => XS.iloadN X0.here hx rfl (hb hby d1_44) rfl ) ?_
    show own_R p.tables e below _ T0 (mkF m 45 #[.val (.int (7 : Int32))] [(.int (7 : Int32))])
    refine own_go (fun _ => XS.iconst X0.here hx rfl (hb hby d1_45)) ?_
    show own_R p.tables e below _ T0 (mkF m 46 #[.val (.int (7 : Int32))] [(.int (5 : Int32)), (.int (7 : Int32))])
    refine own_go (fun _ => XS.icmpYes X0.here hx rfl (pc0 := 46) (pc' := 53) rfl (hb hby d1_46) rfl (feq (by decide)).2 (by decide) (by decide)) ?_
    show own_R p.tables e below _ T0 (mkF m 53 #[.val (.int (7 : Int32))] [])
    refine own_go (fun _ => XS.iloadN X0.here hx rfl (hb hby d1_53) rfl ) ?_
    show own_R p.tables e below _ T0 (mkF m 54 #[.val (.int (7 : Int32))] [(.int (7 : Int32))])
    refine own_go (fun _ => XS.bipush X0.here hx rfl (hb hby d1_54)) ?_
    show own_R p.tables e below _ T0 (mkF m 56 #[.val (.int (7 : Int32))] [(.int (6 : Int32)), (.int (7 : Int32))])
    refine own_go (fun _ => XS.icmpYes X0.here hx rfl (pc0 := 56) (pc' := 63) rfl (hb hby d1_56) rfl (feq (by decide)).2 (by decide) (by decide)) ?_
    show own_R p.tables e below _ T0 (mkF m 63 #[.val (.int (7 : Int32))] [])
    refine own_go (fun _ => XS.iloadN X0.here hx rfl (hb hby d1_63) rfl ) ?_
    show own_R p.tables e below _ T0 (mkF m 64 #[.val (.int (7 : Int32))] [(.int (7 : Int32))])
    refine own_go (fun _ => XS.bipush X0.here hx rfl (hb hby d1_64)) ?_
    show own_R p.tables e below _ T0 (mkF m 66 #[.val (.int (7 : Int32))] [(.int (7 : Int32)), (.int (7 : Int32))])
    refine own_go (fun _ => XS.icmpNo X0.here hx rfl (hb hby d1_66) rfl (teq (by decide)).2) ?_
    show own_R p.tables e below _ T0 (mkF m 69 #[.val (.int (7 : Int32))] [])
    obtain ⟨T1, X1, e1, st1⟩ := getS X0 hx hZ hown (host := "") (hw _ (List.mem_of_getElem? (i := 30) rfl)) Via.refl e0 S1 (g := (mkF m 69 #[.val (.int (7 : Int32))] [])) rfl (hb hby d1_69)
    refine own_go st1 ?_
    show own_R p.tables e below _ T1 (mkF m 72 #[.val (.int (7 : Int32))] [(.ref a)])
    exact own_end X1 (some (.ref a)) (fun h => by rw [hret] at h; cases h) hlk (fun fs hr => own_retA X1 hx hret rfl rfl (hb hby d1_72) hr) ⟨a, rfl, N0, e1, E1, F1⟩ (by decide) (by decide)
  · show own_R p.tables e below _ T0 (mkF m 0 #[.val (.int (8 : Int32))] [])
    obtain ⟨a, S1, E1, F1⟩ := MSUCCESS_5
    refine own_go (fun _ => XS.iloadN X0.here hx rfl (hb hby d1_0) rfl ) ?_
    show own_R p.tables e below _ T0 (mkF m 1 #[.val (.int (8 : Int32))] [(.int (8 : Int32))])
    refine own_go (fun _ => XS.ifYes X0.here hx rfl (pc0 := 1) (pc' := 8) rfl (hb hby d1_1) rfl ((if0 _ _).trans (feq (by decide)).2) (by decide) (by decide)) ?_
    show own_R p.tables e below _ T0 (mkF m 8 #[.val (.int (8 : Int32))] [])
    refine own_go (fun _ => XS.iloadN X0.here hx rfl (hb hby d1_8) rfl ) ?_
    show own_R p.tables e below _ T0 (mkF m 9 #[.val (.int (8 : Int32))] [(.int (8 : Int32))])
    refine own_go (fun _ => XS.iconst X0.here hx rfl (hb hby d1_9)) ?_
    show own_R p.tables e below _ T0 (mkF m 10 #[.val (.int (8 : Int32))] [(.int (1 : Int32)), (.int (8 : Int32))])
    refine own_go (fun _ => XS.icmpYes X0.here hx rfl (pc0 := 10) (pc' := 17) rfl (hb hby d1_10) rfl (feq (by decide)).2 (by decide) (by decide)) ?_
    show own_R p.tables e below _ T0 (mkF m 17 #[.val (.int (8 : Int32))] [])
    refine own_go (fun _ => XS.iloadN X0.here hx rfl (hb hby d1_17) rfl ) ?_
    show own_R p.tables e below _ T0 (mkF m 18 #[.val (.int (8 : Int32))] [(.int (8 : Int32))])
    refine own_go (fun _ => XS.iconst X0.here hx rfl (hb hby d1_18)) ?_
    show own_R p.tables e below _ T0 (mkF m 19 #[.val (.int (8 : Int32))] [(.int (2 : Int32)), (.int (8 : Int32))])
    refine own_go (fun _ => XS.icmpYes X0.here hx rfl (pc0 := 19) (pc' := 26) rfl (hb hby d1_19) rfl (feq (by decide)).2 (by decide) (by decide)) ?_
    show own_R p.tables e below _ T0 (mkF m 26 #[.val (.int (8 : Int32))] [])
    refine own_go (fun _ => XS.iloadN X0.here hx rfl (hb hby d1_26) rfl ) ?_
    show own_R p.tables e below _ T0 (mkF m 27 #[.val (.int (8 : Int32))] [(.int (8 : Int32))])
    refine own_go (fun _ => XS.iconst X0.here hx rfl (hb hby d1_27)) ?_
    show own_R p.tables e below _ T0 (mkF m 28 #[.val (.int (8 : Int32))] [(.int (3 : Int32)), (.int (8 : Int32))])
    refine own_go (fun _ => XS.icmpYes X0.here hx rfl (pc0 := 28) (pc' := 35) rfl (hb hby d1_28) rfl (feq (by decide)).2 (by decide) (by decide)) ?_
    show own_R p.tables e below _ T0 (mkF m 35 #[.val (.int (8 : Int32))] [])
    refine own_go (fun _ => XS.iloadN X0.here hx rfl (hb hby d1_35) rfl ) ?_
    show own_R p.tables e below _ T0 (mkF m 36 #[.val (.int (8 : Int32))] [(.int (8 : Int32))])
    refine own_go (fun _ => XS.iconst X0.here hx rfl (hb hby d1_36)) ?_
    show own_R p.tables e below _ T0 (mkF m 37 #[.val (.int (8 : Int32))] [(.int (4 : Int32)), (.int (8 : Int32))])
    refine own_go (fun _ => XS.icmpYes X0.here hx rfl (pc0 := 37) (pc' := 44) rfl (hb hby d1_37) rfl (feq (by decide)).2 (by decide) (by decide)) ?_
    show own_R p.tables e below _ T0 (mkF m 44 #[.val (.int (8 : Int32))] [])
    refine own_go (fun _ => XS.iloadN X0.here hx rfl (hb hby d1_44) rfl ) ?_
    show own_R p.tables e below _ T0 (mkF m 45 #[.val (.int (8 : Int32))] [(.int (8 : Int32))])
    refine own_go (fun _ => XS.iconst X0.here hx rfl (hb hby d1_45)) ?_
    show own_R p.tables e below _ T0 (mkF m 46 #[.val (.int (8 : Int32))] [(.int (5 : Int32)), (.int (8 : Int32))])
    refine own_go (fun _ => XS.icmpYes X0.here hx rfl (pc0 := 46) (pc' := 53) rfl (hb hby d1_46) rfl (feq (by decide)).2 (by decide) (by decide)) ?_
    show own_R p.tables e below _ T0 (mkF m 53 #[.val (.int (8 : Int32))] [])
    refine own_go (fun _ => XS.iloadN X0.here hx rfl (hb hby d1_53) rfl ) ?_
    show own_R p.tables e below _ T0 (mkF m 54 #[.val (.int (8 : Int32))] [(.int (8 : Int32))])
    refine own_go (fun _ => XS.bipush X0.here hx rfl (hb hby d1_54)) ?_
    show own_R p.tables e below _ T0 (mkF m 56 #[.val (.int (8 : Int32))] [(.int (6 : Int32)), (.int (8 : Int32))])
    refine own_go (fun _ => XS.icmpYes X0.here hx rfl (pc0 := 56) (pc' := 63) rfl (hb hby d1_56) rfl (feq (by decide)).2 (by decide) (by decide)) ?_
    show own_R p.tables e below _ T0 (mkF m 63 #[.val (.int (8 : Int32))] [])
    refine own_go (fun _ => XS.iloadN X0.here hx rfl (hb hby d1_63) rfl ) ?_
    show own_R p.tables e below _ T0 (mkF m 64 #[.val (.int (8 : Int32))] [(.int (8 : Int32))])
    refine own_go (fun _ => XS.bipush X0.here hx rfl (hb hby d1_64)) ?_
    show own_R p.tables e below _ T0 (mkF m 66 #[.val (.int (8 : Int32))] [(.int (7 : Int32)), (.int (8 : Int32))])
    refine own_go (fun _ => XS.icmpYes X0.here hx rfl (pc0 := 66) (pc' := 73) rfl (hb hby d1_66) rfl (feq (by decide)).2 (by decide) (by decide)) ?_
    show own_R p.tables e below _ T0 (mkF m 73 #[.val (.int (8 : Int32))] [])
    refine own_go (fun _ => XS.iloadN X0.here hx rfl (hb hby d1_73) rfl ) ?_
    show own_R p.tables e below _ T0 (mkF m 74 #[.val (.int (8 : Int32))] [(.int (8 : Int32))])
    refine own_go (fun _ => XS.bipush X0.here hx rfl (hb hby d1_74)) ?_
    show own_R p.tables e below _ T0 (mkF m 76 #[.val (.int (8 : Int32))] [(.int (8 : Int32)), (.int (8 : Int32))])
    refine own_go (fun _ => XS.icmpNo X0.here hx rfl (hb hby d1_76) rfl (teq (by decide)).2) ?_
    show own_R p.tables e below _ T0 (mkF m 79 #[.val (.int (8 : Int32))] [])
    obtain ⟨T1, X1, e1, st1⟩ := getS X0 hx hZ hown (host := "") (hw _ (List.mem_of_getElem? (i := 28) rfl)) Via.refl e0 S1 (g := (mkF m 79 #[.val (.int (8 : Int32))] [])) rfl (hb hby d1_79)
    refine own_go st1 ?_
    show own_R p.tables e below _ T1 (mkF m 82 #[.val (.int (8 : Int32))] [(.ref a)])
    exact own_end X1 (some (.ref a)) (fun h => by rw [hret] at h; cases h) hlk (fun fs hr => own_retA X1 hx hret rfl rfl (hb hby d1_82) hr) ⟨a, rfl, N0, e1, E1, F1⟩ (by decide) (by decide)
  · show own_R p.tables e below _ T0 (mkF m 0 #[.val (.int (9 : Int32))] [])
    obtain ⟨a, S1, E1, F1⟩ := MSUCCESS_10
    refine own_go (fun _ => XS.iloadN X0.here hx rfl (hb hby d1_0) rfl ) ?_
    show own_R p.tables e below _ T0 (mkF m 1 #[.val (.int (9 : Int32))] [(.int (9 : Int32))])
    refine own_go (fun _ => XS.ifYes X0.here hx rfl (pc0 := 1) (pc' := 8) rfl (hb hby d1_1) rfl ((if0 _ _).trans (feq (by decide)).2) (by decide) (by decide)) ?_
    show own_R p.tables e below _ T0 (mkF m 8 #[.val (.int (9 : Int32))] [])
    refine own_go (fun _ => XS.iloadN X0.here hx rfl (hb hby d1_8) rfl ) ?_
    show own_R p.tables e below _ T0 (mkF m 9 #[.val (.int (9 : Int32))] [(.int (9 : Int32))])
    refine own_go (fun _ => XS.iconst X0.here hx rfl (hb hby d1_9)) ?_
    show own_R p.tables e below _ T0 (mkF m 10 #[.val (.int (9 : Int32))] [(.int (1 : Int32)), (.int (9 : Int32))])
    refine own_go (fun _ => XS.icmpYes X0.here hx rfl (pc0 := 10) (pc' := 17) rfl (hb hby d1_10) rfl (feq (by decide)).2 (by decide) (by decide)) ?_
    show own_R p.tables e below _ T0 (mkF m 17 #[.val (.int (9 : Int32))] [])
    refine own_go (fun _ => XS.iloadN X0.here hx rfl (hb hby d1_17) rfl ) ?_
    show own_R p.tables e below _ T0 (mkF m 18 #[.val (.int (9 : Int32))] [(.int (9 : Int32))])
    refine own_go (fun _ => XS.iconst X0.here hx rfl (hb hby d1_18)) ?_
    show own_R p.tables e below _ T0 (mkF m 19 #[.val (.int (9 : Int32))] [(.int (2 : Int32)), (.int (9 : Int32))])
    refine own_go (fun _ => XS.icmpYes X0.here hx rfl (pc0 := 19) (pc' := 26) rfl (hb hby d1_19) rfl (feq (by decide)).2 (by decide) (by decide)) ?_
    show own_R p.tables e below _ T0 (mkF m 26 #[.val (.int (9 : Int32))] [])
    refine own_go (fun _ => XS.iloadN X0.here hx rfl (hb hby d1_26) rfl ) ?_
    show own_R p.tables e below _ T0 (mkF m 27 #[.val (.int (9 : Int32))] [(.int (9 : Int32))])
    refine own_go (fun _ => XS.iconst X0.here hx rfl (hb hby d1_27)) ?_
    show own_R p.tables e below _ T0 (mkF m 28 #[.val (.int (9 : Int32))] [(.int (3 : Int32)), (.int (9 : Int32))])
    refine own_go (fun _ => XS.icmpYes X0.here hx rfl (pc0 := 28) (pc' := 35) rfl (hb hby d1_28) rfl (feq (by decide)).2 (by decide) (by decide)) ?_
    show own_R p.tables e below _ T0 (mkF m 35 #[.val (.int (9 : Int32))] [])
    refine own_go (fun _ => XS.iloadN X0.here hx rfl (hb hby d1_35) rfl ) ?_
    show own_R p.tables e below _ T0 (mkF m 36 #[.val (.int (9 : Int32))] [(.int (9 : Int32))])
    refine own_go (fun _ => XS.iconst X0.here hx rfl (hb hby d1_36)) ?_
    show own_R p.tables e below _ T0 (mkF m 37 #[.val (.int (9 : Int32))] [(.int (4 : Int32)), (.int (9 : Int32))])
    refine own_go (fun _ => XS.icmpYes X0.here hx rfl (pc0 := 37) (pc' := 44) rfl (hb hby d1_37) rfl (feq (by decide)).2 (by decide) (by decide)) ?_
    show own_R p.tables e below _ T0 (mkF m 44 #[.val (.int (9 : Int32))] [])
    refine own_go (fun _ => XS.iloadN X0.here hx rfl (hb hby d1_44) rfl ) ?_
    show own_R p.tables e below _ T0 (mkF m 45 #[.val (.int (9 : Int32))] [(.int (9 : Int32))])
    refine own_go (fun _ => XS.iconst X0.here hx rfl (hb hby d1_45)) ?_
    show own_R p.tables e below _ T0 (mkF m 46 #[.val (.int (9 : Int32))] [(.int (5 : Int32)), (.int (9 : Int32))])
    refine own_go (fun _ => XS.icmpYes X0.here hx rfl (pc0 := 46) (pc' := 53) rfl (hb hby d1_46) rfl (feq (by decide)).2 (by decide) (by decide)) ?_
    show own_R p.tables e below _ T0 (mkF m 53 #[.val (.int (9 : Int32))] [])
    refine own_go (fun _ => XS.iloadN X0.here hx rfl (hb hby d1_53) rfl ) ?_
    show own_R p.tables e below _ T0 (mkF m 54 #[.val (.int (9 : Int32))] [(.int (9 : Int32))])
    refine own_go (fun _ => XS.bipush X0.here hx rfl (hb hby d1_54)) ?_
    show own_R p.tables e below _ T0 (mkF m 56 #[.val (.int (9 : Int32))] [(.int (6 : Int32)), (.int (9 : Int32))])
    refine own_go (fun _ => XS.icmpYes X0.here hx rfl (pc0 := 56) (pc' := 63) rfl (hb hby d1_56) rfl (feq (by decide)).2 (by decide) (by decide)) ?_
    show own_R p.tables e below _ T0 (mkF m 63 #[.val (.int (9 : Int32))] [])
    refine own_go (fun _ => XS.iloadN X0.here hx rfl (hb hby d1_63) rfl ) ?_
    show own_R p.tables e below _ T0 (mkF m 64 #[.val (.int (9 : Int32))] [(.int (9 : Int32))])
    refine own_go (fun _ => XS.bipush X0.here hx rfl (hb hby d1_64)) ?_
    show own_R p.tables e below _ T0 (mkF m 66 #[.val (.int (9 : Int32))] [(.int (7 : Int32)), (.int (9 : Int32))])
    refine own_go (fun _ => XS.icmpYes X0.here hx rfl (pc0 := 66) (pc' := 73) rfl (hb hby d1_66) rfl (feq (by decide)).2 (by decide) (by decide)) ?_
    show own_R p.tables e below _ T0 (mkF m 73 #[.val (.int (9 : Int32))] [])
    refine own_go (fun _ => XS.iloadN X0.here hx rfl (hb hby d1_73) rfl ) ?_
    show own_R p.tables e below _ T0 (mkF m 74 #[.val (.int (9 : Int32))] [(.int (9 : Int32))])
    refine own_go (fun _ => XS.bipush X0.here hx rfl (hb hby d1_74)) ?_
    show own_R p.tables e below _ T0 (mkF m 76 #[.val (.int (9 : Int32))] [(.int (8 : Int32)), (.int (9 : Int32))])
    refine own_go (fun _ => XS.icmpYes X0.here hx rfl (pc0 := 76) (pc' := 83) rfl (hb hby d1_76) rfl (feq (by decide)).2 (by decide) (by decide)) ?_
    show own_R p.tables e below _ T0 (mkF m 83 #[.val (.int (9 : Int32))] [])
    obtain ⟨T1, X1, e1, st1⟩ := getS X0 hx hZ hown (host := "") (hw _ (List.mem_of_getElem? (i := 18) rfl)) Via.refl e0 S1 (g := (mkF m 83 #[.val (.int (9 : Int32))] [])) rfl (hb hby d1_83)
    refine own_go st1 ?_
    show own_R p.tables e below _ T1 (mkF m 86 #[.val (.int (9 : Int32))] [(.ref a)])
    exact own_end X1 (some (.ref a)) (fun h => by rw [hret] at h; cases h) hlk (fun fs hr => own_retA X1 hx hret rfl rfl (hb hby d1_86) hr) ⟨a, rfl, N0, e1, E1, F1⟩ (by decide) (by decide)
def own_sm (c : Int32) (sum : UInt64) (t : Int32) : UInt64 := if c = 0 then FP.ddiv sum (FP.i2d t) else sum
set_option maxRecDepth 65536 in
set_option maxHeartbeats 4000000 in
theorem rmSm (l : Launch) (Z : State) (a0 : Array Value) (hw : ∀ d ∈ tables_1, d.before a0 Z = true) (ws : List Jvm.Cond) (h0 : Heap) (n0 : Nat) (a : Addr) (c0 : Int32) (sum : UInt64) (t : Int32) (hn : c0 = 0 → Jvm.Free.Fl.NoNaN64 (FP.ddiv sum (FP.i2d t))) (F : Fld Z h0 a "com/example/kookaburra/kookaburra/eval/Measure" "count" "Z" (.int c0)) :
    own_C l Z (⟨"com/example/kookaburra/kookaburra/eval/Measure", "summary", "(DI)D"⟩ : MethodName) prog_4_method_6_code 4 (some .double) ws ({ frames := 0, cells := 0, slots := 0, locals := 0 } : Room) #[(.ref a), (.double sum), (.int t)] h0 (own_Qr (some (.double (own_sm c0 sum t))) h0 n0) := by
  refine own_body (ls := #[.val (.ref a), .val (.double sum), .second, .val (.int t)]) pn_2 (fun m => by first | (simp [entryFrame, mkF, argsToLocals, Value.category]; done) | rfl) ?_
  intro p e s m below meth c T0 hZ hx hby hml hown hnm hret hlk X0 e0
  replace hml : c.maxLocals = 4 := hml
  have N0 := Fr.nil n0
  refine own_go (fun _ => XS.aloadN X0.here hx rfl (hb hby d2_0) rfl rfl) ?_
  show own_R p.tables e below _ T0 (mkF m 1 #[.val (.ref a), .val (.double sum), .second, .val (.int t)] [(.ref a)])
  obtain ⟨T1, X1, e1, st1⟩ := getF X0 hx hZ hown (host := "") (Or.inl (hw _ (List.mem_of_getElem? (i := 14) rfl))) Via.refl e0 F (g := (mkF m 1 #[.val (.ref a), .val (.double sum), .second, .val (.int t)] [(.ref a)])) rfl rfl (hb hby d2_1)
  refine own_go st1 ?_
  show own_R p.tables e below _ T1 (mkF m 4 #[.val (.ref a), .val (.double sum), .second, .val (.int t)] [(.int c0)])
  by_cases hc : c0 = (0 : Int32)
  · show own_R p.tables e below _ T1 (mkF m 4 #[.val (.ref a), .val (.double sum), .second, .val (.int t)] [(.int c0)])
    refine own_go (fun _ => XS.ifYes X1.here hx rfl (pc0 := 4) (pc' := 11) rfl (hb hby d2_4) rfl ((if0 _ _).trans (teq hc).1) (by decide) (by decide)) ?_
    show own_R p.tables e below _ T1 (mkF m 11 #[.val (.ref a), .val (.double sum), .second, .val (.int t)] [])
    refine own_go (fun _ => XS.dloadN X1.here hx rfl (hb hby d2_11) rfl ) ?_
    show own_R p.tables e below _ T1 (mkF m 12 #[.val (.ref a), .val (.double sum), .second, .val (.int t)] [(.double sum)])
    refine own_go (fun _ => XS.iloadN X1.here hx rfl (hb hby d2_12) rfl ) ?_
    show own_R p.tables e below _ T1 (mkF m 13 #[.val (.ref a), .val (.double sum), .second, .val (.int t)] [(.int t), (.double sum)])
    refine own_go (fun _ => XS.i2dS X1.here hx rfl (hb hby d2_13) rfl rfl) ?_
    show own_R p.tables e below _ T1 (mkF m 14 #[.val (.ref a), .val (.double sum), .second, .val (.int t)] [(.double (FP.i2d t)), (.double sum)])
    refine own_go (fun _ => XS.ddivS X1.here hx rfl (hb hby d2_14) rfl (hn hc) rfl) ?_
    show own_R p.tables e below _ T1 (mkF m 15 #[.val (.ref a), .val (.double sum), .second, .val (.int t)] [(.double (FP.ddiv sum (FP.i2d t)))])
    have ev : own_sm c0 sum t = FP.ddiv sum (FP.i2d t) := if_pos hc
    exact own_end X1 (some (.double (FP.ddiv sum (FP.i2d t)))) (fun h => by rw [hret] at h; cases h) hlk (fun fs hr => own_retD X1 hx hret (hb hby d2_15) hr) ⟨by rw [ev], N0, e1⟩ (by decide) (by decide)
  · show own_R p.tables e below _ T1 (mkF m 4 #[.val (.ref a), .val (.double sum), .second, .val (.int t)] [(.int c0)])
    refine own_go (fun _ => XS.ifNo X1.here hx rfl (hb hby d2_4) rfl ((if0 _ _).trans (feq hc).1)) ?_
    show own_R p.tables e below _ T1 (mkF m 7 #[.val (.ref a), .val (.double sum), .second, .val (.int t)] [])
    refine own_go (fun _ => XS.dloadN X1.here hx rfl (hb hby d2_7) rfl ) ?_
    show own_R p.tables e below _ T1 (mkF m 8 #[.val (.ref a), .val (.double sum), .second, .val (.int t)] [(.double sum)])
    refine own_go (fun _ => XS.goto X1.here hx rfl (pc0 := 8) (pc' := 15) rfl (hb hby d2_8) (by decide) (by decide)) ?_
    show own_R p.tables e below _ T1 (mkF m 15 #[.val (.ref a), .val (.double sum), .second, .val (.int t)] [(.double sum)])
    have ev : own_sm c0 sum t = sum := if_neg hc
    exact own_end X1 (some (.double sum)) (fun h => by rw [hret] at h; cases h) hlk (fun fs hr => own_retD X1 hx hret (hb hby d2_15) hr) ⟨by rw [ev], N0, e1⟩ (by decide) (by decide)
theorem own_cv_lt (m n : Int) (o : CmpOp) : cmpValue (some (compare m n)) o < 0 ↔ m < n := by
  rcases Int.lt_trichotomy m n with h | h | h
  · rw [(FP.Core.compare_lt_iff m n).mpr h]; cases o <;> simp [cmpValue, h] <;> decide
  · rw [(FP.Core.compare_eq_iff m n).mpr h]; cases o <;> simp [cmpValue, h] <;> omega
  · rw [(FP.Core.compare_gt_iff m n).mpr h]; cases o <;> simp [cmpValue] <;> omega
theorem own_cmp0 {m n : Int} {x y : UInt64} (hx : own_DH m x) (hy : own_DH n y) (h : m = n) (o : CmpOp) : cmpValue (FP.dcmp x y) o = 0 := by
  rw [own_dh_cmp hx hy, (FP.Core.compare_eq_iff m n).mpr h]
  cases o <;> rfl
theorem own_one : own_DH 2 FP.dconst1 := own_dh_int FP.Core.dint_one
theorem own_ineq {q t r U zx zy z1 z2 zd : Int} (hU : 0 < U) (ht : 0 < t) (ht2 : t ≤ 1048576) (hr : 0 < r) (hr2 : r < t) (zxe : zx = (q * t + r) * U) (zye : zy = t * U) (e1 : 2097152 * z1 = (q * 2097152 + 1) * U) (e2 : 2097152 * z2 = ((q + 1) * 2097152 - 1) * U) :
    z1 * zy ≤ zx * U ∧ zx * U ≤ z2 * zy ∧ q * U < z1 ∧ z2 < (q + 1) * U := by
  have hUU : 0 < U * U := Int.mul_pos hU hU
  refine ⟨?_, ?_, ?_, ?_⟩
  · have h1 : (q * 2097152 + 1) * t ≤ 2097152 * (q * t + r) := by
      rw [Int.add_mul, Int.mul_add, show q * 2097152 * t = 2097152 * (q * t) by ac_rfl]; omega
    have h2 := Int.mul_le_mul_of_nonneg_right h1 (Int.le_of_lt hUU)
    have h3 : 2097152 * (z1 * zy) = ((q * 2097152 + 1) * t) * (U * U) := by
      rw [← Int.mul_assoc, e1, zye]; ac_rfl
    have h4 : 2097152 * (zx * U) = (2097152 * (q * t + r)) * (U * U) := by
      rw [zxe]; ac_rfl
    omega
  · have h1 : 2097152 * (q * t + r) ≤ ((q + 1) * 2097152 - 1) * t := by
      have e : (q + 1) * 2097152 * t = 2097152 * (q * t) + 2097152 * t := by
        rw [Int.add_mul, Int.add_mul, Int.one_mul, show q * 2097152 * t = 2097152 * (q * t) by ac_rfl]
      rw [Int.sub_mul, Int.mul_add, Int.one_mul, e]; omega
    have h2 := Int.mul_le_mul_of_nonneg_right h1 (Int.le_of_lt hUU)
    have h3 : 2097152 * (z2 * zy) = (((q + 1) * 2097152 - 1) * t) * (U * U) := by
      rw [← Int.mul_assoc, e2, zye]; ac_rfl
    have h4 : 2097152 * (zx * U) = (2097152 * (q * t + r)) * (U * U) := by
      rw [zxe]; ac_rfl
    omega
  · have : (q * 2097152 + 1) * U = 2097152 * (q * U) + U := by
      rw [Int.add_mul, Int.one_mul, show q * 2097152 * U = 2097152 * (q * U) by ac_rfl]
    omega
  · have : ((q + 1) * 2097152 - 1) * U = 2097152 * ((q + 1) * U) - U := by
      rw [Int.sub_mul, Int.one_mul, show (q + 1) * 2097152 * U = 2097152 * ((q + 1) * U) by ac_rfl]
    omega
open FP.Core in
theorem own_mean {x y : UInt64} {q t r : Int} (hx : own_DH (2 * (q * t + r)) x) (hy : own_DH (2 * t) y) (ht : 0 < t) (ht2 : t ≤ 2 ^ 20) (hr : 0 < r) (hr2 : r < t) (hq : q.natAbs ≤ 2 ^ 31) :
    val64 (FP.ddiv x y) ≠ .nan ∧ q * (one64 : Int) < own_z (FP.ddiv x y) ∧ own_z (FP.ddiv x y) < (q + 1) * (one64 : Int) := by
  have hU : (0 : Int) < (one64 : Int) := by have := one64_pos; omega
  have zx : own_z x = (q * t + r) * (one64 : Int) := by have := hx.2; rw [Int.mul_assoc] at this; omega
  have zy : own_z y = t * (one64 : Int) := by have := hy.2; rw [Int.mul_assoc] at this; omega
  have hp : 0 < own_z y := by rw [zy]; exact Int.mul_pos ht hU
  obtain ⟨V1, f1, e1⟩ := own_frac (q * 2097152 + 1) 21 (by decide) (by omega)
  obtain ⟨V2, f2, e2⟩ := own_frac ((q + 1) * 2097152 - 1) 21 (by decide) (by omega)
  obtain ⟨i1, i2, i3, i4⟩ := own_ineq (zd := 0) hU ht ht2 hr hr2 zx zy e1 e2
  have c1 := own_zdiv_ge hx.1 hy.1 hp f1.ne_nan i1
  have c2 := own_zdiv_le hx.1 hy.1 hp f2.ne_nan i2
  exact ⟨(own_quot hx.1 hy.1 hp).2.1, Int.lt_of_lt_of_le i3 c1, Int.lt_of_le_of_lt c2 i4⟩
theorem own_rem10 (x y : Int32) (hx : 0 ≤ x.toInt) (hy : y.toInt = 10) : own_n9 (x % y) := by
  have q := (c_irem x y 10 hy).1 hx
  have : (x % y).toInt = 0 ∨ (x % y).toInt = 1 ∨ (x % y).toInt = 2 ∨ (x % y).toInt = 3 ∨ (x % y).toInt = 4 ∨ (x % y).toInt = 5 ∨ (x % y).toInt = 6 ∨ (x % y).toInt = 7 ∨ (x % y).toInt = 8 ∨ (x % y).toInt = 9 := by omega
  unfold own_n9
  simp only [← Int32.toInt_inj]
  exact this
theorem own_mulb {x y : Int} {A B : Nat} (hx : x.natAbs ≤ A) (hy : y.natAbs ≤ B) : (x * y).natAbs ≤ A * B := by
  rw [Int.natAbs_mul]; exact Nat.mul_le_mul hx hy
def own_Q0 (n0 : Nat) (v : Option Value) (h : Heap) (L : List Loc) : Prop := v = some (.int (1 : Int32)) ∧ Fr n0 L
set_option maxRecDepth 65536 in
set_option maxHeartbeats 40000000 in
theorem rm0 (l : Launch) (Z : State) (a0 : Array Value) (hw : ∀ d ∈ tables_1, d.before a0 Z = true) (ws : List Jvm.Cond) (h0 : Heap) (n0 : Nat) (wh qi tb rs : Int32) (MNUM_RET : own_M Z h0 "NUM_RET" 1) (MNUM_REL : own_M Z h0 "NUM_REL" 1) (MNUM_REL_RET : own_M Z h0 "NUM_REL_RET" 1) (MMAP : own_M Z h0 "MAP" 0) (MRECIP_RANK : own_M Z h0 "RECIP_RANK" 0) (MP_5 : own_M Z h0 "P_5" 0) (MP_10 : own_M Z h0 "P_10" 0) (MSUCCESS_1 : own_M Z h0 "SUCCESS_1" 0) (MSUCCESS_5 : own_M Z h0 "SUCCESS_5" 0) (MSUCCESS_10 : own_M Z h0 "SUCCESS_10" 0) :
    own_C l Z x code maxLocals ret ws room_1 #[(.int wh), (.int qi), (.int tb), (.int rs)] h0 (own_Q0 n0) := by
  refine own_body (ls := #[.val (.int wh), .val (.int qi), .val (.int tb), .val (.int rs), .unset, .unset, .unset, .unset, .unset, .unset, .unset, .unset, .unset, .unset, .unset, .unset]) pn_0 (fun m => by first | (simp [entryFrame, mkF, argsToLocals, Value.category, maxLocals]; done) | rfl) ?_
  intro p e s m below meth c T0 hZ hx hby hml hown hnm hret hlk X0 e0
  replace hml : c.maxLocals = 16 := hml
  have N0 := Fr.nil n0
  refine own_go (fun _ => XS.iloadN X0.here hx rfl (hb hby at_0) rfl ) ?_
  show own_R p.tables e below _ T0 (mkF m 1 #[.val (.int wh), .val (.int qi), .val (.int tb), .val (.int rs), .unset, .unset, .unset, .unset, .unset, .unset, .unset, .unset, .unset, .unset, .unset, .unset] [(.int wh)])
  refine own_go (X0.ldcInt hx hown (mvT hZ (hw _ (List.mem_of_getElem? (i := 0) rfl))) (g := (mkF m 1 #[.val (.int wh), .val (.int qi), .val (.int tb), .val (.int rs), .unset, .unset, .unset, .unset, .unset, .unset, .unset, .unset, .unset, .unset, .unset, .unset] [(.int wh)])) rfl (hb hby at_1)) ?_
  show own_R p.tables e below _ T0 (mkF m 3 #[.val (.int wh), .val (.int qi), .val (.int tb), .val (.int rs), .unset, .unset, .unset, .unset, .unset, .unset, .unset, .unset, .unset, .unset, .unset, .unset] [(.int (2147483647 : Int32)), (.int wh)])
  refine own_go (fun _ => XS.iand X0.here hx rfl (hb hby at_3) rfl) ?_
  show own_R p.tables e below _ T0 (mkF m 4 #[.val (.int wh), .val (.int qi), .val (.int tb), .val (.int rs), .unset, .unset, .unset, .unset, .unset, .unset, .unset, .unset, .unset, .unset, .unset, .unset] [(.int (wh &&& (2147483647 : Int32)))])
  refine own_go (fun _ => XS.bipush X0.here hx rfl (hb hby at_4)) ?_
  show own_R p.tables e below _ T0 (mkF m 6 #[.val (.int wh), .val (.int qi), .val (.int tb), .val (.int rs), .unset, .unset, .unset, .unset, .unset, .unset, .unset, .unset, .unset, .unset, .unset, .unset] [(.int (10 : Int32)), (.int (wh &&& (2147483647 : Int32)))])
  refine own_go (fun _ => iremM (g := (mkF m 6 #[.val (.int wh), .val (.int qi), .val (.int tb), .val (.int rs), .unset, .unset, .unset, .unset, .unset, .unset, .unset, .unset, .unset, .unset, .unset, .unset] [(.int (10 : Int32)), (.int (wh &&& (2147483647 : Int32)))])) X0 hx rfl (hb hby at_6) rfl (by decide)) ?_
  show own_R p.tables e below _ T0 (mkF m 7 #[.val (.int wh), .val (.int qi), .val (.int tb), .val (.int rs), .unset, .unset, .unset, .unset, .unset, .unset, .unset, .unset, .unset, .unset, .unset, .unset] [(.int ((wh &&& (2147483647 : Int32)) % (10 : Int32)))])
  refine own_go (fun _ => XS.istore X0.here hx rfl (hb hby at_7) rfl (l' := #[.val (.int wh), .val (.int qi), .val (.int tb), .val (.int rs), .val (.int ((wh &&& (2147483647 : Int32)) % (10 : Int32))), .unset, .unset, .unset, .unset, .unset, .unset, .unset, .unset, .unset, .unset, .unset]) rfl) ?_
  show own_R p.tables e below _ T0 (mkF m 9 #[.val (.int wh), .val (.int qi), .val (.int tb), .val (.int rs), .val (.int ((wh &&& (2147483647 : Int32)) % (10 : Int32))), .unset, .unset, .unset, .unset, .unset, .unset, .unset, .unset, .unset, .unset, .unset] [])
  refine own_go (fun _ => XS.iload X0.here hx rfl (hb hby at_9) rfl ) ?_
  show own_R p.tables e below _ T0 (mkF m 11 #[.val (.int wh), .val (.int qi), .val (.int tb), .val (.int rs), .val (.int ((wh &&& (2147483647 : Int32)) % (10 : Int32))), .unset, .unset, .unset, .unset, .unset, .unset, .unset, .unset, .unset, .unset, .unset] [(.int ((wh &&& (2147483647 : Int32)) % (10 : Int32)))])
  have hk : own_n9 ((wh &&& (2147483647 : Int32)) % (10 : Int32)) := own_rem10 _ _ (c_and wh 2147483647 (by decide)).1 (by decide)
  generalize (wh &&& (2147483647 : Int32)) % (10 : Int32) = k at hk ⊢
  show own_R p.tables e below _ T0 (mkF m 11 #[.val (.int wh), .val (.int qi), .val (.int tb), .val (.int rs), .val (.int k), .unset, .unset, .unset, .unset, .unset, .unset, .unset, .unset, .unset, .unset, .unset] [(.int k)])
  obtain ⟨v1, T1, L1, X1, Q1, st1⟩ := own_callS X0 hx hZ hown (y := (⟨"com/example/kookaburra/kookaburra/eval/MeasureSummaryPinLaw", "pick", "(I)Lcom/example/kookaburra/kookaburra/eval/Measure;"⟩ : MethodName)) (hw _ (List.mem_of_getElem? (i := 1) rfl)) (hw _ (List.mem_of_getElem? (i := 2) rfl)) (hw _ (List.mem_of_getElem? (i := 3) rfl)) (hw _ (List.mem_of_getElem? (i := 4) rfl)) (by decide) (rmPk l Z a0 hw [] h0 n0 k hk MNUM_RET MNUM_REL MNUM_REL_RET MMAP MRECIP_RANK MP_5 MP_10 MSUCCESS_1 MSUCCESS_5 MSUCCESS_10) (W := 0) (g := (mkF m 11 #[.val (.int wh), .val (.int qi), .val (.int tb), .val (.int rs), .val (.int k), .unset, .unset, .unset, .unset, .unset, .unset, .unset, .unset, .unset, .unset, .unset] [(.int k)])) rfl (by rw [hml]; rfl) (argsL := [(.int k)]) (rest := []) (lenOf pd__I_Lcom_example_kookaburra_kookaburra_eval_Measure_ rfl) rfl rfl (by show 2 * 0 + _ ≤ _; exact Nat.le_of_eq rfl) (hb hby at_11) e0 (by decide) (by decide) (by decide) (by decide)
  obtain ⟨ma, rfl, N1q, e1, E1, F1⟩ := Q1
  have N1 := Fr.app N0 N1q
  refine own_go st1 ?_
  show own_R p.tables e below _ T1 (mkF m 14 #[.val (.int wh), .val (.int qi), .val (.int tb), .val (.int rs), .val (.int k), .unset, .unset, .unset, .unset, .unset, .unset, .unset, .unset, .unset, .unset, .unset] [(.ref ma)])
  refine own_go (fun _ => XS.astore X1.here hx rfl (hb hby at_14) rfl rfl (l' := #[.val (.int wh), .val (.int qi), .val (.int tb), .val (.int rs), .val (.int k), .val (.ref ma), .unset, .unset, .unset, .unset, .unset, .unset, .unset, .unset, .unset, .unset]) rfl) ?_
  show own_R p.tables e below _ T1 (mkF m 16 #[.val (.int wh), .val (.int qi), .val (.int tb), .val (.int rs), .val (.int k), .val (.ref ma), .unset, .unset, .unset, .unset, .unset, .unset, .unset, .unset, .unset, .unset] [])
  refine own_go (fun _ => XS.iloadN X1.here hx rfl (hb hby at_16) rfl ) ?_
  show own_R p.tables e below _ T1 (mkF m 17 #[.val (.int wh), .val (.int qi), .val (.int tb), .val (.int rs), .val (.int k), .val (.ref ma), .unset, .unset, .unset, .unset, .unset, .unset, .unset, .unset, .unset, .unset] [(.int tb)])
  refine own_go (X1.ldcInt hx hown (mvT hZ (hw _ (List.mem_of_getElem? (i := 8) rfl))) (g := (mkF m 17 #[.val (.int wh), .val (.int qi), .val (.int tb), .val (.int rs), .val (.int k), .val (.ref ma), .unset, .unset, .unset, .unset, .unset, .unset, .unset, .unset, .unset, .unset] [(.int tb)])) rfl (hb hby at_17)) ?_
  show own_R p.tables e below _ T1 (mkF m 19 #[.val (.int wh), .val (.int qi), .val (.int tb), .val (.int rs), .val (.int k), .val (.ref ma), .unset, .unset, .unset, .unset, .unset, .unset, .unset, .unset, .unset, .unset] [(.int (1048575 : Int32)), (.int tb)])
  refine own_go (fun _ => XS.iand X1.here hx rfl (hb hby at_19) rfl) ?_
  show own_R p.tables e below _ T1 (mkF m 20 #[.val (.int wh), .val (.int qi), .val (.int tb), .val (.int rs), .val (.int k), .val (.ref ma), .unset, .unset, .unset, .unset, .unset, .unset, .unset, .unset, .unset, .unset] [(.int (tb &&& (1048575 : Int32)))])
  refine own_go (fun _ => XS.iconst X1.here hx rfl (hb hby at_20)) ?_
  show own_R p.tables e below _ T1 (mkF m 21 #[.val (.int wh), .val (.int qi), .val (.int tb), .val (.int rs), .val (.int k), .val (.ref ma), .unset, .unset, .unset, .unset, .unset, .unset, .unset, .unset, .unset, .unset] [(.int (1 : Int32)), (.int (tb &&& (1048575 : Int32)))])
  refine own_go (fun _ => XS.iadd X1.here hx rfl (hb hby at_21) rfl) ?_
  show own_R p.tables e below _ T1 (mkF m 22 #[.val (.int wh), .val (.int qi), .val (.int tb), .val (.int rs), .val (.int k), .val (.ref ma), .unset, .unset, .unset, .unset, .unset, .unset, .unset, .unset, .unset, .unset] [(.int ((tb &&& (1048575 : Int32)) + (1 : Int32)))])
  refine own_go (fun _ => XS.istore X1.here hx rfl (hb hby at_22) rfl (l' := #[.val (.int wh), .val (.int qi), .val (.int tb), .val (.int rs), .val (.int k), .val (.ref ma), .val (.int ((tb &&& (1048575 : Int32)) + (1 : Int32))), .unset, .unset, .unset, .unset, .unset, .unset, .unset, .unset, .unset]) rfl) ?_
  show own_R p.tables e below _ T1 (mkF m 24 #[.val (.int wh), .val (.int qi), .val (.int tb), .val (.int rs), .val (.int k), .val (.ref ma), .val (.int ((tb &&& (1048575 : Int32)) + (1 : Int32))), .unset, .unset, .unset, .unset, .unset, .unset, .unset, .unset, .unset] [])
  have ht : 1 ≤ (((tb &&& (1048575 : Int32)) + (1 : Int32))).toInt ∧ (((tb &&& (1048575 : Int32)) + (1 : Int32))).toInt ≤ 1048576 := by
    have q1 := c_and tb 1048575 (by decide)
    rw [show (1048575 : Int32).toInt = 1048575 by decide] at q1
    have q2 := c_iadd (tb &&& (1048575 : Int32)) 1
    rw [show (1 : Int32).toInt = 1 by decide] at q2
    have q3 := rng32 ((tb &&& (1048575 : Int32)) + (1 : Int32))
    omega
  generalize (tb &&& (1048575 : Int32)) + (1 : Int32) = t at ht ⊢
  show own_R p.tables e below _ T1 (mkF m 24 #[.val (.int wh), .val (.int qi), .val (.int tb), .val (.int rs), .val (.int k), .val (.ref ma), .val (.int t), .unset, .unset, .unset, .unset, .unset, .unset, .unset, .unset, .unset] [])
  have ht0 : t ≠ 0 := fun q => by rw [q] at ht; exact absurd ht.1 (by decide)
  refine own_go (fun _ => XS.iloadN X1.here hx rfl (hb hby at_24) rfl ) ?_
  show own_R p.tables e below _ T1 (mkF m 25 #[.val (.int wh), .val (.int qi), .val (.int tb), .val (.int rs), .val (.int k), .val (.ref ma), .val (.int t), .unset, .unset, .unset, .unset, .unset, .unset, .unset, .unset, .unset] [(.int rs)])
  refine own_go (X1.ldcInt hx hown (mvT hZ (hw _ (List.mem_of_getElem? (i := 0) rfl))) (g := (mkF m 25 #[.val (.int wh), .val (.int qi), .val (.int tb), .val (.int rs), .val (.int k), .val (.ref ma), .val (.int t), .unset, .unset, .unset, .unset, .unset, .unset, .unset, .unset, .unset] [(.int rs)])) rfl (hb hby at_25)) ?_
  show own_R p.tables e below _ T1 (mkF m 27 #[.val (.int wh), .val (.int qi), .val (.int tb), .val (.int rs), .val (.int k), .val (.ref ma), .val (.int t), .unset, .unset, .unset, .unset, .unset, .unset, .unset, .unset, .unset] [(.int (2147483647 : Int32)), (.int rs)])
  refine own_go (fun _ => XS.iand X1.here hx rfl (hb hby at_27) rfl) ?_
  show own_R p.tables e below _ T1 (mkF m 28 #[.val (.int wh), .val (.int qi), .val (.int tb), .val (.int rs), .val (.int k), .val (.ref ma), .val (.int t), .unset, .unset, .unset, .unset, .unset, .unset, .unset, .unset, .unset] [(.int (rs &&& (2147483647 : Int32)))])
  refine own_go (fun _ => XS.iload X1.here hx rfl (hb hby at_28) rfl ) ?_
  show own_R p.tables e below _ T1 (mkF m 30 #[.val (.int wh), .val (.int qi), .val (.int tb), .val (.int rs), .val (.int k), .val (.ref ma), .val (.int t), .unset, .unset, .unset, .unset, .unset, .unset, .unset, .unset, .unset] [(.int t), (.int (rs &&& (2147483647 : Int32)))])
  refine own_go (fun _ => iremM (g := (mkF m 30 #[.val (.int wh), .val (.int qi), .val (.int tb), .val (.int rs), .val (.int k), .val (.ref ma), .val (.int t), .unset, .unset, .unset, .unset, .unset, .unset, .unset, .unset, .unset] [(.int t), (.int (rs &&& (2147483647 : Int32)))])) X1 hx rfl (hb hby at_30) rfl ht0) ?_
  show own_R p.tables e below _ T1 (mkF m 31 #[.val (.int wh), .val (.int qi), .val (.int tb), .val (.int rs), .val (.int k), .val (.ref ma), .val (.int t), .unset, .unset, .unset, .unset, .unset, .unset, .unset, .unset, .unset] [(.int ((rs &&& (2147483647 : Int32)) % t))])
  refine own_go (fun _ => XS.istore X1.here hx rfl (hb hby at_31) rfl (l' := #[.val (.int wh), .val (.int qi), .val (.int tb), .val (.int rs), .val (.int k), .val (.ref ma), .val (.int t), .val (.int ((rs &&& (2147483647 : Int32)) % t)), .unset, .unset, .unset, .unset, .unset, .unset, .unset, .unset]) rfl) ?_
  show own_R p.tables e below _ T1 (mkF m 33 #[.val (.int wh), .val (.int qi), .val (.int tb), .val (.int rs), .val (.int k), .val (.ref ma), .val (.int t), .val (.int ((rs &&& (2147483647 : Int32)) % t)), .unset, .unset, .unset, .unset, .unset, .unset, .unset, .unset] [])
  have hr : 0 ≤ (((rs &&& (2147483647 : Int32)) % t)).toInt ∧ (((rs &&& (2147483647 : Int32)) % t)).toInt < t.toInt := by
    have q := (c_iremV (rs &&& (2147483647 : Int32)) t).1 (c_and rs 2147483647 (by decide)).1 (by omega)
    exact ⟨q.1, q.2.1⟩
  generalize (rs &&& (2147483647 : Int32)) % t = r at hr ⊢
  show own_R p.tables e below _ T1 (mkF m 33 #[.val (.int wh), .val (.int qi), .val (.int tb), .val (.int rs), .val (.int k), .val (.ref ma), .val (.int t), .val (.int r), .unset, .unset, .unset, .unset, .unset, .unset, .unset, .unset] [])
  refine own_go (fun _ => XS.iloadN X1.here hx rfl (hb hby at_33) rfl ) ?_
  show own_R p.tables e below _ T1 (mkF m 34 #[.val (.int wh), .val (.int qi), .val (.int tb), .val (.int rs), .val (.int k), .val (.ref ma), .val (.int t), .val (.int r), .unset, .unset, .unset, .unset, .unset, .unset, .unset, .unset] [(.int qi)])
  refine own_go (fun _ => XS.i2l X1.here hx rfl (hb hby at_34) rfl) ?_
  show own_R p.tables e below _ T1 (mkF m 35 #[.val (.int wh), .val (.int qi), .val (.int tb), .val (.int rs), .val (.int k), .val (.ref ma), .val (.int t), .val (.int r), .unset, .unset, .unset, .unset, .unset, .unset, .unset, .unset] [(.long (qi.toInt64))])
  refine own_go (fun _ => XS.iload X1.here hx rfl (hb hby at_35) rfl ) ?_
  show own_R p.tables e below _ T1 (mkF m 37 #[.val (.int wh), .val (.int qi), .val (.int tb), .val (.int rs), .val (.int k), .val (.ref ma), .val (.int t), .val (.int r), .unset, .unset, .unset, .unset, .unset, .unset, .unset, .unset] [(.int t), (.long (qi.toInt64))])
  refine own_go (fun _ => XS.i2l X1.here hx rfl (hb hby at_37) rfl) ?_
  show own_R p.tables e below _ T1 (mkF m 38 #[.val (.int wh), .val (.int qi), .val (.int tb), .val (.int rs), .val (.int k), .val (.ref ma), .val (.int t), .val (.int r), .unset, .unset, .unset, .unset, .unset, .unset, .unset, .unset] [(.long (t.toInt64)), (.long (qi.toInt64))])
  refine own_go (fun _ => XS.lmul X1.here hx rfl (hb hby at_38) rfl) ?_
  show own_R p.tables e below _ T1 (mkF m 39 #[.val (.int wh), .val (.int qi), .val (.int tb), .val (.int rs), .val (.int k), .val (.ref ma), .val (.int t), .val (.int r), .unset, .unset, .unset, .unset, .unset, .unset, .unset, .unset] [(.long ((qi.toInt64) * (t.toInt64)))])
  refine own_go (fun _ => XS.iload X1.here hx rfl (hb hby at_39) rfl ) ?_
  show own_R p.tables e below _ T1 (mkF m 41 #[.val (.int wh), .val (.int qi), .val (.int tb), .val (.int rs), .val (.int k), .val (.ref ma), .val (.int t), .val (.int r), .unset, .unset, .unset, .unset, .unset, .unset, .unset, .unset] [(.int r), (.long ((qi.toInt64) * (t.toInt64)))])
  refine own_go (fun _ => XS.i2l X1.here hx rfl (hb hby at_41) rfl) ?_
  show own_R p.tables e below _ T1 (mkF m 42 #[.val (.int wh), .val (.int qi), .val (.int tb), .val (.int rs), .val (.int k), .val (.ref ma), .val (.int t), .val (.int r), .unset, .unset, .unset, .unset, .unset, .unset, .unset, .unset] [(.long (r.toInt64)), (.long ((qi.toInt64) * (t.toInt64)))])
  refine own_go (fun _ => XS.ladd X1.here hx rfl (hb hby at_42) rfl) ?_
  show own_R p.tables e below _ T1 (mkF m 43 #[.val (.int wh), .val (.int qi), .val (.int tb), .val (.int rs), .val (.int k), .val (.ref ma), .val (.int t), .val (.int r), .unset, .unset, .unset, .unset, .unset, .unset, .unset, .unset] [(.long (((qi.toInt64) * (t.toInt64)) + (r.toInt64)))])
  refine own_go (fun _ => XS.lstore X1.here hx rfl (hb hby at_43) rfl (l' := #[.val (.int wh), .val (.int qi), .val (.int tb), .val (.int rs), .val (.int k), .val (.ref ma), .val (.int t), .val (.int r), .val (.long (((qi.toInt64) * (t.toInt64)) + (r.toInt64))), .second, .unset, .unset, .unset, .unset, .unset, .unset]) rfl) ?_
  show own_R p.tables e below _ T1 (mkF m 45 #[.val (.int wh), .val (.int qi), .val (.int tb), .val (.int rs), .val (.int k), .val (.ref ma), .val (.int t), .val (.int r), .val (.long (((qi.toInt64) * (t.toInt64)) + (r.toInt64))), .second, .unset, .unset, .unset, .unset, .unset, .unset] [])
  have rq := rng32 qi
  have bq := own_mulb (x := qi.toInt) (y := t.toInt) (A := 2 ^ 31) (B := 1048576) (by omega) (by omega)
  have l1 : (qi.toInt64 * t.toInt64).toInt = qi.toInt * t.toInt := by rw [FP.Core.int64_mul (by rw [Int32.toInt_toInt64, Int32.toInt_toInt64]; omega) (by rw [Int32.toInt_toInt64, Int32.toInt_toInt64]; omega), Int32.toInt_toInt64, Int32.toInt_toInt64]
  have l2 : ((((qi.toInt64) * (t.toInt64)) + (r.toInt64))).toInt = qi.toInt * t.toInt + r.toInt := by rw [FP.Core.int64_add (by rw [l1, Int32.toInt_toInt64]; omega) (by rw [l1, Int32.toInt_toInt64]; omega), l1, Int32.toInt_toInt64]
  generalize ((qi.toInt64) * (t.toInt64)) + (r.toInt64) = S at l2 ⊢
  show own_R p.tables e below _ T1 (mkF m 45 #[.val (.int wh), .val (.int qi), .val (.int tb), .val (.int rs), .val (.int k), .val (.ref ma), .val (.int t), .val (.int r), .val (.long S), .second, .unset, .unset, .unset, .unset, .unset, .unset] [])
  have hS := own_dh_l2d S (by omega)
  rw [l2] at hS
  have hT := own_dh_i2d t
  have hQ := own_dh_i2d qi
  have hU := FP.Core.one64_pos
  have hpT : 0 < own_z (FP.i2d t) := by have := hT.2; have q := Int.mul_pos (show (0 : Int) < 2 * t.toInt by omega) (show (0 : Int) < (FP.Core.one64 : Int) by omega); omega
  have hnn : Jvm.Free.Fl.NoNaN64 (FP.ddiv (FP.l2d S) (FP.i2d t)) := Jvm.Free.Fl.noNaN64_no.mpr ((FP.Core.notNaN_iff _).mpr (own_quot hS.1 hT.1 hpT).2.1)
  refine own_go (fun _ => XS.lload X1.here hx rfl (hb hby at_45) rfl ) ?_
  show own_R p.tables e below _ T1 (mkF m 47 #[.val (.int wh), .val (.int qi), .val (.int tb), .val (.int rs), .val (.int k), .val (.ref ma), .val (.int t), .val (.int r), .val (.long S), .second, .unset, .unset, .unset, .unset, .unset, .unset] [(.long S)])
  refine own_go (fun _ => XS.l2dS X1.here hx rfl (hb hby at_47) rfl rfl) ?_
  show own_R p.tables e below _ T1 (mkF m 48 #[.val (.int wh), .val (.int qi), .val (.int tb), .val (.int rs), .val (.int k), .val (.ref ma), .val (.int t), .val (.int r), .val (.long S), .second, .unset, .unset, .unset, .unset, .unset, .unset] [(.double (FP.l2d S))])
  refine own_go (fun _ => XS.dstore X1.here hx rfl (hb hby at_48) rfl (l' := #[.val (.int wh), .val (.int qi), .val (.int tb), .val (.int rs), .val (.int k), .val (.ref ma), .val (.int t), .val (.int r), .val (.long S), .second, .val (.double (FP.l2d S)), .second, .unset, .unset, .unset, .unset]) rfl) ?_
  show own_R p.tables e below _ T1 (mkF m 50 #[.val (.int wh), .val (.int qi), .val (.int tb), .val (.int rs), .val (.int k), .val (.ref ma), .val (.int t), .val (.int r), .val (.long S), .second, .val (.double (FP.l2d S)), .second, .unset, .unset, .unset, .unset] [])
  refine own_go (fun _ => XS.aload X1.here hx rfl (hb hby at_50) rfl rfl) ?_
  show own_R p.tables e below _ T1 (mkF m 52 #[.val (.int wh), .val (.int qi), .val (.int tb), .val (.int rs), .val (.int k), .val (.ref ma), .val (.int t), .val (.int r), .val (.long S), .second, .val (.double (FP.l2d S)), .second, .unset, .unset, .unset, .unset] [(.ref ma)])
  refine own_go (fun _ => XS.dload X1.here hx rfl (hb hby at_52) rfl ) ?_
  show own_R p.tables e below _ T1 (mkF m 54 #[.val (.int wh), .val (.int qi), .val (.int tb), .val (.int rs), .val (.int k), .val (.ref ma), .val (.int t), .val (.int r), .val (.long S), .second, .val (.double (FP.l2d S)), .second, .unset, .unset, .unset, .unset] [(.double (FP.l2d S)), (.ref ma)])
  refine own_go (fun _ => XS.iload X1.here hx rfl (hb hby at_54) rfl ) ?_
  show own_R p.tables e below _ T1 (mkF m 56 #[.val (.int wh), .val (.int qi), .val (.int tb), .val (.int rs), .val (.int k), .val (.ref ma), .val (.int t), .val (.int r), .val (.long S), .second, .val (.double (FP.l2d S)), .second, .unset, .unset, .unset, .unset] [(.int t), (.double (FP.l2d S)), (.ref ma)])
  obtain ⟨v2, T2, L2, X2, Q2, st2⟩ := own_callV X1 hx hZ hown (y := (⟨"com/example/kookaburra/kookaburra/eval/Measure", "summary", "(DI)D"⟩ : MethodName)) (hw _ (List.mem_of_getElem? (i := 9) rfl)) (hw _ (List.mem_of_getElem? (i := 10) rfl)) (hw _ (List.mem_of_getElem? (i := 12) rfl)) (hw _ (List.mem_of_getElem? (i := 11) rfl)) (hw _ (List.mem_of_getElem? (i := 13) rfl)) (hw _ (List.mem_of_getElem? (i := 6) rfl)) (by decide) (rmSm l Z a0 hw [] h0 n0 ma (own_cnt k) (FP.l2d S) t (fun _ => hnn) F1) E1 (W := 0) (g := (mkF m 56 #[.val (.int wh), .val (.int qi), .val (.int tb), .val (.int rs), .val (.int k), .val (.ref ma), .val (.int t), .val (.int r), .val (.long S), .second, .val (.double (FP.l2d S)), .second, .unset, .unset, .unset, .unset] [(.int t), (.double (FP.l2d S)), (.ref ma)])) rfl (by rw [hml]; rfl) (b := ma) (argsL := [(.double (FP.l2d S)), (.int t)]) (rest := []) (lenOf pd__DI_D rfl) rfl rfl (by show 2 * 0 + _ ≤ _; exact Nat.le_of_eq rfl) (hb hby at_56) e1 (by decide) (by decide) (by decide) (by decide)
  obtain ⟨rfl, N2q, e2⟩ := Q2
  have N2 := Fr.app N1 N2q
  refine own_go st2 ?_
  show own_R p.tables e below _ T2 (mkF m 59 #[.val (.int wh), .val (.int qi), .val (.int tb), .val (.int rs), .val (.int k), .val (.ref ma), .val (.int t), .val (.int r), .val (.long S), .second, .val (.double (FP.l2d S)), .second, .unset, .unset, .unset, .unset] [(.double (own_sm (own_cnt k) (FP.l2d S) t))])
  refine own_go (fun _ => XS.dstore X2.here hx rfl (hb hby at_59) rfl (l' := #[.val (.int wh), .val (.int qi), .val (.int tb), .val (.int rs), .val (.int k), .val (.ref ma), .val (.int t), .val (.int r), .val (.long S), .second, .val (.double (FP.l2d S)), .second, .val (.double (own_sm (own_cnt k) (FP.l2d S) t)), .second, .unset, .unset]) rfl) ?_
  show own_R p.tables e below _ T2 (mkF m 61 #[.val (.int wh), .val (.int qi), .val (.int tb), .val (.int rs), .val (.int k), .val (.ref ma), .val (.int t), .val (.int r), .val (.long S), .second, .val (.double (FP.l2d S)), .second, .val (.double (own_sm (own_cnt k) (FP.l2d S) t)), .second, .unset, .unset] [])
  refine own_go (fun _ => XS.iload X2.here hx rfl (hb hby at_61) rfl ) ?_
  show own_R p.tables e below _ T2 (mkF m 63 #[.val (.int wh), .val (.int qi), .val (.int tb), .val (.int rs), .val (.int k), .val (.ref ma), .val (.int t), .val (.int r), .val (.long S), .second, .val (.double (FP.l2d S)), .second, .val (.double (own_sm (own_cnt k) (FP.l2d S) t)), .second, .unset, .unset] [(.int k)])
  refine own_go (fun _ => XS.iconst X2.here hx rfl (hb hby at_63)) ?_
  show own_R p.tables e below _ T2 (mkF m 64 #[.val (.int wh), .val (.int qi), .val (.int tb), .val (.int rs), .val (.int k), .val (.ref ma), .val (.int t), .val (.int r), .val (.long S), .second, .val (.double (FP.l2d S)), .second, .val (.double (own_sm (own_cnt k) (FP.l2d S) t)), .second, .unset, .unset] [(.int (3 : Int32)), (.int k)])
  by_cases hk3 : k < (3 : Int32)
  · show own_R p.tables e below _ T2 (mkF m 64 #[.val (.int wh), .val (.int qi), .val (.int tb), .val (.int rs), .val (.int k), .val (.ref ma), .val (.int t), .val (.int r), .val (.long S), .second, .val (.double (FP.l2d S)), .second, .val (.double (own_sm (own_cnt k) (FP.l2d S) t)), .second, .unset, .unset] [(.int (3 : Int32)), (.int k)])
    refine own_go (fun _ => XS.icmpNo X2.here hx rfl (hb hby at_64) rfl (tlt hk3).2.1) ?_
    show own_R p.tables e below _ T2 (mkF m 67 #[.val (.int wh), .val (.int qi), .val (.int tb), .val (.int rs), .val (.int k), .val (.ref ma), .val (.int t), .val (.int r), .val (.long S), .second, .val (.double (FP.l2d S)), .second, .val (.double (own_sm (own_cnt k) (FP.l2d S) t)), .second, .unset, .unset] [])
    have eg : (own_sm (own_cnt k) (FP.l2d S) t) = FP.l2d S := by unfold own_cnt; rw [if_pos hk3]; rfl
    rw [eg]
    show own_R p.tables e below _ T2 (mkF m 67 #[.val (.int wh), .val (.int qi), .val (.int tb), .val (.int rs), .val (.int k), .val (.ref ma), .val (.int t), .val (.int r), .val (.long S), .second, .val (.double (FP.l2d S)), .second, .val (.double (FP.l2d S)), .second, .unset, .unset] [])
    refine own_go (fun _ => XS.dload X2.here hx rfl (hb hby at_67) rfl ) ?_
    show own_R p.tables e below _ T2 (mkF m 69 #[.val (.int wh), .val (.int qi), .val (.int tb), .val (.int rs), .val (.int k), .val (.ref ma), .val (.int t), .val (.int r), .val (.long S), .second, .val (.double (FP.l2d S)), .second, .val (.double (FP.l2d S)), .second, .unset, .unset] [(.double (FP.l2d S))])
    refine own_go (fun _ => XS.dload X2.here hx rfl (hb hby at_69) rfl ) ?_
    show own_R p.tables e below _ T2 (mkF m 71 #[.val (.int wh), .val (.int qi), .val (.int tb), .val (.int rs), .val (.int k), .val (.ref ma), .val (.int t), .val (.int r), .val (.long S), .second, .val (.double (FP.l2d S)), .second, .val (.double (FP.l2d S)), .second, .unset, .unset] [(.double (FP.l2d S)), (.double (FP.l2d S))])
    refine own_go (fun _ => XS.dcmpS X2.here hx rfl (hb hby at_71) rfl rfl) ?_
    show own_R p.tables e below _ T2 (mkF m 72 #[.val (.int wh), .val (.int qi), .val (.int tb), .val (.int rs), .val (.int k), .val (.ref ma), .val (.int t), .val (.int r), .val (.long S), .second, .val (.double (FP.l2d S)), .second, .val (.double (FP.l2d S)), .second, .unset, .unset] [(.int (cmpValue (FP.dcmp (FP.l2d S) (FP.l2d S)) .l))])
    refine own_go (fun _ => XS.ifNo X2.here hx rfl (hb hby at_72) rfl ((if0 _ _).trans (teq (dcmpV_self hS.nn _)).2)) ?_
    show own_R p.tables e below _ T2 (mkF m 75 #[.val (.int wh), .val (.int qi), .val (.int tb), .val (.int rs), .val (.int k), .val (.ref ma), .val (.int t), .val (.int r), .val (.long S), .second, .val (.double (FP.l2d S)), .second, .val (.double (FP.l2d S)), .second, .unset, .unset] [])
    refine own_go (fun _ => XS.iconst X2.here hx rfl (hb hby at_75)) ?_
    show own_R p.tables e below _ T2 (mkF m 76 #[.val (.int wh), .val (.int qi), .val (.int tb), .val (.int rs), .val (.int k), .val (.ref ma), .val (.int t), .val (.int r), .val (.long S), .second, .val (.double (FP.l2d S)), .second, .val (.double (FP.l2d S)), .second, .unset, .unset] [(.int (1 : Int32))])
    refine own_go (fun _ => XS.goto X2.here hx rfl (pc0 := 76) (pc' := 80) rfl (hb hby at_76) (by decide) (by decide)) ?_
    show own_R p.tables e below _ T2 (mkF m 80 #[.val (.int wh), .val (.int qi), .val (.int tb), .val (.int rs), .val (.int k), .val (.ref ma), .val (.int t), .val (.int r), .val (.long S), .second, .val (.double (FP.l2d S)), .second, .val (.double (FP.l2d S)), .second, .unset, .unset] [(.int (1 : Int32))])
    exact own_end X2 (some (.int (1 : Int32))) (fun h => by rw [hret] at h; cases h) hlk (fun fs hr => retN X2 hx (t := .boolean) hret (by simp) (hb hby at_80) hr) ⟨rfl, N2⟩ (by decide) (by decide)
  · show own_R p.tables e below _ T2 (mkF m 64 #[.val (.int wh), .val (.int qi), .val (.int tb), .val (.int rs), .val (.int k), .val (.ref ma), .val (.int t), .val (.int r), .val (.long S), .second, .val (.double (FP.l2d S)), .second, .val (.double (own_sm (own_cnt k) (FP.l2d S) t)), .second, .unset, .unset] [(.int (3 : Int32)), (.int k)])
    refine own_go (fun _ => XS.icmpYes X2.here hx rfl (pc0 := 64) (pc' := 81) rfl (hb hby at_64) rfl (flt hk3).2.1 (by decide) (by decide)) ?_
    show own_R p.tables e below _ T2 (mkF m 81 #[.val (.int wh), .val (.int qi), .val (.int tb), .val (.int rs), .val (.int k), .val (.ref ma), .val (.int t), .val (.int r), .val (.long S), .second, .val (.double (FP.l2d S)), .second, .val (.double (own_sm (own_cnt k) (FP.l2d S) t)), .second, .unset, .unset] [])
    have eg : (own_sm (own_cnt k) (FP.l2d S) t) = FP.ddiv (FP.l2d S) (FP.i2d t) := by unfold own_cnt; rw [if_neg hk3]; rfl
    rw [eg]
    show own_R p.tables e below _ T2 (mkF m 81 #[.val (.int wh), .val (.int qi), .val (.int tb), .val (.int rs), .val (.int k), .val (.ref ma), .val (.int t), .val (.int r), .val (.long S), .second, .val (.double (FP.l2d S)), .second, .val (.double (FP.ddiv (FP.l2d S) (FP.i2d t))), .second, .unset, .unset] [])
    refine own_go (fun _ => XS.iloadN X2.here hx rfl (hb hby at_81) rfl ) ?_
    show own_R p.tables e below _ T2 (mkF m 82 #[.val (.int wh), .val (.int qi), .val (.int tb), .val (.int rs), .val (.int k), .val (.ref ma), .val (.int t), .val (.int r), .val (.long S), .second, .val (.double (FP.l2d S)), .second, .val (.double (FP.ddiv (FP.l2d S) (FP.i2d t))), .second, .unset, .unset] [(.int qi)])
    refine own_go (fun _ => XS.i2dS X2.here hx rfl (hb hby at_82) rfl rfl) ?_
    show own_R p.tables e below _ T2 (mkF m 83 #[.val (.int wh), .val (.int qi), .val (.int tb), .val (.int rs), .val (.int k), .val (.ref ma), .val (.int t), .val (.int r), .val (.long S), .second, .val (.double (FP.l2d S)), .second, .val (.double (FP.ddiv (FP.l2d S) (FP.i2d t))), .second, .unset, .unset] [(.double (FP.i2d qi))])
    refine own_go (fun _ => XS.dstore X2.here hx rfl (hb hby at_83) rfl (l' := #[.val (.int wh), .val (.int qi), .val (.int tb), .val (.int rs), .val (.int k), .val (.ref ma), .val (.int t), .val (.int r), .val (.long S), .second, .val (.double (FP.l2d S)), .second, .val (.double (FP.ddiv (FP.l2d S) (FP.i2d t))), .second, .val (.double (FP.i2d qi)), .second]) rfl) ?_
    show own_R p.tables e below _ T2 (mkF m 85 #[.val (.int wh), .val (.int qi), .val (.int tb), .val (.int rs), .val (.int k), .val (.ref ma), .val (.int t), .val (.int r), .val (.long S), .second, .val (.double (FP.l2d S)), .second, .val (.double (FP.ddiv (FP.l2d S) (FP.i2d t))), .second, .val (.double (FP.i2d qi)), .second] [])
    refine own_go (fun _ => XS.iload X2.here hx rfl (hb hby at_85) rfl ) ?_
    show own_R p.tables e below _ T2 (mkF m 87 #[.val (.int wh), .val (.int qi), .val (.int tb), .val (.int rs), .val (.int k), .val (.ref ma), .val (.int t), .val (.int r), .val (.long S), .second, .val (.double (FP.l2d S)), .second, .val (.double (FP.ddiv (FP.l2d S) (FP.i2d t))), .second, .val (.double (FP.i2d qi)), .second] [(.int r)])
    by_cases h0r : r = (0 : Int32)
    · show own_R p.tables e below _ T2 (mkF m 87 #[.val (.int wh), .val (.int qi), .val (.int tb), .val (.int rs), .val (.int k), .val (.ref ma), .val (.int t), .val (.int r), .val (.long S), .second, .val (.double (FP.l2d S)), .second, .val (.double (FP.ddiv (FP.l2d S) (FP.i2d t))), .second, .val (.double (FP.i2d qi)), .second] [(.int r)])
      refine own_go (fun _ => XS.ifNo X2.here hx rfl (hb hby at_87) rfl ((if0 _ _).trans (teq h0r).2)) ?_
      show own_R p.tables e below _ T2 (mkF m 90 #[.val (.int wh), .val (.int qi), .val (.int tb), .val (.int rs), .val (.int k), .val (.ref ma), .val (.int t), .val (.int r), .val (.long S), .second, .val (.double (FP.l2d S)), .second, .val (.double (FP.ddiv (FP.l2d S) (FP.i2d t))), .second, .val (.double (FP.i2d qi)), .second] [])
      have hr0 : r.toInt = 0 := by rw [h0r]; rfl
      have hg : own_DH (2 * qi.toInt) (FP.ddiv (FP.l2d S) (FP.i2d t)) := own_dh_div hS hT (by omega) (by rw [hr0, Int.add_zero, show (2 * qi.toInt) * (2 * t.toInt) = 2 * (2 * (qi.toInt * t.toInt)) by ac_rfl]) (by omega)
      refine own_go (fun _ => XS.dload X2.here hx rfl (hb hby at_90) rfl ) ?_
      show own_R p.tables e below _ T2 (mkF m 92 #[.val (.int wh), .val (.int qi), .val (.int tb), .val (.int rs), .val (.int k), .val (.ref ma), .val (.int t), .val (.int r), .val (.long S), .second, .val (.double (FP.l2d S)), .second, .val (.double (FP.ddiv (FP.l2d S) (FP.i2d t))), .second, .val (.double (FP.i2d qi)), .second] [(.double (FP.ddiv (FP.l2d S) (FP.i2d t)))])
      refine own_go (fun _ => XS.dload X2.here hx rfl (hb hby at_92) rfl ) ?_
      show own_R p.tables e below _ T2 (mkF m 94 #[.val (.int wh), .val (.int qi), .val (.int tb), .val (.int rs), .val (.int k), .val (.ref ma), .val (.int t), .val (.int r), .val (.long S), .second, .val (.double (FP.l2d S)), .second, .val (.double (FP.ddiv (FP.l2d S) (FP.i2d t))), .second, .val (.double (FP.i2d qi)), .second] [(.double (FP.i2d qi)), (.double (FP.ddiv (FP.l2d S) (FP.i2d t)))])
      refine own_go (fun _ => XS.dcmpS X2.here hx rfl (hb hby at_94) rfl rfl) ?_
      show own_R p.tables e below _ T2 (mkF m 95 #[.val (.int wh), .val (.int qi), .val (.int tb), .val (.int rs), .val (.int k), .val (.ref ma), .val (.int t), .val (.int r), .val (.long S), .second, .val (.double (FP.l2d S)), .second, .val (.double (FP.ddiv (FP.l2d S) (FP.i2d t))), .second, .val (.double (FP.i2d qi)), .second] [(.int (cmpValue (FP.dcmp (FP.ddiv (FP.l2d S) (FP.i2d t)) (FP.i2d qi)) .l))])
      refine own_go (fun _ => XS.ifNo X2.here hx rfl (hb hby at_95) rfl ((if0 _ _).trans (teq (own_cmp0 hg hQ rfl _)).2)) ?_
      show own_R p.tables e below _ T2 (mkF m 98 #[.val (.int wh), .val (.int qi), .val (.int tb), .val (.int rs), .val (.int k), .val (.ref ma), .val (.int t), .val (.int r), .val (.long S), .second, .val (.double (FP.l2d S)), .second, .val (.double (FP.ddiv (FP.l2d S) (FP.i2d t))), .second, .val (.double (FP.i2d qi)), .second] [])
      refine own_go (fun _ => XS.iconst X2.here hx rfl (hb hby at_98)) ?_
      show own_R p.tables e below _ T2 (mkF m 99 #[.val (.int wh), .val (.int qi), .val (.int tb), .val (.int rs), .val (.int k), .val (.ref ma), .val (.int t), .val (.int r), .val (.long S), .second, .val (.double (FP.l2d S)), .second, .val (.double (FP.ddiv (FP.l2d S) (FP.i2d t))), .second, .val (.double (FP.i2d qi)), .second] [(.int (1 : Int32))])
      refine own_go (fun _ => XS.goto X2.here hx rfl (pc0 := 99) (pc' := 103) rfl (hb hby at_99) (by decide) (by decide)) ?_
      show own_R p.tables e below _ T2 (mkF m 103 #[.val (.int wh), .val (.int qi), .val (.int tb), .val (.int rs), .val (.int k), .val (.ref ma), .val (.int t), .val (.int r), .val (.long S), .second, .val (.double (FP.l2d S)), .second, .val (.double (FP.ddiv (FP.l2d S) (FP.i2d t))), .second, .val (.double (FP.i2d qi)), .second] [(.int (1 : Int32))])
      exact own_end X2 (some (.int (1 : Int32))) (fun h => by rw [hret] at h; cases h) hlk (fun fs hr => retN X2 hx (t := .boolean) hret (by simp) (hb hby at_103) hr) ⟨rfl, N2⟩ (by decide) (by decide)
    · show own_R p.tables e below _ T2 (mkF m 87 #[.val (.int wh), .val (.int qi), .val (.int tb), .val (.int rs), .val (.int k), .val (.ref ma), .val (.int t), .val (.int r), .val (.long S), .second, .val (.double (FP.l2d S)), .second, .val (.double (FP.ddiv (FP.l2d S) (FP.i2d t))), .second, .val (.double (FP.i2d qi)), .second] [(.int r)])
      refine own_go (fun _ => XS.ifYes X2.here hx rfl (pc0 := 87) (pc' := 104) rfl (hb hby at_87) rfl ((if0 _ _).trans (feq h0r).2) (by decide) (by decide)) ?_
      show own_R p.tables e below _ T2 (mkF m 104 #[.val (.int wh), .val (.int qi), .val (.int tb), .val (.int rs), .val (.int k), .val (.ref ma), .val (.int t), .val (.int r), .val (.long S), .second, .val (.double (FP.l2d S)), .second, .val (.double (FP.ddiv (FP.l2d S) (FP.i2d t))), .second, .val (.double (FP.i2d qi)), .second] [])
      have hr0 : r.toInt ≠ 0 := fun q => h0r (Int32.toInt_inj.mp (by rw [q]; rfl))
      obtain ⟨m1, m2, m3⟩ := own_mean hS hT (by omega) (by omega) (by omega) (by omega) (by omega)
      have h1 := own_dh_add hQ own_one (by omega)
      have zq : own_z (FP.i2d qi) = qi.toInt * (FP.Core.one64 : Int) := by have := hQ.2; rw [Int.mul_assoc] at this; omega
      have z1 : own_z (FP.dadd (FP.i2d qi) FP.dconst1) = (qi.toInt + 1) * (FP.Core.one64 : Int) := by have := h1.2; rw [show 2 * qi.toInt + 2 = 2 * (qi.toInt + 1) by omega, Int.mul_assoc] at this; omega
      have k1 : FP.dcmp (FP.i2d qi) (FP.ddiv (FP.l2d S) (FP.i2d t)) = some (compare (own_z (FP.i2d qi)) (own_z (FP.ddiv (FP.l2d S) (FP.i2d t)))) := FP.Core.dcmp_zval hQ.1.ne_nan m1
      have k2 : FP.dcmp (FP.ddiv (FP.l2d S) (FP.i2d t)) (FP.dadd (FP.i2d qi) FP.dconst1) = some (compare (own_z (FP.ddiv (FP.l2d S) (FP.i2d t))) (own_z (FP.dadd (FP.i2d qi) FP.dconst1))) := FP.Core.dcmp_zval m1 h1.1.ne_nan
      refine own_go (fun _ => XS.dload X2.here hx rfl (hb hby at_104) rfl ) ?_
      show own_R p.tables e below _ T2 (mkF m 106 #[.val (.int wh), .val (.int qi), .val (.int tb), .val (.int rs), .val (.int k), .val (.ref ma), .val (.int t), .val (.int r), .val (.long S), .second, .val (.double (FP.l2d S)), .second, .val (.double (FP.ddiv (FP.l2d S) (FP.i2d t))), .second, .val (.double (FP.i2d qi)), .second] [(.double (FP.i2d qi))])
      refine own_go (fun _ => XS.dload X2.here hx rfl (hb hby at_106) rfl ) ?_
      show own_R p.tables e below _ T2 (mkF m 108 #[.val (.int wh), .val (.int qi), .val (.int tb), .val (.int rs), .val (.int k), .val (.ref ma), .val (.int t), .val (.int r), .val (.long S), .second, .val (.double (FP.l2d S)), .second, .val (.double (FP.ddiv (FP.l2d S) (FP.i2d t))), .second, .val (.double (FP.i2d qi)), .second] [(.double (FP.ddiv (FP.l2d S) (FP.i2d t))), (.double (FP.i2d qi))])
      refine own_go (fun _ => XS.dcmpS X2.here hx rfl (hb hby at_108) rfl rfl) ?_
      show own_R p.tables e below _ T2 (mkF m 109 #[.val (.int wh), .val (.int qi), .val (.int tb), .val (.int rs), .val (.int k), .val (.ref ma), .val (.int t), .val (.int r), .val (.long S), .second, .val (.double (FP.l2d S)), .second, .val (.double (FP.ddiv (FP.l2d S) (FP.i2d t))), .second, .val (.double (FP.i2d qi)), .second] [(.int (cmpValue (FP.dcmp (FP.i2d qi) (FP.ddiv (FP.l2d S) (FP.i2d t))) .g))])
      refine own_go (fun _ => XS.ifNo X2.here hx rfl (hb hby at_109) rfl ((if0 _ _).trans (tlt (by rw [k1]; exact (own_cv_lt _ _ _).mpr (by omega))).2.1)) ?_
      show own_R p.tables e below _ T2 (mkF m 112 #[.val (.int wh), .val (.int qi), .val (.int tb), .val (.int rs), .val (.int k), .val (.ref ma), .val (.int t), .val (.int r), .val (.long S), .second, .val (.double (FP.l2d S)), .second, .val (.double (FP.ddiv (FP.l2d S) (FP.i2d t))), .second, .val (.double (FP.i2d qi)), .second] [])
      refine own_go (fun _ => XS.dload X2.here hx rfl (hb hby at_112) rfl ) ?_
      show own_R p.tables e below _ T2 (mkF m 114 #[.val (.int wh), .val (.int qi), .val (.int tb), .val (.int rs), .val (.int k), .val (.ref ma), .val (.int t), .val (.int r), .val (.long S), .second, .val (.double (FP.l2d S)), .second, .val (.double (FP.ddiv (FP.l2d S) (FP.i2d t))), .second, .val (.double (FP.i2d qi)), .second] [(.double (FP.ddiv (FP.l2d S) (FP.i2d t)))])
      refine own_go (fun _ => XS.dload X2.here hx rfl (hb hby at_114) rfl ) ?_
      show own_R p.tables e below _ T2 (mkF m 116 #[.val (.int wh), .val (.int qi), .val (.int tb), .val (.int rs), .val (.int k), .val (.ref ma), .val (.int t), .val (.int r), .val (.long S), .second, .val (.double (FP.l2d S)), .second, .val (.double (FP.ddiv (FP.l2d S) (FP.i2d t))), .second, .val (.double (FP.i2d qi)), .second] [(.double (FP.i2d qi)), (.double (FP.ddiv (FP.l2d S) (FP.i2d t)))])
      refine own_go (fun _ => XS.dconst1 X2.here hx rfl (hb hby at_116) rfl) ?_
      show own_R p.tables e below _ T2 (mkF m 117 #[.val (.int wh), .val (.int qi), .val (.int tb), .val (.int rs), .val (.int k), .val (.ref ma), .val (.int t), .val (.int r), .val (.long S), .second, .val (.double (FP.l2d S)), .second, .val (.double (FP.ddiv (FP.l2d S) (FP.i2d t))), .second, .val (.double (FP.i2d qi)), .second] [(.double FP.dconst1), (.double (FP.i2d qi)), (.double (FP.ddiv (FP.l2d S) (FP.i2d t)))])
      refine own_go (fun _ => XS.daddS X2.here hx rfl (hb hby at_117) rfl h1.nn rfl) ?_
      show own_R p.tables e below _ T2 (mkF m 118 #[.val (.int wh), .val (.int qi), .val (.int tb), .val (.int rs), .val (.int k), .val (.ref ma), .val (.int t), .val (.int r), .val (.long S), .second, .val (.double (FP.l2d S)), .second, .val (.double (FP.ddiv (FP.l2d S) (FP.i2d t))), .second, .val (.double (FP.i2d qi)), .second] [(.double (FP.dadd (FP.i2d qi) FP.dconst1)), (.double (FP.ddiv (FP.l2d S) (FP.i2d t)))])
      refine own_go (fun _ => XS.dcmpS X2.here hx rfl (hb hby at_118) rfl rfl) ?_
      show own_R p.tables e below _ T2 (mkF m 119 #[.val (.int wh), .val (.int qi), .val (.int tb), .val (.int rs), .val (.int k), .val (.ref ma), .val (.int t), .val (.int r), .val (.long S), .second, .val (.double (FP.l2d S)), .second, .val (.double (FP.ddiv (FP.l2d S) (FP.i2d t))), .second, .val (.double (FP.i2d qi)), .second] [(.int (cmpValue (FP.dcmp (FP.ddiv (FP.l2d S) (FP.i2d t)) (FP.dadd (FP.i2d qi) FP.dconst1)) .g))])
      refine own_go (fun _ => XS.ifNo X2.here hx rfl (hb hby at_119) rfl ((if0 _ _).trans (tlt (by rw [k2]; exact (own_cv_lt _ _ _).mpr (by omega))).2.1)) ?_
      show own_R p.tables e below _ T2 (mkF m 122 #[.val (.int wh), .val (.int qi), .val (.int tb), .val (.int rs), .val (.int k), .val (.ref ma), .val (.int t), .val (.int r), .val (.long S), .second, .val (.double (FP.l2d S)), .second, .val (.double (FP.ddiv (FP.l2d S) (FP.i2d t))), .second, .val (.double (FP.i2d qi)), .second] [])
      refine own_go (fun _ => XS.iconst X2.here hx rfl (hb hby at_122)) ?_
      show own_R p.tables e below _ T2 (mkF m 123 #[.val (.int wh), .val (.int qi), .val (.int tb), .val (.int rs), .val (.int k), .val (.ref ma), .val (.int t), .val (.int r), .val (.long S), .second, .val (.double (FP.l2d S)), .second, .val (.double (FP.ddiv (FP.l2d S) (FP.i2d t))), .second, .val (.double (FP.i2d qi)), .second] [(.int (1 : Int32))])
      refine own_go (fun _ => XS.goto X2.here hx rfl (pc0 := 123) (pc' := 127) rfl (hb hby at_123) (by decide) (by decide)) ?_
      show own_R p.tables e below _ T2 (mkF m 127 #[.val (.int wh), .val (.int qi), .val (.int tb), .val (.int rs), .val (.int k), .val (.ref ma), .val (.int t), .val (.int r), .val (.long S), .second, .val (.double (FP.l2d S)), .second, .val (.double (FP.ddiv (FP.l2d S) (FP.i2d t))), .second, .val (.double (FP.i2d qi)), .second] [(.int (1 : Int32))])
      exact own_end X2 (some (.int (1 : Int32))) (fun h => by rw [hret] at h; cases h) hlk (fun fs hr => retN X2 hx (t := .boolean) hret (by simp) (hb hby at_127) hr) ⟨rfl, N2⟩ (by decide) (by decide)
theorem own_mk {args : Array Value} {s : State} {nm : String} {c : Int32} (wi : (Jvm.Cond.initialized "com/example/kookaburra/kookaburra/eval/Measure").before args s = true) (wl : (Jvm.Cond.laysStatic "com/example/kookaburra/kookaburra/eval/Measure" nm "Lcom/example/kookaburra/kookaburra/eval/Measure;").before args s = true) (h1 : (Jvm.Cond.exactly (Term.static "com/example/kookaburra/kookaburra/eval/Measure" nm "Lcom/example/kookaburra/kookaburra/eval/Measure;") "com/example/kookaburra/kookaburra/eval/Measure").value args s none s [] = some true)
    (h2 : (Jvm.Cond.eq (Term.field (Term.static "com/example/kookaburra/kookaburra/eval/Measure" nm "Lcom/example/kookaburra/kookaburra/eval/Measure;") "com/example/kookaburra/kookaburra/eval/Measure" "count" "Z") (Term.int c)).value args s none s [] = some true) : own_M s s.heap nm c := by
  obtain ⟨a, ea⟩ := exa_v h1
  refine ⟨a, Sta.start ea (Or.inr ⟨wi, wl⟩), Exa.start ea h1, ?_⟩
  have q := eqv_i (Term.int_eval c) h2
  rw [fld_at ea] at q
  exact Fld.start q
set_option maxRecDepth 65536 in
set_option maxHeartbeats 40000000 in
theorem comes_1 {Post : Tables → Env → Array Value → State → Outcome → State → Prop} (hpost : ∀ tb e args s v u, (limb_1_1.after args s (.returned v) u = true ∧ limb_1_2.after args s (.returned v) u = true ∧ True) → FrameEnd s (.returned v) u (Jvm.fieldLocs frame_1_writes args s ++ Jvm.arrayLocs frame_1_arrays args s ++ Jvm.staticLocs frame_1_statics s) 0 0 → Post tb e args s (.returned v) u) :
    ArmFor flags0 classFile x code maxLocals ret World_1 tables_1 room_1 Calls_1 rest_1 Pre_1 Post := by
  intro l hfl _ _ p e ha hc hk s m args below hf hA hF happ hP
  obtain ⟨hcalls, hrest, hpre⟩ := hP
  obtain ⟨-, -, -, hnamed, -, -, -, hat⟩ := (Spec.applies_iff hf).mp happ
  obtain ⟨hg, hn⟩ := and_e (Cond.before_iff.mp (show (Jvm.Cond.and given_1 narrow_1).before args s = true from hpre))
  obtain ⟨gc, q0⟩ := and_e hg
  obtain ⟨g0, q1⟩ := and_e q0
  obtain ⟨g1, q2⟩ := and_e q1
  obtain ⟨g2, q3⟩ := and_e q2
  have g3 := q3
  obtain ⟨w0, w1, w2, w3, rfl⟩ : ∃ w0 w1 w2 w3 : Value, args = #[w0, w1, w2, w3] := by
    have hs : args.size = 4 := by simpa [Cond.value, given_1] using gc
    obtain ⟨L⟩ := args
    match L, hs with
    | [w0, w1, w2, w3], _ => exact ⟨w0, w1, w2, w3, rfl⟩
  have hw := fun d (hd : d ∈ tables_1) => atoms_spec (ws := Jvm.Cond.code x code maxLocals ret :: tables_1) hat d (List.mem_cons_of_mem _ hd)
  have hfit : Fit s := fun {y c} hc i hi => by
    obtain ⟨ha, rfl⟩ := Array.getElem?_eq_some_iff.mp hc
    have q := List.all_eq_true.mp ((Array.all_eq_true_iff_forall_mem.mp hF) _ (Array.getElem_mem ha)) i (List.mem_range.mpr hi)
    simpa [Array.getElem?_eq_getElem hi] using q
  obtain ⟨i0, ei0⟩ := is_v g0
  obtain rfl : w0 = (.int i0) := Option.some.inj ei0
  obtain ⟨i1, ei1⟩ := is_v g1
  obtain rfl : w1 = (.int i1) := Option.some.inj ei1
  obtain ⟨i2, ei2⟩ := is_v g2
  obtain rfl : w2 = (.int i2) := Option.some.inj ei2
  obtain ⟨i3, ei3⟩ := is_v g3
  obtain rfl : w3 = (.int i3) := Option.some.inj ei3
  have z0 := hn
  obtain ⟨x0, y0⟩ := and_e z0
  obtain ⟨c0, z1⟩ := and_e y0
  have MNUM_RET : own_M s s.heap "NUM_RET" 1 := own_mk (hw _ (List.mem_of_getElem? (i := 6) rfl)) (hw _ (List.mem_of_getElem? (i := 7) rfl)) x0 c0
  obtain ⟨x1, y1⟩ := and_e z1
  obtain ⟨c1, z2⟩ := and_e y1
  have MNUM_REL_RET : own_M s s.heap "NUM_REL_RET" 1 := own_mk (hw _ (List.mem_of_getElem? (i := 6) rfl)) (hw _ (List.mem_of_getElem? (i := 17) rfl)) x1 c1
  obtain ⟨x2, y2⟩ := and_e z2
  obtain ⟨c2, z3⟩ := and_e y2
  have MSUCCESS_10 : own_M s s.heap "SUCCESS_10" 0 := own_mk (hw _ (List.mem_of_getElem? (i := 6) rfl)) (hw _ (List.mem_of_getElem? (i := 19) rfl)) x2 c2
  obtain ⟨x3, y3⟩ := and_e z3
  obtain ⟨c3, z4⟩ := and_e y3
  have MRECIP_RANK : own_M s s.heap "RECIP_RANK" 0 := own_mk (hw _ (List.mem_of_getElem? (i := 6) rfl)) (hw _ (List.mem_of_getElem? (i := 21) rfl)) x3 c3
  obtain ⟨x4, y4⟩ := and_e z4
  obtain ⟨c4, z5⟩ := and_e y4
  have MNUM_REL : own_M s s.heap "NUM_REL" 1 := own_mk (hw _ (List.mem_of_getElem? (i := 6) rfl)) (hw _ (List.mem_of_getElem? (i := 23) rfl)) x4 c4
  obtain ⟨x5, y5⟩ := and_e z5
  obtain ⟨c5, z6⟩ := and_e y5
  have MMAP : own_M s s.heap "MAP" 0 := own_mk (hw _ (List.mem_of_getElem? (i := 6) rfl)) (hw _ (List.mem_of_getElem? (i := 25) rfl)) x5 c5
  obtain ⟨x6, y6⟩ := and_e z6
  obtain ⟨c6, z7⟩ := and_e y6
  have MP_10 : own_M s s.heap "P_10" 0 := own_mk (hw _ (List.mem_of_getElem? (i := 6) rfl)) (hw _ (List.mem_of_getElem? (i := 27) rfl)) x6 c6
  obtain ⟨x7, y7⟩ := and_e z7
  obtain ⟨c7, z8⟩ := and_e y7
  have MSUCCESS_5 : own_M s s.heap "SUCCESS_5" 0 := own_mk (hw _ (List.mem_of_getElem? (i := 6) rfl)) (hw _ (List.mem_of_getElem? (i := 29) rfl)) x7 c7
  obtain ⟨x8, y8⟩ := and_e z8
  obtain ⟨c8, z9⟩ := and_e y8
  have MSUCCESS_1 : own_M s s.heap "SUCCESS_1" 0 := own_mk (hw _ (List.mem_of_getElem? (i := 6) rfl)) (hw _ (List.mem_of_getElem? (i := 31) rfl)) x8 c8
  obtain ⟨x9, y9⟩ := and_e z9
  have c9 := y9
  have MP_5 : own_M s s.heap "P_5" 0 := own_mk (hw _ (List.mem_of_getElem? (i := 6) rfl)) (hw _ (List.mem_of_getElem? (i := 33) rfl)) x9 c9
  obtain ⟨n, o, h1, h2, h3, _, L, rfl, ⟨rfl, N⟩, hq⟩ := rm0 l s _ hw tables_1 s.heap s.heap.size i0 i1 i2 i3 MNUM_RET MNUM_REL MNUM_REL_RET MMAP MRECIP_RANK MP_5 MP_10 MSUCCESS_1 MSUCCESS_5 MSUCCESS_10 p e ha hc hk s m _ below hf ((Spec.applies_iff_loose hf).mp happ).1 ⟨rfl, State.Warmed39.refl s, rfl⟩ trivial
  refine ⟨n, _, h1, h2, h3, hpost _ _ _ _ _ _ ⟨Cond.after_iff.mpr rfl, Cond.after_iff.mpr (eq_i res_at (Term.int_eval (1)) rfl), trivial⟩ ⟨hq.1, hq.2.1, (hq.2.2.sift fun y hy => Or.inr (N y hy)).mono (by decide) (by decide)⟩⟩
theorem main_1_1 : Claimed_1_1 := comes_1 fun _ _ _ _ _ _ h hF => ⟨h.1, hF⟩
theorem main_1_2 : Claimed_1_2 := comes_1 fun _ _ _ _ _ _ h hF => ⟨h.2.1, hF⟩

end Jvm.Pilot.@@N@@
namespace Jvm.Pilot.@@N@@
open Jvm Jvm.ClassFile Sem Op Lib Jvm.Free Jvm.Stand Jvm.Pilot.@@N@@.Jvm.D
/-! MADE BY PROGRAM (witnessworld.py) out of the Statement's table words and the real class files: 12 classes; the members and pool entries that the words name. The judged class is class 1, her method 2. -/
namespace start1
open Jvm.ClassFile
def u (s : String) : CpInfo := .utf8 (stringToUtf16 s)
/-- a pool by its gaps: so many unusable entries, then the entry; so many at the end -/
def gap : Nat → List CpInfo → List CpInfo
  | 0, r => r
  | n + 1, r => .unusable :: gap n r
def poolList (es : List (Nat × CpInfo)) (last : Nat) : List CpInfo := es.foldr (fun e r => gap e.1 (e.2 :: r)) (gap last [])
def pool (es : List (Nat × CpInfo)) (last : Nat) : Array CpInfo := ⟨poolList es last⟩
def fileOf (pool : Array CpInfo) (this : Nat) (attrs : Array Attribute := #[]) (ms : Array MethodInfo := #[]) (fl : Nat := 33) (sup : Nat := 0) (ifs : Array Nat := #[]) (fds : Array FieldInfo := #[]) : ClassFile where
  minorVersion := 0
  majorVersion := 65
  constantPool := pool
  accessFlags := fl
  thisClass := this
  superClass := sup
  interfaces := ifs
  fields := fds
  methods := ms
  attributes := attrs
def plain (name : String) (sup : Option ClassId) : Class where
  name := name
  kind := .ordinary
  loader := none
  accessFlags := 33
  super := sup
  interfaces := #[]
  cf := none
  fields := #[]
  methods := #[]
  instanceTypes := #[]
  staticTypes := #[]
  resolved := #[]
  callSites := []
  init := .initialized
  statics := none
  mirror := none

def pool0 : Array CpInfo := pool [(5, u "<init>"), (0, u "()V"), (1, .class_ 10), (1, u "java/lang/Object")] 113

def k0m0 : Method := { name := "<init>", desc := "()V", sig := { parameters := [], returnType := none }, accessFlags := 1, code := none }
/-- java/lang/Object -/
def k0 : Class := { plain "java/lang/Object" none with
  accessFlags := 33
  interfaces := #[]
  cf := some (fileOf pool0 8 #[] #[{ accessFlags := 1, nameIndex := 5, descriptorIndex := 6, attributes := #[] }] 33 0 #[] #[])
  fields := #[]
  methods := #[k0m0]
  instanceTypes := #[]
  staticTypes := #[]
  resolved := Array.replicate 124 none
  statics := none }

def pool1 : Array CpInfo := pool [(2, .class_ 4), (1, u "java/lang/Object"), (0, u "<init>"), (0, u "()V"), (0, .fieldref 8 9), (0, .class_ 10), (0, .nameAndType 11 12), (0, u "com/example/kookaburra/kookaburra/eval/Measure"), (0, u "NUM_RET"), (0, u "Lcom/example/kookaburra/kookaburra/eval/Measure;"), (0, .fieldref 8 14), (0, .nameAndType 15 12), (0, u "NUM_REL"), (0, .fieldref 8 17), (0, .nameAndType 18 12), (0, u "NUM_REL_RET"), (0, .fieldref 8 20), (0, .nameAndType 21 12), (0, u "MAP"), (0, .fieldref 8 23), (0, .nameAndType 24 12), (0, u "RECIP_RANK"), (0, .fieldref 8 26), (0, .nameAndType 27 12), (0, u "P_5"), (0, .fieldref 8 29), (0, .nameAndType 30 12), (0, u "P_10"), (0, .fieldref 8 32), (0, .nameAndType 33 12), (0, u "SUCCESS_1"), (0, .fieldref 8 35), (0, .nameAndType 36 12), (0, u "SUCCESS_5"), (0, .fieldref 8 38), (0, .nameAndType 39 12), (0, u "SUCCESS_10"), (0, .integer 2147483647), (0, .methodref 42 43), (0, .class_ 44), (0, .nameAndType 45 46), (0, u "com/example/kookaburra/kookaburra/eval/MeasureSummaryPinLaw"), (0, u "pick"), (0, u "(I)Lcom/example/kookaburra/kookaburra/eval/Measure;"), (0, .integer 1048575), (0, .methodref 8 49), (0, .nameAndType 50 51), (0, u "summary"), (0, u "(DI)D"), (3, u "law"), (0, u "(IIII)Z")] 2

def k1m0 : Method := { name := "<init>", desc := "()V", sig := { parameters := [], returnType := none }, accessFlags := 2, code := none }
def k1c1 : Code := { maxStack := 2, maxLocals := 1, code := method_2_code, exceptionTable := #[], attributes := #[] }
def k1m1 : Method := { name := "pick", desc := "(I)Lcom/example/kookaburra/kookaburra/eval/Measure;", sig := { parameters := [.int], returnType := some (.object "com/example/kookaburra/kookaburra/eval/Measure") }, accessFlags := 10, code := some k1c1 }
def k1c2 : Code := { maxStack := 6, maxLocals := 16, code := code, exceptionTable := #[], attributes := #[] }
def k1m2 : Method := { name := "law", desc := "(IIII)Z", sig := { parameters := [.int, .int, .int, .int], returnType := some .boolean }, accessFlags := 9, code := some k1c2 }
/-- com/example/kookaburra/kookaburra/eval/MeasureSummaryPinLaw -/
def k1 : Class := { plain "com/example/kookaburra/kookaburra/eval/MeasureSummaryPinLaw" (some 0) with
  accessFlags := 49
  interfaces := #[]
  cf := some (fileOf pool1 42 #[] #[{ accessFlags := 2, nameIndex := 5, descriptorIndex := 6, attributes := #[] }, { accessFlags := 10, nameIndex := 45, descriptorIndex := 46, attributes := #[] }, { accessFlags := 9, nameIndex := 55, descriptorIndex := 56, attributes := #[] }] 49 2 #[] #[])
  fields := #[]
  methods := #[k1m0, k1m1, k1m2]
  instanceTypes := #[]
  staticTypes := #[]
  resolved := Array.replicate 59 none
  statics := none }

def pool2 : Array CpInfo := pool [(1, .class_ 2), (0, u "java/lang/constant/Constable"), (0, .class_ 4), (0, u "java/lang/Object")] 6

/-- java/lang/constant/Constable -/
def k2 : Class := { plain "java/lang/constant/Constable" (some 0) with
  accessFlags := 1537
  interfaces := #[]
  cf := some (fileOf pool2 1 #[] #[] 1537 3 #[] #[])
  fields := #[]
  methods := #[]
  instanceTypes := #[]
  staticTypes := #[]
  resolved := Array.replicate 11 none
  statics := none }

def pool3 : Array CpInfo := pool [(1, .class_ 2), (0, u "java/lang/Comparable"), (0, .class_ 4), (0, u "java/lang/Object")] 7

/-- java/lang/Comparable -/
def k3 : Class := { plain "java/lang/Comparable" (some 0) with
  accessFlags := 1537
  interfaces := #[]
  cf := some (fileOf pool3 1 #[] #[] 1537 3 #[] #[])
  fields := #[]
  methods := #[]
  instanceTypes := #[]
  staticTypes := #[]
  resolved := Array.replicate 12 none
  statics := none }

def pool4 : Array CpInfo := pool [(1, .class_ 2), (0, u "java/io/Serializable"), (0, .class_ 4), (0, u "java/lang/Object")] 2

/-- java/io/Serializable -/
def k4 : Class := { plain "java/io/Serializable" (some 0) with
  accessFlags := 1537
  interfaces := #[]
  cf := some (fileOf pool4 1 #[] #[] 1537 3 #[] #[])
  fields := #[]
  methods := #[]
  instanceTypes := #[]
  staticTypes := #[]
  resolved := Array.replicate 7 none
  statics := none }

def pool5 : Array CpInfo := pool [(2, .class_ 4), (1, u "java/lang/Enum"), (0, u "name"), (0, u "Ljava/lang/String;"), (2, u "ordinal"), (0, u "I"), (1, .class_ 14), (1, u "java/lang/Object"), (4, u "hash"), (86, .class_ 108), (1, u "java/lang/Enum$EnumDesc"), (2, .class_ 112), (0, u "java/lang/constant/Constable"), (0, .class_ 114), (0, u "java/lang/Comparable"), (0, .class_ 116), (0, u "java/io/Serializable")] 87

/-- java/lang/Enum -/
def k5 : Class := { plain "java/lang/Enum" (some 0) with
  accessFlags := 1057
  interfaces := #[2, 3, 4]
  cf := some (fileOf pool5 2 #[.nestMembers #[106]] #[] 1057 12 #[111, 113, 115] #[{ accessFlags := 18, nameIndex := 5, descriptorIndex := 6, attributes := #[] }, { accessFlags := 18, nameIndex := 9, descriptorIndex := 10, attributes := #[] }, { accessFlags := 2, nameIndex := 19, descriptorIndex := 10, attributes := #[] }])
  fields := #[{ name := "name", type := (.object "java/lang/String"), accessFlags := 18, slot := 0, constantValue := 0 }, { name := "ordinal", type := .int, accessFlags := 18, slot := 1, constantValue := 0 }, { name := "hash", type := .int, accessFlags := 2, slot := 2, constantValue := 0 }]
  methods := #[]
  instanceTypes := #[(.object "java/lang/String"), .int, .int]
  staticTypes := #[]
  resolved := Array.replicate 204 none
  statics := none }

def pool6 : Array CpInfo := pool [(1, .class_ 2), (0, u "com/example/kookaburra/kookaburra/eval/Measure"), (2, u "NUM_RET"), (0, u "Lcom/example/kookaburra/kookaburra/eval/Measure;"), (2, u "NUM_REL"), (2, u "NUM_REL_RET"), (2, u "MAP"), (2, u "RECIP_RANK"), (2, u "P_5"), (2, u "P_10"), (2, u "SUCCESS_1"), (2, u "SUCCESS_5"), (2, u "SUCCESS_10"), (2, u "$VALUES"), (0, u "[Lcom/example/kookaburra/kookaburra/eval/Measure;"), (6, .class_ 46), (1, u "java/lang/Enum"), (8, u "label"), (0, u "Ljava/lang/String;"), (0, .fieldref 1 58), (0, .nameAndType 59 60), (0, u "count"), (0, u "Z"), (2, u "measure"), (0, u "Ljava/util/function/ToDoubleFunction;"), (72, u "DECIMALS"), (0, u "I"), (13, u "summary"), (0, u "(DI)D")] 67

def k6c0 : Code := { maxStack := 4, maxLocals := 4, code := prog_4_method_6_code, exceptionTable := #[], attributes := #[] }
def k6m0 : Method := { name := "summary", desc := "(DI)D", sig := { parameters := [.double, .int], returnType := some .double }, accessFlags := 0, code := some k6c0 }
/-- com/example/kookaburra/kookaburra/eval/Measure -/
def k6 : Class := { plain "com/example/kookaburra/kookaburra/eval/Measure" (some 5) with
  accessFlags := 16432
  interfaces := #[]
  cf := some (fileOf pool6 1 #[] #[{ accessFlags := 0, nameIndex := 152, descriptorIndex := 153, attributes := #[] }] 16432 44 #[] #[{ accessFlags := 16409, nameIndex := 5, descriptorIndex := 6, attributes := #[] }, { accessFlags := 16409, nameIndex := 9, descriptorIndex := 6, attributes := #[] }, { accessFlags := 16409, nameIndex := 12, descriptorIndex := 6, attributes := #[] }, { accessFlags := 16409, nameIndex := 15, descriptorIndex := 6, attributes := #[] }, { accessFlags := 16409, nameIndex := 18, descriptorIndex := 6, attributes := #[] }, { accessFlags := 16409, nameIndex := 21, descriptorIndex := 6, attributes := #[] }, { accessFlags := 16409, nameIndex := 24, descriptorIndex := 6, attributes := #[] }, { accessFlags := 16409, nameIndex := 27, descriptorIndex := 6, attributes := #[] }, { accessFlags := 16409, nameIndex := 30, descriptorIndex := 6, attributes := #[] }, { accessFlags := 16409, nameIndex := 33, descriptorIndex := 6, attributes := #[] }, { accessFlags := 26, nameIndex := 137, descriptorIndex := 138, attributes := #[] }, { accessFlags := 18, nameIndex := 55, descriptorIndex := 56, attributes := #[] }, { accessFlags := 18, nameIndex := 59, descriptorIndex := 60, attributes := #[] }, { accessFlags := 18, nameIndex := 63, descriptorIndex := 64, attributes := #[] }, { accessFlags := 4122, nameIndex := 36, descriptorIndex := 37, attributes := #[] }])
  fields := #[{ name := "NUM_RET", type := (.object "com/example/kookaburra/kookaburra/eval/Measure"), accessFlags := 16409, slot := 0, constantValue := 0 }, { name := "NUM_REL", type := (.object "com/example/kookaburra/kookaburra/eval/Measure"), accessFlags := 16409, slot := 1, constantValue := 0 }, { name := "NUM_REL_RET", type := (.object "com/example/kookaburra/kookaburra/eval/Measure"), accessFlags := 16409, slot := 2, constantValue := 0 }, { name := "MAP", type := (.object "com/example/kookaburra/kookaburra/eval/Measure"), accessFlags := 16409, slot := 3, constantValue := 0 }, { name := "RECIP_RANK", type := (.object "com/example/kookaburra/kookaburra/eval/Measure"), accessFlags := 16409, slot := 4, constantValue := 0 }, { name := "P_5", type := (.object "com/example/kookaburra/kookaburra/eval/Measure"), accessFlags := 16409, slot := 5, constantValue := 0 }, { name := "P_10", type := (.object "com/example/kookaburra/kookaburra/eval/Measure"), accessFlags := 16409, slot := 6, constantValue := 0 }, { name := "SUCCESS_1", type := (.object "com/example/kookaburra/kookaburra/eval/Measure"), accessFlags := 16409, slot := 7, constantValue := 0 }, { name := "SUCCESS_5", type := (.object "com/example/kookaburra/kookaburra/eval/Measure"), accessFlags := 16409, slot := 8, constantValue := 0 }, { name := "SUCCESS_10", type := (.object "com/example/kookaburra/kookaburra/eval/Measure"), accessFlags := 16409, slot := 9, constantValue := 0 }, { name := "DECIMALS", type := .int, accessFlags := 26, slot := 10, constantValue := 0 }, { name := "label", type := (.object "java/lang/String"), accessFlags := 18, slot := 3, constantValue := 0 }, { name := "count", type := .boolean, accessFlags := 18, slot := 4, constantValue := 0 }, { name := "measure", type := (.object "java/util/function/ToDoubleFunction"), accessFlags := 18, slot := 5, constantValue := 0 }, { name := "$VALUES", type := (.array (.object "com/example/kookaburra/kookaburra/eval/Measure")), accessFlags := 4122, slot := 11, constantValue := 0 }]
  methods := #[k6m0]
  instanceTypes := #[(.object "java/lang/String"), .int, .int, (.object "java/lang/String"), .boolean, (.object "java/util/function/ToDoubleFunction")]
  staticTypes := #[(.object "com/example/kookaburra/kookaburra/eval/Measure"), (.object "com/example/kookaburra/kookaburra/eval/Measure"), (.object "com/example/kookaburra/kookaburra/eval/Measure"), (.object "com/example/kookaburra/kookaburra/eval/Measure"), (.object "com/example/kookaburra/kookaburra/eval/Measure"), (.object "com/example/kookaburra/kookaburra/eval/Measure"), (.object "com/example/kookaburra/kookaburra/eval/Measure"), (.object "com/example/kookaburra/kookaburra/eval/Measure"), (.object "com/example/kookaburra/kookaburra/eval/Measure"), (.object "com/example/kookaburra/kookaburra/eval/Measure"), .int, (.array (.object "com/example/kookaburra/kookaburra/eval/Measure"))]
  resolved := Array.replicate 221 none
  statics := some 0 }

def pool7 : Array CpInfo := pool [(1, u "java/lang/Cloneable"), (0, .class_ 1), (0, u "java/lang/Object"), (0, .class_ 3)] 3

/-- java/lang/Cloneable -/
def k7 : Class := { plain "java/lang/Cloneable" (some 0) with
  accessFlags := 1537
  interfaces := #[]
  cf := some (fileOf pool7 2 #[] #[] 1537 4 #[] #[])
  fields := #[]
  methods := #[]
  instanceTypes := #[]
  staticTypes := #[]
  resolved := Array.replicate 8 none
  statics := none }

/-- the primitive byte -/
def k8 : Class := { plain "byte" none with kind := .primitive 'B', accessFlags := 0x411 }
/-- [B -/
def k9 : Class := { plain "[B" (some 0) with kind := .array 8 .byte, interfaces := #[7, 4], accessFlags := 1041 }

/-- the primitive int -/
def k10 : Class := { plain "int" none with kind := .primitive 'I', accessFlags := 0x411 }
/-- [I -/
def k11 : Class := { plain "[I" (some 0) with kind := .array 10 .int, interfaces := #[7, 4], accessFlags := 1041 }

def heap : Heap := #[{ cls := 6, slots := #[.ref 1, .ref 1, .ref 1, .ref 2, .ref 2, .ref 2, .ref 2, .ref 2, .ref 2, .ref 2, .int 0, .null], vm := .statics 6 },
  { cls := 6, slots := #[.null, .int 0, .int 0, .null, .int 1, .null], vm := .none },
  { cls := 6, slots := #[.null, .int 0, .int 0, .null, .int 0, .null], vm := .none }]
def classes : Array Class := #[k0, k1, k2, k3, k4, k5, k6, k7, k8, k9, k10, k11]
def interned : List (Array UInt16 × Addr) := []
def slotsUsed : Nat := 24
def theMethod : MethodId := ⟨1, 2⟩
def args0 : Array Value := #[.int 1, .int 2, .int 3, .int 4]
def aboutOver (below : List Frame) : State where
  vm := { classes := classes, interned := interned.toArray }
  heap := heap
  slotsUsed := slotsUsed
  threads := #[{ frames := .invoking theMethod args0 :: below }]
def below0 : List Frame := [.native { method := ⟨0, 0⟩, args := #[] }]
def about1 : State := aboutOver below0
def p0 : Program := .bare "" "" ""
def e0 : Env := launch0.env 0 0 0
theorem w_frames : about1.frames = Frame.invoking theMethod args0 :: below0 := rfl
set_option maxRecDepth 65536 in
theorem w_args : argsFit about1.vm theMethod args0 = true := by decide +kernel
set_option maxRecDepth 65536 in
theorem w_heap : heapFits about1 = true := by decide +kernel
set_option maxRecDepth 65536 in
theorem w_runnable : about1.curStatus? = some .runnable := by decide +kernel
set_option maxRecDepth 65536 in
theorem w_alone : about1.alone = true := by decide +kernel
set_option maxRecDepth 65536 in
theorem w_named : about1.methodNamed? x = some theMethod := by decide +kernel
set_option maxRecDepth 65536 in
theorem w_hears : about1.hears theMethod below0 = true := by decide +kernel
set_option maxRecDepth 65536 in
theorem w_ripe : about1.ripe theMethod args0 below0 = true := by decide +kernel
theorem w_running : about1.status = .running := rfl
set_option maxRecDepth 65536 in
theorem w_room : about1.hasRoom e0.platform room_1 = true :=
  launch0.hasRoom_least _ room_1 (by decide +kernel) (by decide +kernel) (by decide +kernel) (by decide +kernel) (by decide +kernel) (by decide +kernel)
theorem allAtoms_all (ts : List Jvm.Cond) (a : Array Jvm.Value) (st : Jvm.State) : (allAtoms ts).before a st = ts.all (fun c => c.before a st) := by
  induction ts with
  | nil => rfl
  | cons c t ih =>
    show (Jvm.Cond.and c (allAtoms t)).before a st = _
    rw [Jvm.Cond.before_and, ih, List.all_cons]
def words1 : List Jvm.Cond := Jvm.Cond.code x code maxLocals ret :: tables_1
/-- a 'code' word, met by the world's own term for the bytes: nothing is compared byte by byte -/
theorem code_word {y : MethodName} {bytes : ByteArray} {mx : Nat} {rt : Option FieldType} {a : Array Value} {s : State} {m : MethodId} {meth : Method} {c : Code} (h1 : s.methodNamed? y = some m) (h2 : s.vm.method? m = some meth) (h3 : meth.code = some c) (h4 : c.code = bytes)
    (h5 : (c.maxLocals == mx && c.exceptionTable.isEmpty && decide (c.maxStack ≤ mostOperands) && decide (meth.sig.returnType = rt) && !meth.locks && decide (parseMethodDescriptor y.desc = some meth.sig)) = true) : (Jvm.Cond.code y bytes mx rt).before a s = true := by
  simp only [Bool.and_eq_true, beq_iff_eq, Bool.not_eq_true', decide_eq_true_eq] at h5
  obtain ⟨⟨⟨⟨⟨g1, g2⟩, g3⟩, g4⟩, g5⟩, g6⟩ := h5
  simp [Cond.before, Cond.holds, Cond.value, h1, h2, h3, h4, g1, g2, g3, g4, g5, g6]
def isCode : Jvm.Cond → Bool
  | .code _ _ _ _ => true
  | _ => false
theorem all_split {L : List Jvm.Cond} {P : Jvm.Cond → Bool} (h1 : L.all (fun c => isCode c || P c) = true) (h2 : ∀ c ∈ L.filter isCode, P c = true) : L.all P = true := by
  refine List.all_eq_true.mpr fun c hc => ?_
  have h := List.all_eq_true.mp h1 c hc
  rcases Bool.eq_false_or_eq_true (isCode c) with hi | hi
  · exact h2 c (List.mem_filter.mpr ⟨hc, hi⟩)
  · simpa [hi] using h
set_option maxRecDepth 65536 in
theorem w_c0 : (Jvm.Cond.code x code maxLocals ret).before args0 about1 = true := code_word (m := ⟨1, 2⟩) (meth := k1m2) (c := k1c2) (by decide +kernel) rfl rfl rfl (by decide +kernel)
set_option maxRecDepth 65536 in
theorem w_c1 : (Jvm.Cond.code ({ cls := "com/example/kookaburra/kookaburra/eval/MeasureSummaryPinLaw", name := "pick", desc := "(I)Lcom/example/kookaburra/kookaburra/eval/Measure;" } : Jvm.MethodName) method_2_code (1 : Nat) (Option.some (Jvm.ClassFile.FieldType.object "com/example/kookaburra/kookaburra/eval/Measure"))).before args0 about1 = true := code_word (m := ⟨1, 1⟩) (meth := k1m1) (c := k1c1) (by decide +kernel) rfl rfl rfl (by decide +kernel)
set_option maxRecDepth 65536 in
theorem w_c2 : (Jvm.Cond.code ({ cls := "com/example/kookaburra/kookaburra/eval/Measure", name := "summary", desc := "(DI)D" } : Jvm.MethodName) prog_4_method_6_code (4 : Nat) (Option.some Jvm.ClassFile.FieldType.double)).before args0 about1 = true := code_word (m := ⟨6, 0⟩) (meth := k6m0) (c := k6c0) (by decide +kernel) rfl rfl rfl (by decide +kernel)
def codes1 : List Jvm.Cond := [Jvm.Cond.code x code maxLocals ret, Jvm.Cond.code ({ cls := "com/example/kookaburra/kookaburra/eval/MeasureSummaryPinLaw", name := "pick", desc := "(I)Lcom/example/kookaburra/kookaburra/eval/Measure;" } : Jvm.MethodName) method_2_code (1 : Nat) (Option.some (Jvm.ClassFile.FieldType.object "com/example/kookaburra/kookaburra/eval/Measure")), Jvm.Cond.code ({ cls := "com/example/kookaburra/kookaburra/eval/Measure", name := "summary", desc := "(DI)D" } : Jvm.MethodName) prog_4_method_6_code (4 : Nat) (Option.some Jvm.ClassFile.FieldType.double)]
set_option maxRecDepth 65536 in
theorem codes_eq : words1.filter isCode = codes1 := rfl
theorem w_codes : ∀ c ∈ words1.filter isCode, c.before args0 about1 = true := by
  rw [codes_eq]
  intro c hc
  simp only [codes1, List.mem_cons, List.not_mem_nil, or_false] at hc
  rcases hc with rfl | rfl | rfl
  · exact w_c0
  · exact w_c1
  · exact w_c2
set_option maxRecDepth 65536 in
theorem w_t1 : (words1.take 24).all (fun c => isCode c || c.before args0 about1) = true := by decide +kernel
set_option maxRecDepth 65536 in
theorem w_t2 : (words1.drop 24).all (fun c => isCode c || c.before args0 about1) = true := by decide +kernel
theorem w_tables : (allAtoms (Jvm.Cond.code x code maxLocals ret :: tables_1)).before args0 about1 = true := by
  rw [allAtoms_all]
  show words1.all (fun c => c.before args0 about1) = true
  refine all_split ?_ w_codes
  rw [← List.take_append_drop 24 words1, List.all_append, w_t1, w_t2]
  rfl
set_option maxRecDepth 65536 in
theorem w_case : (Jvm.Cond.and given_1 narrow_1).before args0 about1 = true := by decide +kernel
theorem w_applies : (headSpec (Jvm.Cond.code x code maxLocals ret :: tables_1) room_1).applies x e0.platform about1 = true :=
  (Spec.applies_iff w_frames).mpr ⟨w_running, w_runnable, w_alone, w_named, w_hears, w_ripe, w_room, w_tables⟩
theorem atStart : AtStart classFile x code maxLocals ret World_1 tables_1 room_1 Calls_1 rest_1 Pre_1 launch0 p0 e0 about1 theMethod args0 below0 :=
  ⟨lists_1, trivial, launch0.admits_env _ _ _, launch0.least_env, fairChoices_fair.cas, fairChoices_fair.clock, w_frames, w_args, w_heap, w_applies, trivial, trivial, w_case⟩
end start1
theorem witness_1 : WitnessClaimed_1 := ⟨start1.p0, start1.e0, start1.about1, start1.theMethod, start1.args0, start1.below0, start1.atStart⟩
end Jvm.Pilot.@@N@@
