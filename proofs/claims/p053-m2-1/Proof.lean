import JvmDerived
import JvmDerived.Pilot.@@N@@Statement
import JvmDerived.Pilot.@@N@@Code
set_option linter.unusedVariables false
set_option linter.unusedSimpArgs false
namespace Jvm.Pilot.@@N@@
open Jvm Jvm.ClassFile Sem Op Lib Jvm.Free Jvm.Stand Jvm.LawKit Jvm.RoadKit Bundle Jvm.Pilot.@@N@@.Jvm.D

section OwnKit
variable {p : Program} {l : Launch} {e : Env} {R : Room} {s : State} {m : MethodId} {args : Array Value} {below : List Frame} {meth : Method} {c : Code} {T : State} {locs : List Loc} {cells slots : Nat} {Z : State} {a0 : Array Value} {h : Heap}
/-- from T at frame F the walk reaches a state that P holds of -/
def own_R (tb : Tables) (e : Env) (below : List Frame) (P : State → Prop) (T : State) (F : JFrame) : Prop := ∃ t, Steps tb e below (T.setTop F) t ∧ P t
theorem own_go {tb : Tables} {e : Env} {below : List Frame} {P : State → Prop} {T T' : State} {F F' : JFrame} (h : ∀ t, Steps tb e below (T'.setTop F') t → Steps tb e below (T.setTop F) t) (r : own_R tb e below P T' F') : own_R tb e below P T F := by
  obtain ⟨t, a, b⟩ := r
  exact ⟨t, h t a, b⟩
/-- what a body's end must meet -/
def own_E (s : State) (below : List Frame) (Q : Option Value → Heap → List Loc → Prop) (C N : Nat) (t : State) : Prop := ∃ v L, t.status = .running ∧ Ended t below (.returned v) ∧ Q v t.heap L ∧ FrameEnd s (.returned v) t L C N
/-- a body's contract -/
abbrev own_C (l : Launch) (Z : State) (y : MethodName) (bytes : ByteArray) (ml : Nat) (ret : Option FieldType) (ws : List Jvm.Cond) (rm : Room) (as : Array Value) (h0 : Heap) (Q : Option Value → Heap → List Loc → Prop) : Prop :=
  MetFree l y (head1 (Jvm.Cond.code y bytes ml ret :: ws) rm) (fun a U => a = as ∧ Z.Warmed39 U.vm ∧ U.heap = h0) (fun _ _ _ _ _ => True) (fun _ U o U' => ∃ v L, o = .returned v ∧ Q v U'.heap L ∧ FrameEnd U o U' L rm.cells rm.slots)
theorem own_body {y : MethodName} {bytes : ByteArray} {ml : Nat} {ret : Option FieldType} {ws : List Jvm.Cond} {rm : Room} {as : Array Value} {h0 : Heap} {Q : Option Value → Heap → List Loc → Prop} {ls : Array Slot}
    (hy : plainFor y = true) (hef : ∀ m, entryFrame m as ml = mkF m 0 ls [])
    (H : ∀ (p : Program) (e : Env) (s : State) (m : MethodId) (below : List Frame) (meth : Method) (c : Code) (T : State), Z.Warmed39 s.vm → p.tables.exec = Jvm.exec → c.code = bytes → c.maxLocals = ml → s.vm.findClass y.cls = some m.cls → meth.name = y.name → meth.sig.returnType = ret → meth.locks = false →
      Stand p l e rm s m as below meth c T [] 0 0 → T.heap = h0 → own_R p.tables e below (own_E s below Q rm.cells rm.slots) T (mkF m 0 ls [])) :
    own_C l Z y bytes ml ret ws rm as h0 Q := by
  refine MetFree.of_bodySF hy hisR ?_
  intro p e s m args below meth c s₁ Bd hml0 hP hK
  obtain ⟨rfl, hZ, hh⟩ := hP
  obtain ⟨t, st, v, L, h1, h2, h3, h4⟩ := H p e s m below meth c s₁ hZ Bd.exec Bd.bytes hml0 (findClass_of_methodNamed Bd.named) (name_of_methodNamed Bd.named Bd.method).1 Bd.returns Bd.notSynchronized (Stand.of_body Bd) (by rw [← hh, Bd.state]; rfl)
  exact ⟨t, _, castTop (hef m) st, h1, h2, v, L, rfl, h3, h4⟩
theorem own_end {Q : Option Value → Heap → List Loc → Prop} {C N : Nat} {F : JFrame} (X : Stand p l e R s m args below meth c T locs cells slots) (v : Option Value) (hv : meth.sig.returnType = none → v = none) (hlk : meth.locks = false)
    (hst : ∀ fs, (∀ (f : JFrame) (acts : List Action), f.method = m → f.locked = none → f.entered = [] → (doReturn e (T.setTop f) acts v).1 = T.setFrames fs) → Steps p.tables e below (T.setTop F) (T.setFrames fs))
    (hQ : Q v T.heap locs) (hc : cells ≤ C) (hn : slots ≤ N) : own_R p.tables e below (own_E s below Q C N) T F := by
  obtain ⟨fs, hr, hrun, hended, hW, hsame⟩ := X.leave (v := v) hv hlk
  exact ⟨_, hst fs hr, v, locs, hrun, hended, hQ, ⟨_, rfl⟩, hW, hsame.mono hc hn⟩
theorem own_retI (X : Stand p l e R s m args below meth c T locs cells slots) (hx : p.tables.exec = Jvm.exec) {pc : Nat} {Ls : Array Slot} {z : Int32} {rest : List Value} (hret : meth.sig.returnType = some .int) (hd : decode c.code pc = .ok (.ireturn, 1)) {fs : List Frame}
    (hl : ∀ (f : JFrame) (acts : List Action), f.method = m → f.locked = none → f.entered = [] → (doReturn e (T.setTop f) acts (some (.int z))).1 = T.setFrames fs) : Steps p.tables e below (T.setTop (mkF m pc Ls (.int z :: rest))) (T.setFrames fs) := by
  have hm' : T.vm.method? m = some meth := X.method'
  have hn : narrow .int (.int z) = .int z := rfl
  show Steps p.tables e below (T.setTop { method := m, pc := pc, locals := Ls, stack := _ :: rest, locked := none }) _
  jvm_step X.here [X.here.top, hx, hd, hm', hret, hn]
  first | (intro acts; rw [hl _ acts rfl rfl rfl]) | rw [hl _ _ rfl rfl rfl]
  exact Steps.refl _
theorem own_retJ (X : Stand p l e R s m args below meth c T locs cells slots) (hx : p.tables.exec = Jvm.exec) {pc : Nat} {Ls : Array Slot} {z : Int64} {rest : List Value} (hret : meth.sig.returnType = some .long) (hd : decode c.code pc = .ok (.lreturn, 1)) {fs : List Frame}
    (hl : ∀ (f : JFrame) (acts : List Action), f.method = m → f.locked = none → f.entered = [] → (doReturn e (T.setTop f) acts (some (.long z))).1 = T.setFrames fs) : Steps p.tables e below (T.setTop (mkF m pc Ls (.long z :: rest))) (T.setFrames fs) := by
  have hm' : T.vm.method? m = some meth := X.method'
  have hn : narrow .long (.long z) = .long z := rfl
  show Steps p.tables e below (T.setTop { method := m, pc := pc, locals := Ls, stack := _ :: rest, locked := none }) _
  jvm_step X.here [X.here.top, hx, hd, hm', hret, hn]
  first | (intro acts; rw [hl _ acts rfl rfl rfl]) | rw [hl _ _ rfl rfl rfl]
  exact Steps.refl _
theorem own_retD (X : Stand p l e R s m args below meth c T locs cells slots) (hx : p.tables.exec = Jvm.exec) {pc : Nat} {Ls : Array Slot} {z : UInt64} {rest : List Value} (hret : meth.sig.returnType = some .double) (hd : decode c.code pc = .ok (.dreturn, 1)) {fs : List Frame}
    (hl : ∀ (f : JFrame) (acts : List Action), f.method = m → f.locked = none → f.entered = [] → (doReturn e (T.setTop f) acts (some (.double z))).1 = T.setFrames fs) : Steps p.tables e below (T.setTop (mkF m pc Ls (.double z :: rest))) (T.setFrames fs) := by
  have hm' : T.vm.method? m = some meth := X.method'
  have hn : narrow .double (.double z) = .double z := rfl
  show Steps p.tables e below (T.setTop { method := m, pc := pc, locals := Ls, stack := _ :: rest, locked := none }) _
  jvm_step X.here [X.here.top, hx, hd, hm', hret, hn]
  first | (intro acts; rw [hl _ acts rfl rfl rfl]) | rw [hl _ _ rfl rfl rfl]
  exact Steps.refl _
theorem own_retA (X : Stand p l e R s m args below meth c T locs cells slots) (hx : p.tables.exec = Jvm.exec) {pc : Nat} {Ls : Array Slot} {z : Value} {t : FieldType} {rest : List Value} (hret : meth.sig.returnType = some t) (ht : t.isReference = true) (hz : z.isRef = true) (hd : decode c.code pc = .ok (.areturn, 1)) {fs : List Frame}
    (hl : ∀ (f : JFrame) (acts : List Action), f.method = m → f.locked = none → f.entered = [] → (doReturn e (T.setTop f) acts (some z)).1 = T.setFrames fs) : Steps p.tables e below (T.setTop (mkF m pc Ls (z :: rest))) (T.setFrames fs) := by
  have hm' : T.vm.method? m = some meth := X.method'
  show Steps p.tables e below (T.setTop { method := m, pc := pc, locals := Ls, stack := _ :: rest, locked := none }) _
  jvm_step X.here [X.here.top, hx, hd, hm', hret, ht, hz]
  first | (intro acts; rw [hl _ acts rfl rfl rfl]) | rw [hl _ _ rfl rfl rfl]
  exact Steps.refl _
theorem own_len {a : Addr} {k : ClassId} {ty : FieldType} {n : Int32} {vs : List Value} {d : Value} (X : Stand p l e R s m args below meth c T locs cells slots) (hx : p.tables.exec = Jvm.exec) (hZ : Z.Warmed39 s.vm) (eT : T.heap = h) (V : Arv Z h a k ty n vs d)
    {g : JFrame} (hg : g.method = m) {rest : List Value} (hs : g.stack = .ref a :: rest) (hd : decode c.code g.pc = .ok (.arraylength, 1)) :
    ∀ t, Steps p.tables e below (T.setTop { g with pc := g.pc + 1, stack := .int n :: rest }) t → Steps p.tables e below (T.setTop g) t := by
  obtain ⟨cl, Ar, -, S, N, -, -⟩ := V
  intro t st
  refine X.arraylength hx (by rw [eT]; exact Ar.1) (State.isArrayOf_alike hZ.alike Ar.2.1) hg hs hd t ?_
  rw [len_of S N]
  exact st
theorem own_ldD {a : Addr} {k : ClassId} {n j : Int32} {vs : List Value} {d v : Value} (X : Stand p l e R s m args below meth c T locs cells slots) (hx : p.tables.exec = Jvm.exec) (hZ : Z.Warmed39 s.vm) (eT : T.heap = h) (V : Arv Z h a k .double n vs d) (hj : ¬ j < 0 ∧ j < n) (hv : vs.getD j.toNatClampNeg d = v)
    {g : JFrame} (hg : g.method = m) {rest : List Value} (hs : g.stack = .int j :: .ref a :: rest) (hd : decode c.code g.pc = .ok (.daload, 1)) :
    ∀ t, Steps p.tables e below (T.setTop { g with pc := g.pc + 1, stack := v :: rest }) t → Steps p.tables e below (T.setTop g) t := by
  obtain ⟨cl, Ar, -, S, N, H, -⟩ := V
  intro t st
  exact X.daload hx (by rw [eT]; exact Ar.1) (State.isArrayOf_alike hZ.alike Ar.2.1) Ar.2.2 (inb_of S hj) (H.at (inb_of S hj) hv) hg hs hd t st
theorem own_ldZ {a : Addr} {k : ClassId} {n j : Int32} {vs : List Value} {d v : Value} (X : Stand p l e R s m args below meth c T locs cells slots) (hx : p.tables.exec = Jvm.exec) (hZ : Z.Warmed39 s.vm) (eT : T.heap = h) (V : Arv Z h a k .boolean n vs d) (hj : ¬ j < 0 ∧ j < n) (hv : vs.getD j.toNatClampNeg d = v)
    {g : JFrame} (hg : g.method = m) {rest : List Value} (hs : g.stack = .int j :: .ref a :: rest) (hd : decode c.code g.pc = .ok (.baload, 1)) :
    ∀ t, Steps p.tables e below (T.setTop { g with pc := g.pc + 1, stack := v :: rest }) t → Steps p.tables e below (T.setTop g) t := by
  obtain ⟨cl, Ar, -, S, N, H, -⟩ := V
  intro t st
  exact X.baloadBooleans hx (by rw [eT]; exact Ar.1) (State.isArrayOf_alike hZ.alike Ar.2.1) Ar.2.2 (inb_of S hj) (H.at (inb_of S hj) hv) hg hs hd t st
theorem own_stD {a : Addr} {k : ClassId} {n j : Int32} {vs : List Value} {d : Value} {x : UInt64} (X : Stand p l e R s m args below meth c T locs cells slots) (hx : p.tables.exec = Jvm.exec) (hZ : Z.Warmed39 s.vm) (eT : T.heap = h) (V : Arv Z h a k .double n vs d) (hj : ¬ j < 0 ∧ j < n) (i : Nat) (hji : j.toNatClampNeg = i) (hi : i < vs.length)
    {g : JFrame} (hg : g.method = m) {rest : List Value} (hs : g.stack = .double x :: .int j :: .ref a :: rest) (hd : decode c.code g.pc = .ok (.dastore, 1)) :
    ∃ T' h', Stand p l e R s m args below meth c T' (locs ++ [⟨a, j.toNatClampNeg⟩]) cells slots ∧ T'.heap = h' ∧ Wr h h' a j.toNatClampNeg (.double x) ∧ Arv Z h' a k .double n (vs.set i (.double x)) d ∧ ∀ t, Steps p.tables e below (T'.setTop { g with pc := g.pc + 1, stack := rest }) t → Steps p.tables e below (T.setTop g) t := by
  obtain ⟨cl, Ar, q, S, N, H, G⟩ := V
  obtain ⟨T', h', X', e', W, st⟩ := stD X hx hZ eT Ar (inb_of S hj) hg hs hd
  exact ⟨T', h', X', e', W, Arv.set Ar q S N H G rfl W i hji hi, st⟩
theorem own_stZ {a : Addr} {k : ClassId} {n j : Int32} {vs : List Value} {d : Value} {x : Int32} (X : Stand p l e R s m args below meth c T locs cells slots) (hx : p.tables.exec = Jvm.exec) (hZ : Z.Warmed39 s.vm) (eT : T.heap = h) (V : Arv Z h a k .boolean n vs d) (hj : ¬ j < 0 ∧ j < n) (i : Nat) (hji : j.toNatClampNeg = i) (hi : i < vs.length) (h01 : x = 0 ∨ x = 1)
    {g : JFrame} (hg : g.method = m) {rest : List Value} (hs : g.stack = .int x :: .int j :: .ref a :: rest) (hd : decode c.code g.pc = .ok (.bastore, 1)) :
    ∃ T' h', Stand p l e R s m args below meth c T' (locs ++ [⟨a, j.toNatClampNeg⟩]) cells slots ∧ T'.heap = h' ∧ Wr h h' a j.toNatClampNeg (.int x) ∧ Arv Z h' a k .boolean n (vs.set i (.int x)) d ∧ ∀ t, Steps p.tables e below (T'.setTop { g with pc := g.pc + 1, stack := rest }) t → Steps p.tables e below (T.setTop g) t := by
  obtain ⟨cl, Ar, q, S, N, H, G⟩ := V
  obtain ⟨T', h', X', e', W, st⟩ := stZ X hx hZ eT Ar (inb_of S hj) hg hs hd
  have en : nar .boolean x = x := by rcases h01 with rfl | rfl <;> rfl
  rw [en] at W
  exact ⟨T', h', X', e', W, Arv.set Ar q S N H G (by rcases h01 with rfl | rfl <;> rfl) W i hji hi, st⟩
/-- a payer's form: what the three calls ask -/
abbrev own_B (l : Launch) (R : Room) (p : Program) (e : Env) (below : List Frame) (s : State) (args : Array Value) (y : MethodName) (W : Nat) (as : Array Value) (h : Heap) (kc ks : Nat) (Q : Option Value → Heap → List Loc → Prop) : Prop :=
  Back l R p e below s args y 3 W (fun A a => a = as ∧ A.U.heap = h ∧ A.cells + kc ≤ R.cells ∧ A.slots + ks ≤ R.slots) (fun A _ v B => ∃ L, Q v B.U.heap L ∧ B.locs = A.locs ++ L ∧ B.cells = A.cells + kc ∧ B.slots = A.slots + ks)
theorem own_backS (X : Stand p l e R s m args below meth c T locs cells slots) (hx : p.tables.exec = Jvm.exec) (hZ : Z.Warmed39 s.vm) {own : String} (hown : s.vm.findClass own = some m.cls) {index : Nat} {y : MethodName} {bytes : ByteArray} {maxL : Nat} {ret : Option FieldType}
    (w1 : (Jvm.Cond.methodLink own index y).before a0 Z = true) (w2 : (Jvm.Cond.static y).before a0 Z = true) (w3 : (Jvm.Cond.initialized y.cls).before a0 Z = true) (w4 : (Jvm.Cond.code y bytes maxL ret).before a0 Z = true) (hy : y.cls ≠ "java/lang/invoke/MethodHandle" ∧ y.cls ≠ "java/lang/invoke/VarHandle")
    {W kc ks : Nat} {as : Array Value} {Q : Option Value → Heap → List Loc → Prop} (hK : own_B l R p e below s args y W as h kc ks Q) 
    {g : JFrame} (hg : g.method = m) (hsize : g.locals.size = c.maxLocals) {argsL rest : List Value} (hlen : ∀ sig, parseMethodDescriptor y.desc = some sig → argsL.length = sig.parameters.length)
    (hst : g.stack = argsL.reverse ++ rest) (has : argsL.toArray = as) (hW : 2 * g.monitorRoom + (rest.map fun v => v.category).sum ≤ W) (hd : decode c.code g.pc = .ok (.invokestatic index, 3)) (eT : T.heap = h)
    (hc : cells + kc ≤ R.cells) (hs : slots + ks ≤ R.slots) :
    ∃ v T' L, Stand p l e R s m args below meth c T' (locs ++ L) (cells + kc) (slots + ks) ∧ Q v T'.heap L ∧ ∀ t, Steps p.tables e below (T'.setTop { g with pc := g.pc + 3, stack := v.toList ++ rest }) t → Steps p.tables e below (T.setTop g) t := by
  obtain ⟨v, vm1, ⟨T1, L1, k1, n1⟩, -, X1, ⟨Lc, hQ, l1, y1, z1⟩, st⟩ := Jvm.LawKit.callS X hx (y := y) hown (mvT hZ w1) (mvT hZ w2) (mvT hZ w3) (mvT hZ w4) hy hK hg hsize (argsL := argsL) (rest := rest) hlen hst hW hd (fun _ _ => ⟨has, eT, hc, hs⟩)
  dsimp only [Pt.U, Pt.locs, Pt.cells, Pt.slots] at X1 l1 y1 z1 st hQ
  subst l1 y1 z1
  exact ⟨v, T1, Lc, X1, hQ, st⟩
theorem own_callS (X : Stand p l e R s m args below meth c T locs cells slots) (hx : p.tables.exec = Jvm.exec) (hZ : Z.Warmed39 s.vm) {own : String} (hown : s.vm.findClass own = some m.cls) {index : Nat} {y : MethodName} {bytes : ByteArray} {maxL : Nat} {ret : Option FieldType}
    (w1 : (Jvm.Cond.methodLink own index y).before a0 Z = true) (w2 : (Jvm.Cond.static y).before a0 Z = true) (w3 : (Jvm.Cond.initialized y.cls).before a0 Z = true) (w4 : (Jvm.Cond.code y bytes maxL ret).before a0 Z = true) (hy : y.cls ≠ "java/lang/invoke/MethodHandle" ∧ y.cls ≠ "java/lang/invoke/VarHandle")
    {rm : Room} {as : Array Value} {Q : Option Value → Heap → List Loc → Prop} (hM : own_C l Z y bytes maxL ret [] rm as h Q) {W : Nat}
    {g : JFrame} (hg : g.method = m) (hsize : g.locals.size = c.maxLocals) {argsL rest : List Value} (hlen : ∀ sig, parseMethodDescriptor y.desc = some sig → argsL.length = sig.parameters.length)
    (hst : g.stack = argsL.reverse ++ rest) (has : argsL.toArray = as) (hW : 2 * g.monitorRoom + (rest.map fun v => v.category).sum ≤ W) (hd : decode c.code g.pc = .ok (.invokestatic index, 3)) (eT : T.heap = h)
    (hf : rm.frames + 1 ≤ R.frames) (hl : W + (maxL + 11) + rm.locals ≤ R.locals) (hc : cells + rm.cells ≤ R.cells) (hs : slots + rm.slots ≤ R.slots) :
    ∃ v T' L, Stand p l e R s m args below meth c T' (locs ++ L) (cells + rm.cells) (slots + rm.slots) ∧ Q v T'.heap L ∧ ∀ t, Steps p.tables e below (T'.setTop { g with pc := g.pc + 3, stack := v.toList ++ rest }) t → Steps p.tables e below (T.setTop g) t :=
  own_backS X hx hZ hown w1 w2 w3 w4 hy (backOf (W := W) hM hZ w4 w3 hf hl) hg hsize hlen hst has hW hd eT hc hs
theorem own_backI (X : Stand p l e R s m args below meth c T locs cells slots) (hx : p.tables.exec = Jvm.exec) (hZ : Z.Warmed39 s.vm) {own : String} (hown : s.vm.findClass own = some m.cls) {index : Nat} {y : MethodName} {bytes : ByteArray} {maxL : Nat} 
    (hy1 : y.name = "<init>") (w1 : (Jvm.Cond.methodLink own index y).before a0 Z = true) (w2 : (Jvm.Cond.instanceMethod y).before a0 Z = true) (w4 : (Jvm.Cond.code y bytes maxL none).before a0 Z = true) (w3 : (Jvm.Cond.initialized y.cls).before a0 Z = true) (hy : y.cls ≠ "java/lang/invoke/MethodHandle" ∧ y.cls ≠ "java/lang/invoke/VarHandle")
    {W kc ks : Nat} {as : Array Value} {Q : Option Value → Heap → List Loc → Prop} (hK : own_B l R p e below s args y W as h kc ks Q) 
    {g : JFrame} (hg : g.method = m) (hsize : g.locals.size = c.maxLocals) {a : Addr} {argsL rest : List Value} (hlen : ∀ sig, parseMethodDescriptor y.desc = some sig → argsL.length = sig.parameters.length)
    (hst : g.stack = argsL.reverse ++ .ref a :: rest) (has : (.ref a :: argsL).toArray = as) (hW : 2 * g.monitorRoom + (rest.map fun v => v.category).sum ≤ W) (hd : decode c.code g.pc = .ok (.invokespecial index, 3)) (eT : T.heap = h)
    (hc : cells + kc ≤ R.cells) (hs : slots + ks ≤ R.slots) :
    ∃ v T' L, Stand p l e R s m args below meth c T' (locs ++ L) (cells + kc) (slots + ks) ∧ Q v T'.heap L ∧ ∀ t, Steps p.tables e below (T'.setTop { g with pc := g.pc + 3, stack := v.toList ++ rest }) t → Steps p.tables e below (T.setTop g) t := by
  obtain ⟨v, vm1, ⟨T1, L1, k1, n1⟩, -, X1, ⟨Lc, hQ, l1, y1, z1⟩, st⟩ := X.specialBack hx (y := y) hy1 hown (mvT hZ w1) (mvT hZ w2) (mvT hZ w4) hy hK hg hsize (Steps.refl _) (a := a) (argsL := argsL) (rest := rest) hlen hst hW hd (fun _ _ => ⟨has, eT, hc, hs⟩)
  dsimp only [Pt.U, Pt.locs, Pt.cells, Pt.slots] at X1 l1 y1 z1 st hQ
  subst l1 y1 z1
  exact ⟨v, T1, Lc, X1, hQ, fun _ k => st.trans k⟩
theorem own_callI (X : Stand p l e R s m args below meth c T locs cells slots) (hx : p.tables.exec = Jvm.exec) (hZ : Z.Warmed39 s.vm) {own : String} (hown : s.vm.findClass own = some m.cls) {index : Nat} {y : MethodName} {bytes : ByteArray} {maxL : Nat} 
    (hy1 : y.name = "<init>") (w1 : (Jvm.Cond.methodLink own index y).before a0 Z = true) (w2 : (Jvm.Cond.instanceMethod y).before a0 Z = true) (w4 : (Jvm.Cond.code y bytes maxL none).before a0 Z = true) (w3 : (Jvm.Cond.initialized y.cls).before a0 Z = true) (hy : y.cls ≠ "java/lang/invoke/MethodHandle" ∧ y.cls ≠ "java/lang/invoke/VarHandle")
    {rm : Room} {as : Array Value} {Q : Option Value → Heap → List Loc → Prop} (hM : own_C l Z y bytes maxL none [] rm as h Q) {W : Nat}
    {g : JFrame} (hg : g.method = m) (hsize : g.locals.size = c.maxLocals) {a : Addr} {argsL rest : List Value} (hlen : ∀ sig, parseMethodDescriptor y.desc = some sig → argsL.length = sig.parameters.length)
    (hst : g.stack = argsL.reverse ++ .ref a :: rest) (has : (.ref a :: argsL).toArray = as) (hW : 2 * g.monitorRoom + (rest.map fun v => v.category).sum ≤ W) (hd : decode c.code g.pc = .ok (.invokespecial index, 3)) (eT : T.heap = h)
    (hf : rm.frames + 1 ≤ R.frames) (hl : W + (maxL + 11) + rm.locals ≤ R.locals) (hc : cells + rm.cells ≤ R.cells) (hs : slots + rm.slots ≤ R.slots) :
    ∃ v T' L, Stand p l e R s m args below meth c T' (locs ++ L) (cells + rm.cells) (slots + rm.slots) ∧ Q v T'.heap L ∧ ∀ t, Steps p.tables e below (T'.setTop { g with pc := g.pc + 3, stack := v.toList ++ rest }) t → Steps p.tables e below (T.setTop g) t :=
  own_backI X hx hZ hown hy1 w1 w2 w4 w3 hy (backOf (W := W) hM hZ w4 w3 hf hl) hg hsize hlen hst has hW hd eT hc hs
theorem own_backV (X : Stand p l e R s m args below meth c T locs cells slots) (hx : p.tables.exec = Jvm.exec) (hZ : Z.Warmed39 s.vm) {own C : String} (hown : s.vm.findClass own = some m.cls) {index : Nat} {y : MethodName} {bytes : ByteArray} {maxL : Nat} {ret : Option FieldType}
    (w1 : (Jvm.Cond.methodLink own index y).before a0 Z = true) (w2 : (Jvm.Cond.declares y).before a0 Z = true) (w5 : (Jvm.Cond.selects C y y).before a0 Z = true) (w6 : (Jvm.Cond.instanceMethod y).before a0 Z = true) (w4 : (Jvm.Cond.code y bytes maxL ret).before a0 Z = true) (w3 : (Jvm.Cond.initialized y.cls).before a0 Z = true) (hy : y.cls ≠ "java/lang/invoke/MethodHandle" ∧ y.cls ≠ "java/lang/invoke/VarHandle")
    {W kc ks : Nat} {as : Array Value} {Q : Option Value → Heap → List Loc → Prop} (hK : own_B l R p e below s args y W as h kc ks Q) {b : Addr} (hE : Exa Z h b C) 
    {g : JFrame} (hg : g.method = m) (hsize : g.locals.size = c.maxLocals) {argsL rest : List Value} (hlen : ∀ sig, parseMethodDescriptor y.desc = some sig → argsL.length = sig.parameters.length)
    (hst : g.stack = argsL.reverse ++ .ref b :: rest) (has : (.ref b :: argsL).toArray = as) (hW : 2 * g.monitorRoom + (rest.map fun v => v.category).sum ≤ W) (hd : decode c.code g.pc = .ok (.invokevirtual index, 3)) (eT : T.heap = h)
    (hc : cells + kc ≤ R.cells) (hs : slots + ks ≤ R.slots) :
    ∃ v T' L, Stand p l e R s m args below meth c T' (locs ++ L) (cells + kc) (slots + ks) ∧ Q v T'.heap L ∧ ∀ t, Steps p.tables e below (T'.setTop { g with pc := g.pc + 3, stack := v.toList ++ rest }) t → Steps p.tables e below (T.setTop g) t := by
  obtain ⟨cq, kq, qa, qb, qc⟩ := isOf hZ eT hE
  obtain ⟨v, vm1, ⟨T1, L1, k1, n1⟩, -, X1, ⟨Lc, hQ, l1, y1, z1⟩, st⟩ := X.virtualBack hx (y := y) (z := y) hown (mvT hZ w1) (mvT hZ w2) (notFace_of_selects (args := #[]) (mvT hZ w5)) (mvT hZ w5) (mvT hZ w6) hy hK qa qc hg hsize (Steps.refl _) (argsL := argsL) (rest := rest) hlen hst hW hd (fun _ _ => ⟨has, eT, hc, hs⟩)
  dsimp only [Pt.U, Pt.locs, Pt.cells, Pt.slots] at X1 l1 y1 z1 st hQ
  subst l1 y1 z1
  exact ⟨v, T1, Lc, X1, hQ, fun _ k => st.trans k⟩
theorem own_callV (X : Stand p l e R s m args below meth c T locs cells slots) (hx : p.tables.exec = Jvm.exec) (hZ : Z.Warmed39 s.vm) {own C : String} (hown : s.vm.findClass own = some m.cls) {index : Nat} {y : MethodName} {bytes : ByteArray} {maxL : Nat} {ret : Option FieldType}
    (w1 : (Jvm.Cond.methodLink own index y).before a0 Z = true) (w2 : (Jvm.Cond.declares y).before a0 Z = true) (w5 : (Jvm.Cond.selects C y y).before a0 Z = true) (w6 : (Jvm.Cond.instanceMethod y).before a0 Z = true) (w4 : (Jvm.Cond.code y bytes maxL ret).before a0 Z = true) (w3 : (Jvm.Cond.initialized y.cls).before a0 Z = true) (hy : y.cls ≠ "java/lang/invoke/MethodHandle" ∧ y.cls ≠ "java/lang/invoke/VarHandle")
    {rm : Room} {as : Array Value} {Q : Option Value → Heap → List Loc → Prop} (hM : own_C l Z y bytes maxL ret [] rm as h Q) {b : Addr} (hE : Exa Z h b C) {W : Nat}
    {g : JFrame} (hg : g.method = m) (hsize : g.locals.size = c.maxLocals) {argsL rest : List Value} (hlen : ∀ sig, parseMethodDescriptor y.desc = some sig → argsL.length = sig.parameters.length)
    (hst : g.stack = argsL.reverse ++ .ref b :: rest) (has : (.ref b :: argsL).toArray = as) (hW : 2 * g.monitorRoom + (rest.map fun v => v.category).sum ≤ W) (hd : decode c.code g.pc = .ok (.invokevirtual index, 3)) (eT : T.heap = h)
    (hf : rm.frames + 1 ≤ R.frames) (hl : W + (maxL + 11) + rm.locals ≤ R.locals) (hc : cells + rm.cells ≤ R.cells) (hs : slots + rm.slots ≤ R.slots) :
    ∃ v T' L, Stand p l e R s m args below meth c T' (locs ++ L) (cells + rm.cells) (slots + rm.slots) ∧ Q v T'.heap L ∧ ∀ t, Steps p.tables e below (T'.setTop { g with pc := g.pc + 3, stack := v.toList ++ rest }) t → Steps p.tables e below (T.setTop g) t :=
  own_backV X hx hZ hown w1 w2 w5 w6 w4 w3 hy (backOf (W := W) hM hZ w4 w3 hf hl) hE hg hsize hlen hst has hW hd eT hc hs
end OwnKit

section OwnFP
open Jvm.FP.Core
/-- a double's value in units of 2^-1074 -/
def own_z (x : UInt64) : Int := zval b64 (val64 x)
theorem own_zfin {x V : UInt64} (hx : val64 x ≠ .nan) (hV : DFin V) (h : own_z x = own_z V) : DFin x := by
  have h1 := hV.zval_lt
  unfold own_z zval at h
  have hm : zmag b64 (val64 x) = zmag b64 (val64 V) := by
    have := congrArg Int.natAbs h
    rwa [natAbs_signed, natAbs_signed] at this
  unfold DFin
  cases hv : val64 x with
  | nan => exact absurd hv hx
  | inf s =>
    rw [hv] at hm
    have : zmag b64 (.inf s) = b64.tails * 2 ^ (b64.exps - 2) := rfl
    rw [this] at hm
    omega
  | fin s c q => exact ⟨s, c, q, rfl⟩
theorem own_zadd {x y V : UInt64} (hx : DFin x) (hy : DFin y) (hV : DFin V) (h : own_z x + own_z y = own_z V) : DFin (dadd x y) ∧ own_z (dadd x y) = own_z V := by
  have e : own_z (dadd x y) = own_z V := by
    unfold own_z at *
    rw [val64_dadd]
    have a := sum_le good_b64 hx hy (val64_fits x) (val64_fits y) (val64_fits V) hV.ne_nan (Int.le_of_eq h)
    have b := sum_ge good_b64 hx hy (val64_fits x) (val64_fits y) (val64_fits V) hV.ne_nan (Int.le_of_eq h.symm)
    omega
  exact ⟨own_zfin ((notNaN_iff _).mp (dadd_out hx.notNaN hy)) hV e, e⟩
theorem own_zsub {x y V : UInt64} (hx : DFin x) (hy : DFin y) (hV : DFin V) (h : own_z x - own_z y = own_z V) : DFin (dsub x y) ∧ own_z (dsub x y) = own_z V := by
  have e : own_z (dsub x y) = own_z V := by
    unfold own_z at *
    rw [val64_dsub]
    obtain ⟨s, c, q, hq⟩ := hy
    have hn : ∃ s c q, negate (val64 y) = .fin s c q := ⟨!s, c, q, by rw [hq]; rfl⟩
    have a := sum_le good_b64 hx hn (val64_fits x) (negate_fits (val64_fits y)) (val64_fits V) hV.ne_nan (by rw [zval_negate]; omega)
    have b := sum_ge good_b64 hx hn (val64_fits x) (negate_fits (val64_fits y)) (val64_fits V) hV.ne_nan (by rw [zval_negate]; omega)
    omega
  exact ⟨own_zfin ((notNaN_iff _).mp (dsub_out hx.notNaN hy)) hV e, e⟩
theorem own_zmul {x y V : UInt64} (hx : DFin x) (hy : DFin y) (hV : DFin V) (h : own_z x * own_z y = own_z V * (one64 : Int)) : DFin (dmul x y) ∧ own_z (dmul x y) = own_z V := by
  have e : own_z (dmul x y) = own_z V := by
    unfold own_z at *
    rw [val64_dmul]
    have fx := val64_fits x
    have fy := val64_fits y
    obtain ⟨s, c, q, h1⟩ := hx
    obtain ⟨t, d, r, h2⟩ := hy
    rw [h1] at h fx ⊢
    rw [h2] at h fy ⊢
    obtain ⟨p1, p2, p3⟩ := product_units fx fy
    have hq : b64.qmin < 0 := qmin_neg good_b64
    have hs : signed (s != t) (inUnits (c * d) (q + r) (2 * b64.qmin)) = zval b64 (val64 V) * ((2 ^ (b64.qmin - 2 * b64.qmin).toNat : Nat) : Int) := by
      rw [p3, signed_xor, show (b64.qmin - 2 * b64.qmin).toNat = (-b64.qmin).toNat by omega, pow_qmin64]
      exact h
    rw [p1]
    have a := zval_round_le good_b64 (s := (s != t)) (c := c * d) (q := q + r) (e0 := 2 * b64.qmin) (val64_fits V) hV.ne_nan (by omega) p2 (Int.le_of_eq hs)
    have b := zval_round_ge good_b64 (s := (s != t)) (c := c * d) (q := q + r) (e0 := 2 * b64.qmin) (val64_fits V) hV.ne_nan (by omega) p2 (Int.le_of_eq hs.symm)
    omega
  exact ⟨own_zfin ((notNaN_iff _).mp (dmul_out hx hy)) hV e, e⟩
theorem own_zcmp {x y : UInt64} (hx : DFin x) (hy : DFin y) : dcmp x y = some (compare (own_z x) (own_z y)) := dcmp_zval hx.ne_nan hy.ne_nan
/-- n / 2^k is a double, for |n| up to 2^53 and k up to 1000 -/
theorem own_frac (n : Int) (k : Nat) (hk : k ≤ 1000) (hn : n.natAbs ≤ 2 ^ 53) : ∃ V : UInt64, DFin V ∧ ((2 ^ k : Nat) : Int) * own_z V = n * (one64 : Int) := by
  by_cases h0 : n = 0
  · refine ⟨0, ⟨_, _, _, val64_zero⟩, ?_⟩
    unfold own_z
    rw [zval64_zero, h0, Int.mul_zero, Int.zero_mul]
  obtain ⟨c, q, hfit, hv⟩ := natFit good_b64 wide_b64 (decide (n < 0)) (n := n.natAbs) hn
  have hp : b64.p = 53 := rfl
  have hqm : b64.qmin = -1074 := qmin_b64
  have hqM : b64.qmax = 971 := by decide
  have hT : b64.tails = 2 ^ 52 := tails_b64
  obtain ⟨c1, c2, c3, c4⟩ := hfit
  rw [hp] at c1
  have hq : -52 ≤ q := by
    refine Int.le_of_not_gt fun hlt => ?_
    rw [show (q - 0).toNat = 0 by omega, Nat.pow_zero, Nat.mul_one, Nat.mul_one] at hv
    have h1 : 2 ^ 53 ≤ 2 ^ (0 - q).toNat := Nat.pow_le_pow_right (by decide) (by omega)
    have h2 : 1 * 2 ^ (0 - q).toNat ≤ n.natAbs * 2 ^ (0 - q).toNat := Nat.mul_le_mul_right _ (by omega)
    omega
  have fit : FP.Core.fits b64 (.fin (decide (n < 0)) c (q - k)) := ⟨by rw [hp]; exact c1, by omega, by omega, Or.inr (by rcases c4 with c4 | c4 <;> omega)⟩
  refine ⟨of64 (.fin (decide (n < 0)) c (q - k)), ⟨_, _, _, val64_of64 fit⟩, ?_⟩
  unfold own_z
  rw [val64_of64 fit]
  show ((2 ^ k : Nat) : Int) * signed (decide (n < 0)) (inUnits c (q - k) b64.qmin) = _
  have e : 2 ^ k * inUnits c (q - k) b64.qmin = n.natAbs * one64 := by
    unfold inUnits
    rw [hqm, ← pow_qmin64, hqm]
    rw [show (- (-1074 : Int)).toNat = 1074 by decide]
    have h3 : n.natAbs * 2 ^ 1074 * 2 ^ (0 - q).toNat = 2 ^ k * (c * 2 ^ (q - k - -1074).toNat) * 2 ^ (0 - q).toNat := by
      generalize hE : (1074 : Nat) = E1
      have hE' : (E1 : Int) = 1074 := by omega
      calc n.natAbs * 2 ^ E1 * 2 ^ (0 - q).toNat = (n.natAbs * 2 ^ (0 - q).toNat) * 2 ^ E1 := by ac_rfl
        _ = (c * 1 * 2 ^ (q - 0).toNat) * 2 ^ E1 := by rw [hv]
        _ = c * (2 ^ ((q - 0).toNat + E1)) := by rw [Nat.mul_one, Nat.mul_assoc, ← Nat.pow_add]
        _ = c * (2 ^ (k + (q - k - -1074).toNat + (0 - q).toNat)) := by rw [show (q - 0).toNat + E1 = k + (q - k - -1074).toNat + (0 - q).toNat by omega]
        _ = 2 ^ k * (c * 2 ^ (q - k - -1074).toNat) * 2 ^ (0 - q).toNat := by rw [Nat.pow_add, Nat.pow_add]; ac_rfl
    exact (Nat.eq_of_mul_eq_mul_right (Nat.two_pow_pos _) h3).symm
  have e' : ((2 ^ k : Nat) : Int) * ((inUnits c (q - k) b64.qmin : Nat) : Int) = (n.natAbs : Int) * (one64 : Int) := by
    rw [← Int.natCast_mul, e, Int.natCast_mul]
  unfold signed
  by_cases hneg : n < 0
  · simp only [hneg, decide_true, if_true]
    have : (n.natAbs : Int) = -n := by omega
    rw [this, Int.neg_mul] at e'
    rw [Int.mul_neg]
    omega
  · simp only [hneg, decide_false, Bool.false_eq_true, if_false]
    have : (n.natAbs : Int) = n := by omega
    rw [this] at e'
    exact e'
theorem own_half (n : Int) (hn : n.natAbs ≤ 2 ^ 53) : ∃ V : UInt64, DFin V ∧ 2 * own_z V = n * (one64 : Int) := own_frac n 1 (by decide) hn
theorem own_conv {c d mV i b a j u : Nat} (h : i + b = a + j + u) : (c * 2 ^ i ≤ mV * 2 ^ j * d) ↔ (c * 2 ^ a * 2 ^ u ≤ mV * (d * 2 ^ b)) := by
  have h1 : c * 2 ^ i * 2 ^ b = c * 2 ^ a * 2 ^ u * 2 ^ j := by
    rw [Nat.mul_assoc, ← Nat.pow_add, h, Nat.pow_add, Nat.pow_add]; ac_rfl
  have h2 : mV * 2 ^ j * d * 2 ^ b = mV * (d * 2 ^ b) * 2 ^ j := by ac_rfl
  constructor
  · intro q
    have := Nat.mul_le_mul_right (2 ^ b) q
    rw [h1, h2] at this
    exact Nat.le_of_mul_le_mul_right this (Nat.two_pow_pos _)
  · intro q
    have := Nat.mul_le_mul_right (2 ^ j) q
    rw [← h1, ← h2] at this
    exact Nat.le_of_mul_le_mul_right this (Nat.two_pow_pos _)
theorem own_conv' {c d mV i b a j u : Nat} (h : i + b = a + j + u) : (mV * 2 ^ j * d ≤ c * 2 ^ i) ↔ (mV * (d * 2 ^ b) ≤ c * 2 ^ a * 2 ^ u) := by
  have h1 : c * 2 ^ i * 2 ^ b = c * 2 ^ a * 2 ^ u * 2 ^ j := by
    rw [Nat.mul_assoc, ← Nat.pow_add, h, Nat.pow_add, Nat.pow_add]; ac_rfl
  have h2 : mV * 2 ^ j * d * 2 ^ b = mV * (d * 2 ^ b) * 2 ^ j := by ac_rfl
  constructor
  · intro q
    have := Nat.mul_le_mul_right (2 ^ b) q
    rw [h1, h2] at this
    exact Nat.le_of_mul_le_mul_right this (Nat.two_pow_pos _)
  · intro q
    have := Nat.mul_le_mul_right (2 ^ j) q
    rw [← h1, ← h2] at this
    exact Nat.le_of_mul_le_mul_right this (Nat.two_pow_pos _)
/-- the quotient by a positive double: its shape, and its magnitude against any double's -/
theorem own_quot {x y : UInt64} (hx : DFin x) (hy : DFin y) (hp : 0 < own_z y) :
    sgn (val64 (ddiv x y)) = sgn (val64 x) ∧ val64 (ddiv x y) ≠ .nan ∧
    (∀ V : UInt64, val64 V ≠ .nan → zmag b64 (val64 x) * one64 ≤ zmag b64 (val64 V) * zmag b64 (val64 y) → zmag b64 (val64 (ddiv x y)) ≤ zmag b64 (val64 V)) ∧
    (∀ V : UInt64, zmag b64 (val64 V) * zmag b64 (val64 y) ≤ zmag b64 (val64 x) * one64 → zmag b64 (val64 V) ≤ zmag b64 (val64 (ddiv x y))) := by
  rw [val64_ddiv]
  have fx := val64_fits x
  have fy := val64_fits y
  unfold own_z zval at hp
  obtain ⟨s, c, q, h1⟩ := hx
  obtain ⟨t, d, r, h2⟩ := hy
  rw [h1] at fx ⊢
  rw [h2] at fy hp ⊢
  have hq0 : b64.qmin < 0 := qmin_neg good_b64
  have hz : zmag b64 (.fin t d r) = d * 2 ^ (r - b64.qmin).toNat := rfl
  have ht : t = false := by
    cases t with
    | false => rfl
    | true => simp only [signed, FP.Core.sgn, if_true] at hp; omega
  subst ht
  have hd : d ≠ 0 := by
    intro h0; subst h0
    rw [hz, Nat.zero_mul] at hp
    simp [signed, FP.Core.sgn] at hp
  have hd0 : 0 < d := Nat.pos_of_ne_zero hd
  have e : quotient b64 (.fin s c q) (.fin false d r) = roundRatio b64 (s != false) c d (q - r) := by
    show (if d = 0 then _ else _) = _
    rw [if_neg hd]
  rw [e, sgn_roundRatio]
  refine ⟨by cases s <;> rfl, roundRatio_ne_nan _ _ _ _ _, ?_, ?_⟩
  · intro V hV hle
    refine zmag_roundRatio_le good_b64 (e0 := min b64.qmin (q - r)) hd0 (val64_fits V) hV (by omega) (by omega) ?_
    refine (own_conv (a := (q - b64.qmin).toNat) (b := (r - b64.qmin).toNat) (u := (-b64.qmin).toNat) ?_).mpr ?_
    · have := fx.2.1; have := fy.2.1; omega
    · rw [pow_qmin64]; exact hle
  · intro V hle
    refine zmag_roundRatio_ge good_b64 (e0 := min b64.qmin (q - r)) hd0 (val64_fits V) (by omega) (by omega) ?_
    refine (own_conv' (a := (q - b64.qmin).toNat) (b := (r - b64.qmin).toNat) (u := (-b64.qmin).toNat) ?_).mpr ?_
    · have := fx.2.1; have := fy.2.1; omega
    · rw [pow_qmin64]; exact hle
theorem own_zpos {y : UInt64} (hp : 0 < own_z y) : own_z y = (zmag b64 (val64 y) : Int) := by
  unfold own_z zval signed at *
  by_cases h : sgn (val64 y) = true
  · rw [if_pos h] at hp; omega
  · rw [if_neg h]
theorem own_zdiv_le {x y V : UInt64} (hx : DFin x) (hy : DFin y) (hp : 0 < own_z y) (hV : val64 V ≠ .nan) (h : own_z x * (one64 : Int) ≤ own_z V * own_z y) : own_z (ddiv x y) ≤ own_z V := by
  obtain ⟨q1, q2, q3, q4⟩ := own_quot hx hy hp
  have q3 := q3 V hV
  have q4 := q4 V
  rw [own_zpos hp] at h
  have hB : 0 < zmag b64 (val64 y) := by have := own_zpos hp; omega
  unfold own_z zval at h ⊢
  rw [q1]
  generalize zmag b64 (val64 x) = A at *
  generalize zmag b64 (val64 y) = B at *
  generalize zmag b64 (val64 V) = M at *
  generalize zmag b64 (val64 (ddiv x y)) = D at *
  have c1 : ((A * one64 : Nat) : Int) = (A : Int) * (one64 : Int) := Int.natCast_mul _ _
  have c2 : ((M * B : Nat) : Int) = (M : Int) * (B : Int) := Int.natCast_mul _ _
  generalize sgn (val64 x) = sx at h ⊢
  generalize sgn (val64 V) = sV at h ⊢
  cases sx <;> cases sV <;> simp only [signed, if_true, Bool.false_eq_true, if_false, Int.neg_mul] at h ⊢
  · have := q3 (by omega); omega
  · have h3 : A * one64 = 0 ∧ M * B = 0 := by omega
    have h4 : M = 0 := by rcases Nat.mul_eq_zero.mp h3.2 with h | h <;> omega
    have := q3 (by omega); omega
  · omega
  · have := q4 (by omega); omega
theorem own_zdiv_ge {x y V : UInt64} (hx : DFin x) (hy : DFin y) (hp : 0 < own_z y) (hV : val64 V ≠ .nan) (h : own_z V * own_z y ≤ own_z x * (one64 : Int)) : own_z V ≤ own_z (ddiv x y) := by
  obtain ⟨q1, q2, q3, q4⟩ := own_quot hx hy hp
  have q3 := q3 V hV
  have q4 := q4 V
  rw [own_zpos hp] at h
  have hB : 0 < zmag b64 (val64 y) := by have := own_zpos hp; omega
  unfold own_z zval at h ⊢
  rw [q1]
  generalize zmag b64 (val64 x) = A at *
  generalize zmag b64 (val64 y) = B at *
  generalize zmag b64 (val64 V) = M at *
  generalize zmag b64 (val64 (ddiv x y)) = D at *
  have c1 : ((A * one64 : Nat) : Int) = (A : Int) * (one64 : Int) := Int.natCast_mul _ _
  have c2 : ((M * B : Nat) : Int) = (M : Int) * (B : Int) := Int.natCast_mul _ _
  generalize sgn (val64 x) = sx at h ⊢
  generalize sgn (val64 V) = sV at h ⊢
  cases sx <;> cases sV <;> simp only [signed, if_true, Bool.false_eq_true, if_false, Int.neg_mul] at h ⊢
  · have := q4 (by omega); omega
  · omega
  · have h3 : A * one64 = 0 ∧ M * B = 0 := by omega
    have h4 : M = 0 := by rcases Nat.mul_eq_zero.mp h3.2 with h | h <;> omega
    have := q3 (by omega); omega
  · have := q3 (by omega); omega
theorem own_zdiv {x y V : UInt64} (hx : DFin x) (hy : DFin y) (hp : 0 < own_z y) (hV : DFin V) (h : own_z x * (one64 : Int) = own_z V * own_z y) : DFin (ddiv x y) ∧ own_z (ddiv x y) = own_z V := by
  have a := own_zdiv_le hx hy hp hV.ne_nan (Int.le_of_eq h)
  have b := own_zdiv_ge hx hy hp hV.ne_nan (Int.le_of_eq h.symm)
  have e : own_z (ddiv x y) = own_z V := by omega
  exact ⟨own_zfin (own_quot hx hy hp).2.1 hV e, e⟩
/-- x is the number n / 2 -/
def own_DH (n : Int) (x : UInt64) : Prop := DFin x ∧ 2 * own_z x = n * (one64 : Int)
theorem own_DH.fin {n : Int} {x : UInt64} (h : own_DH n x) : DFin x := h.1
theorem own_DH.nn {n : Int} {x : UInt64} (h : own_DH n x) : Jvm.Free.Fl.NoNaN64 x := Jvm.Free.Fl.noNaN64_no.mpr h.1.notNaN
theorem own_DH.of_z {n : Int} {x V : UInt64} (hx : DFin x) (hV : 2 * own_z V = n * (one64 : Int)) (h : own_z x = own_z V) : own_DH n x := ⟨hx, by rw [h]; exact hV⟩
theorem own_dh_int {i : Int} {x : UInt64} (h : DInt i x) : own_DH (2 * i) x := by
  refine ⟨?_, by unfold own_z; rw [DInt_zval h, Int.mul_assoc]⟩
  unfold DInt at h
  unfold DFin
  cases hv : val64 x with
  | nan => rw [hv] at h; exact h.elim
  | inf s => rw [hv] at h; exact h.elim
  | fin s c q => exact ⟨s, c, q, rfl⟩
theorem own_dh_i2d (a : Int32) : own_DH (2 * a.toInt) (FP.i2d a) := own_dh_int (i2d_int a)
theorem own_dh_l2d (a : Int64) (h : a.toInt.natAbs ≤ 2 ^ 53) : own_DH (2 * a.toInt) (FP.l2d a) := own_dh_int (l2d_int h)
theorem own_dh_add {m n : Int} {x y : UInt64} (hx : own_DH m x) (hy : own_DH n y) (h : (m + n).natAbs ≤ 2 ^ 53) : own_DH (m + n) (FP.dadd x y) := by
  obtain ⟨V, hV, eV⟩ := own_half _ h
  have e : own_z x + own_z y = own_z V := by
    have h1 := hx.2; have h2 := hy.2
    rw [Int.add_mul] at eV
    omega
  obtain ⟨q1, q2⟩ := own_zadd hx.1 hy.1 hV e
  exact own_DH.of_z q1 eV q2
theorem own_dh_sub {m n : Int} {x y : UInt64} (hx : own_DH m x) (hy : own_DH n y) (h : (m - n).natAbs ≤ 2 ^ 53) : own_DH (m - n) (FP.dsub x y) := by
  obtain ⟨V, hV, eV⟩ := own_half _ h
  have e : own_z x - own_z y = own_z V := by
    have h1 := hx.2; have h2 := hy.2
    rw [Int.sub_mul] at eV
    omega
  obtain ⟨q1, q2⟩ := own_zsub hx.1 hy.1 hV e
  exact own_DH.of_z q1 eV q2
/-- a product of which the double of the value is a whole number k: 2 * (m/2) * (n/2) = k -/
theorem own_dh_mul {m n k : Int} {x y : UInt64} (hx : own_DH m x) (hy : own_DH n y) (hk : m * n = 2 * k) (h : k.natAbs ≤ 2 ^ 53) : own_DH k (FP.dmul x y) := by
  obtain ⟨V, hV, eV⟩ := own_half _ h
  have e : own_z x * own_z y = own_z V * (one64 : Int) := by
    have h1 := hx.2; have h2 := hy.2
    generalize (one64 : Int) = U at *
    have h3 : (2 * own_z x) * (2 * own_z y) = (m * U) * (n * U) := by rw [h1, h2]
    have h4 : (m * U) * (n * U) = (m * n) * (U * U) := by ac_rfl
    have h5 : (2 * own_z x) * (2 * own_z y) = 4 * (own_z x * own_z y) := by
      rw [show (4 : Int) = 2 * 2 by rfl]; ac_rfl
    have h6 : (m * n) * (U * U) = 4 * (own_z V * U) := by
      rw [hk, show (2 * k) * (U * U) = 2 * ((k * U) * U) by ac_rfl, ← eV]
      rw [show (4 : Int) = 2 * 2 by rfl]; ac_rfl
    have h7 : 4 * (own_z x * own_z y) = 4 * (own_z V * U) := by rw [← h5, h3, h4, h6]
    omega
  obtain ⟨q1, q2⟩ := own_zmul hx.1 hy.1 hV e
  exact own_DH.of_z q1 eV q2
theorem own_dh_cmp {m n : Int} {x y : UInt64} (hx : own_DH m x) (hy : own_DH n y) : FP.dcmp x y = some (compare m n) := by
  rw [show FP.dcmp x y = _ from own_zcmp hx.1 hy.1]
  have h1 := hx.2; have h2 := hy.2
  have hU : (0 : Int) < (one64 : Int) := by have := one64_pos; omega
  congr 1
  refine compare_congr ⟨fun q => ?_, fun q => ?_⟩ ⟨fun q => ?_, fun q => ?_⟩
  · have : m * (one64 : Int) < n * (one64 : Int) := by omega
    exact Int.lt_of_mul_lt_mul_right this (Int.le_of_lt hU)
  · have := Int.mul_lt_mul_of_pos_right q hU
    omega
  · have : m * (one64 : Int) = n * (one64 : Int) := by omega
    exact Int.eq_of_mul_eq_mul_right (Int.ne_of_gt hU) this
  · subst q; omega
theorem own_dh_div {m n k : Int} {x y : UInt64} (hx : own_DH m x) (hy : own_DH n y) (hn : 0 < n) (hk : 2 * m = k * n) (h : k.natAbs ≤ 2 ^ 53) : own_DH k (FP.ddiv x y) := by
  obtain ⟨V, hV, eV⟩ := own_half _ h
  have h1 := hx.2; have h2 := hy.2
  have hU : (0 : Int) < (one64 : Int) := by have := one64_pos; omega
  have hp : 0 < own_z y := by have := Int.mul_pos hn hU; omega
  have e : own_z x * (one64 : Int) = own_z V * own_z y := by
    generalize (one64 : Int) = U at *
    have h3 : (2 * own_z V) * (2 * own_z y) = (k * U) * (n * U) := by rw [eV, h2]
    have h4 : (k * U) * (n * U) = (k * n) * (U * U) := by ac_rfl
    have h5 : (2 * own_z V) * (2 * own_z y) = 4 * (own_z V * own_z y) := by rw [show (4 : Int) = 2 * 2 by rfl]; ac_rfl
    have h6 : (k * n) * (U * U) = 4 * (own_z x * U) := by
      rw [← hk, show (2 * m) * (U * U) = 2 * ((m * U) * U) by ac_rfl, ← h1, show (4 : Int) = 2 * 2 by rfl]; ac_rfl
    have h7 : 4 * (own_z x * U) = 4 * (own_z V * own_z y) := by rw [← h6, ← h4, ← h3, h5]
    omega
  obtain ⟨q1, q2⟩ := own_zdiv hx.1 hy.1 hp hV e
  exact own_DH.of_z q1 eV q2
end OwnFP

theorem d1_0 : decode jdk_29_method_69_code 0 = .ok (.iload_n 0, 1) := by decide +kernel
theorem d1_1 : decode jdk_29_method_69_code 1 = .ok (.iload_n 1, 1) := by decide +kernel
theorem d1_2 : decode jdk_29_method_69_code 2 = .ok (.if_icmp .gt 7, 3) := by decide +kernel
theorem d1_5 : decode jdk_29_method_69_code 5 = .ok (.iload_n 0, 1) := by decide +kernel
theorem d1_6 : decode jdk_29_method_69_code 6 = .ok (.goto 4, 3) := by decide +kernel
theorem d1_9 : decode jdk_29_method_69_code 9 = .ok (.iload_n 1, 1) := by decide +kernel
theorem d1_10 : decode jdk_29_method_69_code 10 = .ok (.ireturn, 1) := by decide +kernel

theorem d2_0 : decode jdk_29_method_65_code 0 = .ok (.iload_n 0, 1) := by decide +kernel
theorem d2_1 : decode jdk_29_method_65_code 1 = .ok (.iload_n 1, 1) := by decide +kernel
theorem d2_2 : decode jdk_29_method_65_code 2 = .ok (.if_icmp .lt 7, 3) := by decide +kernel
theorem d2_5 : decode jdk_29_method_65_code 5 = .ok (.iload_n 0, 1) := by decide +kernel
theorem d2_6 : decode jdk_29_method_65_code 6 = .ok (.goto 4, 3) := by decide +kernel
theorem d2_9 : decode jdk_29_method_65_code 9 = .ok (.iload_n 1, 1) := by decide +kernel
theorem d2_10 : decode jdk_29_method_65_code 10 = .ok (.ireturn, 1) := by decide +kernel

theorem d3_0 : decode prog_20_method_1_code 0 = .ok (.aload_n 0, 1) := by decide +kernel
theorem d3_1 : decode prog_20_method_1_code 1 = .ok (.invokespecial 1, 3) := by decide +kernel
theorem d3_4 : decode prog_20_method_1_code 4 = .ok (.aload_n 0, 1) := by decide +kernel
theorem d3_5 : decode prog_20_method_1_code 5 = .ok (.dload_n 1, 1) := by decide +kernel
theorem d3_6 : decode prog_20_method_1_code 6 = .ok (.putfield 7, 3) := by decide +kernel
theorem d3_9 : decode prog_20_method_1_code 9 = .ok (.aload_n 0, 1) := by decide +kernel
theorem d3_10 : decode prog_20_method_1_code 10 = .ok (.dload_n 3, 1) := by decide +kernel
theorem d3_11 : decode prog_20_method_1_code 11 = .ok (.putfield 13, 3) := by decide +kernel
theorem d3_14 : decode prog_20_method_1_code 14 = .ok (.aload_n 0, 1) := by decide +kernel
theorem d3_15 : decode prog_20_method_1_code 15 = .ok (.dload 5, 2) := by decide +kernel
theorem d3_17 : decode prog_20_method_1_code 17 = .ok (.putfield 16, 3) := by decide +kernel
theorem d3_20 : decode prog_20_method_1_code 20 = .ok (.aload_n 0, 1) := by decide +kernel
theorem d3_21 : decode prog_20_method_1_code 21 = .ok (.dload 7, 2) := by decide +kernel
theorem d3_23 : decode prog_20_method_1_code 23 = .ok (.putfield 19, 3) := by decide +kernel
theorem d3_26 : decode prog_20_method_1_code 26 = .ok (.return_, 1) := by decide +kernel

theorem d4_0 : decode jdk_30_method_1_code 0 = .ok (.aload_n 0, 1) := by decide +kernel
theorem d4_1 : decode jdk_30_method_1_code 1 = .ok (.invokespecial 1, 3) := by decide +kernel
theorem d4_4 : decode jdk_30_method_1_code 4 = .ok (.return_, 1) := by decide +kernel

theorem d6_0 : decode prog_20_method_2_code 0 = .ok (.dload_n 1, 1) := by decide +kernel
theorem d6_1 : decode prog_20_method_2_code 1 = .ok (.aload_n 0, 1) := by decide +kernel
theorem d6_2 : decode prog_20_method_2_code 2 = .ok (.getfield 7, 3) := by decide +kernel
theorem d6_5 : decode prog_20_method_2_code 5 = .ok (.dcmp .l, 1) := by decide +kernel
theorem d6_6 : decode prog_20_method_2_code 6 = .ok (.ifCond .lt 16, 3) := by decide +kernel
theorem d6_9 : decode prog_20_method_2_code 9 = .ok (.dload_n 1, 1) := by decide +kernel
theorem d6_10 : decode prog_20_method_2_code 10 = .ok (.aload_n 0, 1) := by decide +kernel
theorem d6_11 : decode prog_20_method_2_code 11 = .ok (.getfield 13, 3) := by decide +kernel
theorem d6_14 : decode prog_20_method_2_code 14 = .ok (.dcmp .g, 1) := by decide +kernel
theorem d6_15 : decode prog_20_method_2_code 15 = .ok (.ifCond .gt 7, 3) := by decide +kernel
theorem d6_18 : decode prog_20_method_2_code 18 = .ok (.iconst 1, 1) := by decide +kernel
theorem d6_19 : decode prog_20_method_2_code 19 = .ok (.goto 4, 3) := by decide +kernel
theorem d6_22 : decode prog_20_method_2_code 22 = .ok (.iconst 0, 1) := by decide +kernel
theorem d6_23 : decode prog_20_method_2_code 23 = .ok (.ireturn, 1) := by decide +kernel

theorem pn_0 : plainFor x = true := by first | exact plainFor_of_name (by first | (simp [plainName, overriddenIn]; done) | decide +kernel) | decide +kernel

theorem pn_1 : plainFor (⟨"java/lang/Math", "min", "(II)I"⟩ : MethodName) = true := by first | exact plainFor_of_name (by first | (simp [plainName, overriddenIn]; done) | decide +kernel) | decide +kernel

theorem pn_2 : plainFor (⟨"java/lang/Math", "max", "(II)I"⟩ : MethodName) = true := by first | exact plainFor_of_name (by first | (simp [plainName, overriddenIn]; done) | decide +kernel) | decide +kernel

theorem pn_3 : plainFor (⟨"com/example/zellwerk/zellwerk/model/Axis", "<init>", "(DDDD)V"⟩ : MethodName) = true := by first | exact plainFor_of_name (by first | (simp [plainName, overriddenIn]; done) | decide +kernel) | decide +kernel

theorem pn_4 : plainFor (⟨"java/lang/Record", "<init>", "()V"⟩ : MethodName) = true := by first | exact plainFor_of_name (by first | (simp [plainName, overriddenIn]; done) | decide +kernel) | decide +kernel

theorem pn_6 : plainFor (⟨"com/example/zellwerk/zellwerk/model/Axis", "reaches", "(D)Z"⟩ : MethodName) = true := by first | exact plainFor_of_name (by first | (simp [plainName, overriddenIn]; done) | decide +kernel) | decide +kernel

theorem pd__II_I : parseMethodDescriptor "(II)I" = some ⟨[.int, .int], some .int⟩ := by decide +kernel
theorem pd__DDDD_V : parseMethodDescriptor "(DDDD)V" = some ⟨[.double, .double, .double, .double], none⟩ := by decide +kernel
theorem pd___V : parseMethodDescriptor "()V" = some ⟨[], none⟩ := by decide +kernel
theorem pd__D_Z : parseMethodDescriptor "(D)Z" = some ⟨[.double], some .boolean⟩ := by decide +kernel

def own_Qr (r : Option Value) (h0 : Heap) (n0 : Nat) (v : Option Value) (h : Heap) (L : List Loc) : Prop := v = r ∧ Fr n0 L ∧ h = h0
def own_mn (a b : Int32) : Int32 := if b < a then b else a
def own_mx (a b : Int32) : Int32 := if a < b then b else a
set_option maxRecDepth 65536 in
set_option maxHeartbeats 4000000 in
theorem rmMin (l : Launch) (Z : State) (a0 : Array Value) (hw : ∀ d ∈ tables_1, d.before a0 Z = true) (ws : List Jvm.Cond) (h0 : Heap) (n0 : Nat) (a b : Int32) :
    own_C l Z (⟨"java/lang/Math", "min", "(II)I"⟩ : MethodName) jdk_29_method_69_code 2 (some .int) ws ({ frames := 0, cells := 0, slots := 0, locals := 0 } : Room) #[(.int a), (.int b)] h0 (own_Qr (some (.int (own_mn a b))) h0 n0) := by
  refine own_body (ls := #[.val (.int a), .val (.int b)]) pn_1 (fun m => by first | rfl | (simp [entryFrame, mkF, argsToLocals, Value.category]; done)) ?_
  intro p e s m below meth c T0 hZ hx hby hml hown hnm hret hlk X0 e0
  replace hml : c.maxLocals = 2 := hml
  have N0 := Fr.nil n0
  refine own_go (fun _ => XS.iloadN X0.here hx rfl (hb hby d1_0) rfl ) ?_
  show own_R p.tables e below _ T0 (mkF m 1 #[.val (.int a), .val (.int b)] [(.int a)])
  refine own_go (fun _ => XS.iloadN X0.here hx rfl (hb hby d1_1) rfl ) ?_
  show own_R p.tables e below _ T0 (mkF m 2 #[.val (.int a), .val (.int b)] [(.int b), (.int a)])
  by_cases hc : b < a
  · show own_R p.tables e below _ T0 (mkF m 2 #[.val (.int a), .val (.int b)] [(.int b), (.int a)])
    refine own_go (fun _ => XS.icmpYes X0.here hx rfl (pc0 := 2) (pc' := 9) rfl (hb hby d1_2) rfl (tlt hc).2.2.1 (by decide) (by decide)) ?_
    show own_R p.tables e below _ T0 (mkF m 9 #[.val (.int a), .val (.int b)] [])
    refine own_go (fun _ => XS.iloadN X0.here hx rfl (hb hby d1_9) rfl ) ?_
    show own_R p.tables e below _ T0 (mkF m 10 #[.val (.int a), .val (.int b)] [(.int b)])
    have e : own_mn a b = b := if_pos hc
    exact own_end X0 (some (.int b)) (fun h => by rw [hret] at h; cases h) hlk (fun fs hr => own_retI X0 hx hret (hb hby d1_10) hr) ⟨by rw [e], N0, e0⟩ (by decide) (by decide)
  · show own_R p.tables e below _ T0 (mkF m 2 #[.val (.int a), .val (.int b)] [(.int b), (.int a)])
    refine own_go (fun _ => XS.icmpNo X0.here hx rfl (hb hby d1_2) rfl (flt hc).2.2.1) ?_
    show own_R p.tables e below _ T0 (mkF m 5 #[.val (.int a), .val (.int b)] [])
    refine own_go (fun _ => XS.iloadN X0.here hx rfl (hb hby d1_5) rfl ) ?_
    show own_R p.tables e below _ T0 (mkF m 6 #[.val (.int a), .val (.int b)] [(.int a)])
    refine own_go (fun _ => XS.goto X0.here hx rfl (pc0 := 6) (pc' := 10) rfl (hb hby d1_6) (by decide) (by decide)) ?_
    show own_R p.tables e below _ T0 (mkF m 10 #[.val (.int a), .val (.int b)] [(.int a)])
    have e : own_mn a b = a := if_neg hc
    exact own_end X0 (some (.int a)) (fun h => by rw [hret] at h; cases h) hlk (fun fs hr => own_retI X0 hx hret (hb hby d1_10) hr) ⟨by rw [e], N0, e0⟩ (by decide) (by decide)
set_option maxRecDepth 65536 in
set_option maxHeartbeats 4000000 in
theorem rmMax (l : Launch) (Z : State) (a0 : Array Value) (hw : ∀ d ∈ tables_1, d.before a0 Z = true) (ws : List Jvm.Cond) (h0 : Heap) (n0 : Nat) (a b : Int32) :
    own_C l Z (⟨"java/lang/Math", "max", "(II)I"⟩ : MethodName) jdk_29_method_65_code 2 (some .int) ws ({ frames := 0, cells := 0, slots := 0, locals := 0 } : Room) #[(.int a), (.int b)] h0 (own_Qr (some (.int (own_mx a b))) h0 n0) := by
  refine own_body (ls := #[.val (.int a), .val (.int b)]) pn_2 (fun m => by first | rfl | (simp [entryFrame, mkF, argsToLocals, Value.category]; done)) ?_
  intro p e s m below meth c T0 hZ hx hby hml hown hnm hret hlk X0 e0
  replace hml : c.maxLocals = 2 := hml
  have N0 := Fr.nil n0
  refine own_go (fun _ => XS.iloadN X0.here hx rfl (hb hby d2_0) rfl ) ?_
  show own_R p.tables e below _ T0 (mkF m 1 #[.val (.int a), .val (.int b)] [(.int a)])
  refine own_go (fun _ => XS.iloadN X0.here hx rfl (hb hby d2_1) rfl ) ?_
  show own_R p.tables e below _ T0 (mkF m 2 #[.val (.int a), .val (.int b)] [(.int b), (.int a)])
  by_cases hc : a < b
  · show own_R p.tables e below _ T0 (mkF m 2 #[.val (.int a), .val (.int b)] [(.int b), (.int a)])
    refine own_go (fun _ => XS.icmpYes X0.here hx rfl (pc0 := 2) (pc' := 9) rfl (hb hby d2_2) rfl (tlt hc).1 (by decide) (by decide)) ?_
    show own_R p.tables e below _ T0 (mkF m 9 #[.val (.int a), .val (.int b)] [])
    refine own_go (fun _ => XS.iloadN X0.here hx rfl (hb hby d2_9) rfl ) ?_
    show own_R p.tables e below _ T0 (mkF m 10 #[.val (.int a), .val (.int b)] [(.int b)])
    have e : own_mx a b = b := if_pos hc
    exact own_end X0 (some (.int b)) (fun h => by rw [hret] at h; cases h) hlk (fun fs hr => own_retI X0 hx hret (hb hby d2_10) hr) ⟨by rw [e], N0, e0⟩ (by decide) (by decide)
  · show own_R p.tables e below _ T0 (mkF m 2 #[.val (.int a), .val (.int b)] [(.int b), (.int a)])
    refine own_go (fun _ => XS.icmpNo X0.here hx rfl (hb hby d2_2) rfl (flt hc).1) ?_
    show own_R p.tables e below _ T0 (mkF m 5 #[.val (.int a), .val (.int b)] [])
    refine own_go (fun _ => XS.iloadN X0.here hx rfl (hb hby d2_5) rfl ) ?_
    show own_R p.tables e below _ T0 (mkF m 6 #[.val (.int a), .val (.int b)] [(.int a)])
    refine own_go (fun _ => XS.goto X0.here hx rfl (pc0 := 6) (pc' := 10) rfl (hb hby d2_6) (by decide) (by decide)) ?_
    show own_R p.tables e below _ T0 (mkF m 10 #[.val (.int a), .val (.int b)] [(.int a)])
    have e : own_mx a b = a := if_neg hc
    exact own_end X0 (some (.int a)) (fun h => by rw [hret] at h; cases h) hlk (fun fs hr => own_retI X0 hx hret (hb hby d2_10) hr) ⟨by rw [e], N0, e0⟩ (by decide) (by decide)
set_option maxRecDepth 65536 in
set_option maxHeartbeats 4000000 in
theorem rmRec (l : Launch) (Z : State) (a0 : Array Value) (hw : ∀ d ∈ tables_1, d.before a0 Z = true) (ws : List Jvm.Cond) (h0 : Heap) (n0 : Nat) (a : Addr) :
    own_C l Z (⟨"java/lang/Record", "<init>", "()V"⟩ : MethodName) jdk_30_method_1_code 1 none ws ({ frames := 1, cells := 0, slots := 0, locals := 12 } : Room) #[(.ref a)] h0 (own_Qr none h0 n0) := by
  refine own_body (ls := #[.val (.ref a)]) pn_4 (fun m => by first | rfl | (simp [entryFrame, mkF, argsToLocals, Value.category]; done)) ?_
  intro p e s m below meth c T0 hZ hx hby hml hown hnm hret hlk X0 e0
  replace hml : c.maxLocals = 1 := hml
  have N0 := Fr.nil n0
  refine own_go (fun _ => XS.aloadN X0.here hx rfl (hb hby d4_0) rfl rfl) ?_
  show own_R p.tables e below _ T0 (mkF m 1 #[.val (.ref a)] [(.ref a)])
  obtain ⟨T1, X1, e1, st1⟩ := initO X0 hx hZ hown (hw _ (List.mem_of_getElem? (i := 20) rfl)) (hw _ (List.mem_of_getElem? (i := 21) rfl)) (hw _ (List.mem_of_getElem? (i := 22) rfl)) e0 (g := (mkF m 1 #[.val (.ref a)] [(.ref a)])) rfl (by rw [hml]; rfl) rfl (hb hby d4_1) (by decide) (W := 0) (by show 2 * 0 + _ ≤ _; exact Nat.le_of_eq rfl) (by decide)
  refine own_go st1 ?_
  show own_R p.tables e below _ T1 (mkF m 4 #[.val (.ref a)] [])
  exact own_end X1 none (fun _ => rfl) hlk (fun fs hr => X1.returnOut hx hret (hb hby d4_4) hr) ⟨rfl, N0, e1⟩ (by decide) (by decide)
def own_Qi (Z : State) (a : Addr) (mn mx : UInt64) (h0 : Heap) (n0 : Nat) (v : Option Value) (h : Heap) (L : List Loc) : Prop := v = none ∧ Fr n0 L ∧ Keep h0 h [a] ∧ Exa Z h a "com/example/zellwerk/zellwerk/model/Axis" ∧ Fld Z h a "com/example/zellwerk/zellwerk/model/Axis" "min" "D" (.double mn) ∧ Fld Z h a "com/example/zellwerk/zellwerk/model/Axis" "max" "D" (.double mx)
set_option maxRecDepth 65536 in
set_option maxHeartbeats 4000000 in
theorem rmInit (l : Launch) (Z : State) (a0 : Array Value) (hw : ∀ d ∈ tables_1, d.before a0 Z = true) (ws : List Jvm.Cond) (h0 : Heap) (n0 : Nat) (a : Addr) (mn mx vm am : UInt64) (g9 : n0 ≤ a) (E : Exa Z h0 a "com/example/zellwerk/zellwerk/model/Axis") (Fmin : Fld Z h0 a "com/example/zellwerk/zellwerk/model/Axis" "min" "D" (.double 0)) (Fmax : Fld Z h0 a "com/example/zellwerk/zellwerk/model/Axis" "max" "D" (.double 0)) (Fvmax : Fld Z h0 a "com/example/zellwerk/zellwerk/model/Axis" "vmax" "D" (.double 0)) (Famax : Fld Z h0 a "com/example/zellwerk/zellwerk/model/Axis" "amax" "D" (.double 0)) :
    own_C l Z (⟨"com/example/zellwerk/zellwerk/model/Axis", "<init>", "(DDDD)V"⟩ : MethodName) prog_20_method_1_code 9 none ws ({ frames := 2, cells := 0, slots := 0, locals := 24 } : Room) #[(.ref a), (.double mn), (.double mx), (.double vm), (.double am)] h0 (own_Qi Z a mn mx h0 n0) := by
  refine own_body (ls := #[.val (.ref a), .val (.double mn), .second, .val (.double mx), .second, .val (.double vm), .second, .val (.double am), .second]) pn_3 (fun m => by first | rfl | (simp [entryFrame, mkF, argsToLocals, Value.category]; done)) ?_
  intro p e s m below meth c T0 hZ hx hby hml hown hnm hret hlk X0 e0
  replace hml : c.maxLocals = 9 := hml
  have N0 := Fr.nil n0
  refine own_go (fun _ => XS.aloadN X0.here hx rfl (hb hby d3_0) rfl rfl) ?_
  show own_R p.tables e below _ T0 (mkF m 1 #[.val (.ref a), .val (.double mn), .second, .val (.double mx), .second, .val (.double vm), .second, .val (.double am), .second] [(.ref a)])
  obtain ⟨v1, T1, L1, X1, Q1, st1⟩ := own_callI X0 hx hZ hown (y := (⟨"java/lang/Record", "<init>", "()V"⟩ : MethodName)) rfl (hw _ (List.mem_of_getElem? (i := 15) rfl)) (hw _ (List.mem_of_getElem? (i := 16) rfl)) (hw _ (List.mem_of_getElem? (i := 19) rfl)) (hw _ (List.mem_of_getElem? (i := 18) rfl)) (by decide) (rmRec l Z a0 hw [] h0 n0 a) (W := 0) (g := (mkF m 1 #[.val (.ref a), .val (.double mn), .second, .val (.double mx), .second, .val (.double vm), .second, .val (.double am), .second] [(.ref a)])) rfl (by rw [hml]; rfl) (a := a) (argsL := []) (rest := []) (lenOf pd___V rfl) rfl rfl (by show 2 * 0 + _ ≤ _; exact Nat.le_of_eq rfl) (hb hby d3_1) e0 (by decide) (by decide) (by decide) (by decide)
  obtain ⟨rfl, N1q, e1⟩ := Q1
  have N1 := Fr.app N0 N1q
  refine own_go st1 ?_
  show own_R p.tables e below _ T1 (mkF m 4 #[.val (.ref a), .val (.double mn), .second, .val (.double mx), .second, .val (.double vm), .second, .val (.double am), .second] [])
  refine own_go (fun _ => XS.aloadN X1.here hx rfl (hb hby d3_4) rfl rfl) ?_
  show own_R p.tables e below _ T1 (mkF m 5 #[.val (.ref a), .val (.double mn), .second, .val (.double mx), .second, .val (.double vm), .second, .val (.double am), .second] [(.ref a)])
  refine own_go (fun _ => XS.dloadN X1.here hx rfl (hb hby d3_5) rfl ) ?_
  show own_R p.tables e below _ T1 (mkF m 6 #[.val (.ref a), .val (.double mn), .second, .val (.double mx), .second, .val (.double vm), .second, .val (.double am), .second] [(.double mn), (.ref a)])
  obtain ⟨T2, h2, X2, e2, W2, st2⟩ := putF X1 hx hZ hown (host := "") (Or.inl (hw _ (List.mem_of_getElem? (i := 23) rfl))) Via.refl e1 Fmin E (Or.inr ⟨(hw _ (List.mem_of_getElem? (i := 24) rfl)), rfl, hnm⟩) (hw _ (List.mem_of_getElem? (i := 10) rfl)) (ty := .double) (by decide) rfl rfl (g := (mkF m 6 #[.val (.ref a), .val (.double mn), .second, .val (.double mx), .second, .val (.double vm), .second, .val (.double am), .second] [(.double mn), (.ref a)])) rfl rfl (hb hby d3_6)
  refine own_go st2 ?_
  show own_R p.tables e below _ T2 (mkF m 9 #[.val (.ref a), .val (.double mn), .second, .val (.double mx), .second, .val (.double vm), .second, .val (.double am), .second] [])
  have N2 := Fr.snoc X2 N1 g9
  have K2 : Keep h0 h2 [a] := (Keep.refl h0 [a]).wr W2 (Or.inl (List.mem_singleton.mpr rfl))
  have E2 : Exa Z h2 a "com/example/zellwerk/zellwerk/model/Axis" := E.wr W2
  have Fmin2 := Fmin.same W2
  have Fmax2 := Fmax.other W2 (Or.inr (slot_ne (Or.inr (hw _ (List.mem_of_getElem? (i := 26) rfl))) (Or.inr (hw _ (List.mem_of_getElem? (i := 24) rfl))) (by decide) (t := .double) (t' := .double) (by decide) (by decide)))
  have Fvmax2 := Fvmax.other W2 (Or.inr (slot_ne (Or.inr (hw _ (List.mem_of_getElem? (i := 28) rfl))) (Or.inr (hw _ (List.mem_of_getElem? (i := 24) rfl))) (by decide) (t := .double) (t' := .double) (by decide) (by decide)))
  have Famax2 := Famax.other W2 (Or.inr (slot_ne (Or.inr (hw _ (List.mem_of_getElem? (i := 30) rfl))) (Or.inr (hw _ (List.mem_of_getElem? (i := 24) rfl))) (by decide) (t := .double) (t' := .double) (by decide) (by decide)))
  refine own_go (fun _ => XS.aloadN X2.here hx rfl (hb hby d3_9) rfl rfl) ?_
  show own_R p.tables e below _ T2 (mkF m 10 #[.val (.ref a), .val (.double mn), .second, .val (.double mx), .second, .val (.double vm), .second, .val (.double am), .second] [(.ref a)])
  refine own_go (fun _ => XS.dloadN X2.here hx rfl (hb hby d3_10) rfl ) ?_
  show own_R p.tables e below _ T2 (mkF m 11 #[.val (.ref a), .val (.double mn), .second, .val (.double mx), .second, .val (.double vm), .second, .val (.double am), .second] [(.double mx), (.ref a)])
  obtain ⟨T3, h3, X3, e3, W3, st3⟩ := putF X2 hx hZ hown (host := "") (Or.inl (hw _ (List.mem_of_getElem? (i := 25) rfl))) Via.refl e2 Fmax2 E2 (Or.inr ⟨(hw _ (List.mem_of_getElem? (i := 26) rfl)), rfl, hnm⟩) (hw _ (List.mem_of_getElem? (i := 10) rfl)) (ty := .double) (by decide) rfl rfl (g := (mkF m 11 #[.val (.ref a), .val (.double mn), .second, .val (.double mx), .second, .val (.double vm), .second, .val (.double am), .second] [(.double mx), (.ref a)])) rfl rfl (hb hby d3_11)
  refine own_go st3 ?_
  show own_R p.tables e below _ T3 (mkF m 14 #[.val (.ref a), .val (.double mn), .second, .val (.double mx), .second, .val (.double vm), .second, .val (.double am), .second] [])
  have N3 := Fr.snoc X3 N2 g9
  have K3 : Keep h0 h3 [a] := K2.wr W3 (Or.inl (List.mem_singleton.mpr rfl))
  have E3 : Exa Z h3 a "com/example/zellwerk/zellwerk/model/Axis" := E2.wr W3
  have Fmin3 := Fmin2.other W3 (Or.inr (slot_ne (Or.inr (hw _ (List.mem_of_getElem? (i := 24) rfl))) (Or.inr (hw _ (List.mem_of_getElem? (i := 26) rfl))) (by decide) (t := .double) (t' := .double) (by decide) (by decide)))
  have Fmax3 := Fmax2.same W3
  have Fvmax3 := Fvmax2.other W3 (Or.inr (slot_ne (Or.inr (hw _ (List.mem_of_getElem? (i := 28) rfl))) (Or.inr (hw _ (List.mem_of_getElem? (i := 26) rfl))) (by decide) (t := .double) (t' := .double) (by decide) (by decide)))
  have Famax3 := Famax2.other W3 (Or.inr (slot_ne (Or.inr (hw _ (List.mem_of_getElem? (i := 30) rfl))) (Or.inr (hw _ (List.mem_of_getElem? (i := 26) rfl))) (by decide) (t := .double) (t' := .double) (by decide) (by decide)))
  refine own_go (fun _ => XS.aloadN X3.here hx rfl (hb hby d3_14) rfl rfl) ?_
  show own_R p.tables e below _ T3 (mkF m 15 #[.val (.ref a), .val (.double mn), .second, .val (.double mx), .second, .val (.double vm), .second, .val (.double am), .second] [(.ref a)])
  refine own_go (fun _ => XS.dload X3.here hx rfl (hb hby d3_15) rfl ) ?_
  show own_R p.tables e below _ T3 (mkF m 17 #[.val (.ref a), .val (.double mn), .second, .val (.double mx), .second, .val (.double vm), .second, .val (.double am), .second] [(.double vm), (.ref a)])
  obtain ⟨T4, h4, X4, e4, W4, st4⟩ := putF X3 hx hZ hown (host := "") (Or.inl (hw _ (List.mem_of_getElem? (i := 27) rfl))) Via.refl e3 Fvmax3 E3 (Or.inr ⟨(hw _ (List.mem_of_getElem? (i := 28) rfl)), rfl, hnm⟩) (hw _ (List.mem_of_getElem? (i := 10) rfl)) (ty := .double) (by decide) rfl rfl (g := (mkF m 17 #[.val (.ref a), .val (.double mn), .second, .val (.double mx), .second, .val (.double vm), .second, .val (.double am), .second] [(.double vm), (.ref a)])) rfl rfl (hb hby d3_17)
  refine own_go st4 ?_
  show own_R p.tables e below _ T4 (mkF m 20 #[.val (.ref a), .val (.double mn), .second, .val (.double mx), .second, .val (.double vm), .second, .val (.double am), .second] [])
  have N4 := Fr.snoc X4 N3 g9
  have K4 : Keep h0 h4 [a] := K3.wr W4 (Or.inl (List.mem_singleton.mpr rfl))
  have E4 : Exa Z h4 a "com/example/zellwerk/zellwerk/model/Axis" := E3.wr W4
  have Fmin4 := Fmin3.other W4 (Or.inr (slot_ne (Or.inr (hw _ (List.mem_of_getElem? (i := 24) rfl))) (Or.inr (hw _ (List.mem_of_getElem? (i := 28) rfl))) (by decide) (t := .double) (t' := .double) (by decide) (by decide)))
  have Fmax4 := Fmax3.other W4 (Or.inr (slot_ne (Or.inr (hw _ (List.mem_of_getElem? (i := 26) rfl))) (Or.inr (hw _ (List.mem_of_getElem? (i := 28) rfl))) (by decide) (t := .double) (t' := .double) (by decide) (by decide)))
  have Fvmax4 := Fvmax3.same W4
  have Famax4 := Famax3.other W4 (Or.inr (slot_ne (Or.inr (hw _ (List.mem_of_getElem? (i := 30) rfl))) (Or.inr (hw _ (List.mem_of_getElem? (i := 28) rfl))) (by decide) (t := .double) (t' := .double) (by decide) (by decide)))
  refine own_go (fun _ => XS.aloadN X4.here hx rfl (hb hby d3_20) rfl rfl) ?_
  show own_R p.tables e below _ T4 (mkF m 21 #[.val (.ref a), .val (.double mn), .second, .val (.double mx), .second, .val (.double vm), .second, .val (.double am), .second] [(.ref a)])
  refine own_go (fun _ => XS.dload X4.here hx rfl (hb hby d3_21) rfl ) ?_
  show own_R p.tables e below _ T4 (mkF m 23 #[.val (.ref a), .val (.double mn), .second, .val (.double mx), .second, .val (.double vm), .second, .val (.double am), .second] [(.double am), (.ref a)])
  obtain ⟨T5, h5, X5, e5, W5, st5⟩ := putF X4 hx hZ hown (host := "") (Or.inl (hw _ (List.mem_of_getElem? (i := 29) rfl))) Via.refl e4 Famax4 E4 (Or.inr ⟨(hw _ (List.mem_of_getElem? (i := 30) rfl)), rfl, hnm⟩) (hw _ (List.mem_of_getElem? (i := 10) rfl)) (ty := .double) (by decide) rfl rfl (g := (mkF m 23 #[.val (.ref a), .val (.double mn), .second, .val (.double mx), .second, .val (.double vm), .second, .val (.double am), .second] [(.double am), (.ref a)])) rfl rfl (hb hby d3_23)
  refine own_go st5 ?_
  show own_R p.tables e below _ T5 (mkF m 26 #[.val (.ref a), .val (.double mn), .second, .val (.double mx), .second, .val (.double vm), .second, .val (.double am), .second] [])
  have N5 := Fr.snoc X5 N4 g9
  have K5 : Keep h0 h5 [a] := K4.wr W5 (Or.inl (List.mem_singleton.mpr rfl))
  have E5 : Exa Z h5 a "com/example/zellwerk/zellwerk/model/Axis" := E4.wr W5
  have Fmin5 := Fmin4.other W5 (Or.inr (slot_ne (Or.inr (hw _ (List.mem_of_getElem? (i := 24) rfl))) (Or.inr (hw _ (List.mem_of_getElem? (i := 30) rfl))) (by decide) (t := .double) (t' := .double) (by decide) (by decide)))
  have Fmax5 := Fmax4.other W5 (Or.inr (slot_ne (Or.inr (hw _ (List.mem_of_getElem? (i := 26) rfl))) (Or.inr (hw _ (List.mem_of_getElem? (i := 30) rfl))) (by decide) (t := .double) (t' := .double) (by decide) (by decide)))
  have Fvmax5 := Fvmax4.other W5 (Or.inr (slot_ne (Or.inr (hw _ (List.mem_of_getElem? (i := 28) rfl))) (Or.inr (hw _ (List.mem_of_getElem? (i := 30) rfl))) (by decide) (t := .double) (t' := .double) (by decide) (by decide)))
  have Famax5 := Famax4.same W5
  exact own_end X5 none (fun _ => rfl) hlk (fun fs hr => X5.returnOut hx hret (hb hby d3_26) hr) (by show own_Qi Z a mn mx h0 n0 _ T5.heap _; rw [e5]; exact ⟨rfl, N5, K5, E5, Fmin5, Fmax5⟩) (by decide) (by decide)
def own_rc (cd mn mx : UInt64) : Int32 := if cmpValue (FP.dcmp cd mn) .l < 0 then 0 else if 0 < cmpValue (FP.dcmp cd mx) .g then 0 else 1
set_option maxRecDepth 65536 in
set_option maxHeartbeats 4000000 in
theorem rmRea (l : Launch) (Z : State) (a0 : Array Value) (hw : ∀ d ∈ tables_1, d.before a0 Z = true) (ws : List Jvm.Cond) (h0 : Heap) (n0 : Nat) (a : Addr) (cd mn mx : UInt64) (E : Exa Z h0 a "com/example/zellwerk/zellwerk/model/Axis") (Fmin : Fld Z h0 a "com/example/zellwerk/zellwerk/model/Axis" "min" "D" (.double mn)) (Fmax : Fld Z h0 a "com/example/zellwerk/zellwerk/model/Axis" "max" "D" (.double mx)) :
    own_C l Z (⟨"com/example/zellwerk/zellwerk/model/Axis", "reaches", "(D)Z"⟩ : MethodName) prog_20_method_2_code 3 (some .boolean) ws ({ frames := 0, cells := 0, slots := 0, locals := 0 } : Room) #[(.ref a), (.double cd)] h0 (own_Qr (some (.int (own_rc cd mn mx))) h0 n0) := by
  refine own_body (ls := #[.val (.ref a), .val (.double cd), .second]) pn_6 (fun m => by first | rfl | (simp [entryFrame, mkF, argsToLocals, Value.category]; done)) ?_
  intro p e s m below meth c T0 hZ hx hby hml hown hnm hret hlk X0 e0
  replace hml : c.maxLocals = 3 := hml
  have N0 := Fr.nil n0
  refine own_go (fun _ => XS.dloadN X0.here hx rfl (hb hby d6_0) rfl ) ?_
  show own_R p.tables e below _ T0 (mkF m 1 #[.val (.ref a), .val (.double cd), .second] [(.double cd)])
  refine own_go (fun _ => XS.aloadN X0.here hx rfl (hb hby d6_1) rfl rfl) ?_
  show own_R p.tables e below _ T0 (mkF m 2 #[.val (.ref a), .val (.double cd), .second] [(.ref a), (.double cd)])
  obtain ⟨T1, X1, e1, st1⟩ := getF X0 hx hZ hown (host := "") (Or.inl (hw _ (List.mem_of_getElem? (i := 23) rfl))) Via.refl e0 Fmin (g := (mkF m 2 #[.val (.ref a), .val (.double cd), .second] [(.ref a), (.double cd)])) rfl rfl (hb hby d6_2)
  refine own_go st1 ?_
  show own_R p.tables e below _ T1 (mkF m 5 #[.val (.ref a), .val (.double cd), .second] [(.double mn), (.double cd)])
  refine own_go (fun _ => XS.dcmpS X1.here hx rfl (hb hby d6_5) rfl rfl) ?_
  show own_R p.tables e below _ T1 (mkF m 6 #[.val (.ref a), .val (.double cd), .second] [(.int (cmpValue (FP.dcmp cd mn) .l))])
  by_cases h1 : (cmpValue (FP.dcmp cd mn) .l) < (0 : Int32)
  · show own_R p.tables e below _ T1 (mkF m 6 #[.val (.ref a), .val (.double cd), .second] [(.int (cmpValue (FP.dcmp cd mn) .l))])
    refine own_go (fun _ => XS.ifYes X1.here hx rfl (pc0 := 6) (pc' := 22) rfl (hb hby d6_6) rfl ((if0 _ _).trans (tlt h1).1) (by decide) (by decide)) ?_
    show own_R p.tables e below _ T1 (mkF m 22 #[.val (.ref a), .val (.double cd), .second] [])
    refine own_go (fun _ => XS.iconst X1.here hx rfl (hb hby d6_22)) ?_
    show own_R p.tables e below _ T1 (mkF m 23 #[.val (.ref a), .val (.double cd), .second] [(.int (0 : Int32))])
    have ev : own_rc cd mn mx = 0 := if_pos h1
    exact own_end X1 (some (.int (0 : Int32))) (fun h => by rw [hret] at h; cases h) hlk (fun fs hr => retN X1 hx (t := .boolean) hret (by simp) (hb hby d6_23) hr) ⟨by rw [ev], N0, e1⟩ (by decide) (by decide)
  · show own_R p.tables e below _ T1 (mkF m 6 #[.val (.ref a), .val (.double cd), .second] [(.int (cmpValue (FP.dcmp cd mn) .l))])
    refine own_go (fun _ => XS.ifNo X1.here hx rfl (hb hby d6_6) rfl ((if0 _ _).trans (flt h1).1)) ?_
    show own_R p.tables e below _ T1 (mkF m 9 #[.val (.ref a), .val (.double cd), .second] [])
    refine own_go (fun _ => XS.dloadN X1.here hx rfl (hb hby d6_9) rfl ) ?_
    show own_R p.tables e below _ T1 (mkF m 10 #[.val (.ref a), .val (.double cd), .second] [(.double cd)])
    refine own_go (fun _ => XS.aloadN X1.here hx rfl (hb hby d6_10) rfl rfl) ?_
    show own_R p.tables e below _ T1 (mkF m 11 #[.val (.ref a), .val (.double cd), .second] [(.ref a), (.double cd)])
    obtain ⟨T2, X2, e2, st2⟩ := getF X1 hx hZ hown (host := "") (Or.inl (hw _ (List.mem_of_getElem? (i := 25) rfl))) Via.refl e1 Fmax (g := (mkF m 11 #[.val (.ref a), .val (.double cd), .second] [(.ref a), (.double cd)])) rfl rfl (hb hby d6_11)
    refine own_go st2 ?_
    show own_R p.tables e below _ T2 (mkF m 14 #[.val (.ref a), .val (.double cd), .second] [(.double mx), (.double cd)])
    refine own_go (fun _ => XS.dcmpS X2.here hx rfl (hb hby d6_14) rfl rfl) ?_
    show own_R p.tables e below _ T2 (mkF m 15 #[.val (.ref a), .val (.double cd), .second] [(.int (cmpValue (FP.dcmp cd mx) .g))])
    by_cases h2 : (0 : Int32) < (cmpValue (FP.dcmp cd mx) .g)
    · show own_R p.tables e below _ T2 (mkF m 15 #[.val (.ref a), .val (.double cd), .second] [(.int (cmpValue (FP.dcmp cd mx) .g))])
      refine own_go (fun _ => XS.ifYes X2.here hx rfl (pc0 := 15) (pc' := 22) rfl (hb hby d6_15) rfl ((if0 _ _).trans (tlt h2).2.2.1) (by decide) (by decide)) ?_
      show own_R p.tables e below _ T2 (mkF m 22 #[.val (.ref a), .val (.double cd), .second] [])
      refine own_go (fun _ => XS.iconst X2.here hx rfl (hb hby d6_22)) ?_
      show own_R p.tables e below _ T2 (mkF m 23 #[.val (.ref a), .val (.double cd), .second] [(.int (0 : Int32))])
      have ev : own_rc cd mn mx = 0 := (if_neg h1).trans (if_pos h2)
      exact own_end X2 (some (.int (0 : Int32))) (fun h => by rw [hret] at h; cases h) hlk (fun fs hr => retN X2 hx (t := .boolean) hret (by simp) (hb hby d6_23) hr) ⟨by rw [ev], N0, e2⟩ (by decide) (by decide)
    · show own_R p.tables e below _ T2 (mkF m 15 #[.val (.ref a), .val (.double cd), .second] [(.int (cmpValue (FP.dcmp cd mx) .g))])
      refine own_go (fun _ => XS.ifNo X2.here hx rfl (hb hby d6_15) rfl ((if0 _ _).trans (flt h2).2.2.1)) ?_
      show own_R p.tables e below _ T2 (mkF m 18 #[.val (.ref a), .val (.double cd), .second] [])
      refine own_go (fun _ => XS.iconst X2.here hx rfl (hb hby d6_18)) ?_
      show own_R p.tables e below _ T2 (mkF m 19 #[.val (.ref a), .val (.double cd), .second] [(.int (1 : Int32))])
      refine own_go (fun _ => XS.goto X2.here hx rfl (pc0 := 19) (pc' := 23) rfl (hb hby d6_19) (by decide) (by decide)) ?_
      show own_R p.tables e below _ T2 (mkF m 23 #[.val (.ref a), .val (.double cd), .second] [(.int (1 : Int32))])
      have ev : own_rc cd mn mx = 1 := (if_neg h1).trans (if_neg h2)
      exact own_end X2 (some (.int (1 : Int32))) (fun h => by rw [hret] at h; cases h) hlk (fun fs hr => retN X2 hx (t := .boolean) hret (by simp) (hb hby d6_23) hr) ⟨by rw [ev], N0, e2⟩ (by decide) (by decide)
theorem own_cv_lt (m n : Int) (o : CmpOp) : cmpValue (some (compare m n)) o < 0 ↔ m < n := by
  rcases Int.lt_trichotomy m n with h | h | h
  · rw [(FP.Core.compare_lt_iff m n).mpr h]; cases o <;> simp [cmpValue, h] <;> decide
  · rw [(FP.Core.compare_eq_iff m n).mpr h]; cases o <;> simp [cmpValue, h] <;> omega
  · rw [(FP.Core.compare_gt_iff m n).mpr h]; cases o <;> simp [cmpValue] <;> omega
theorem own_cv_gt (m n : Int) (o : CmpOp) : 0 < cmpValue (some (compare m n)) o ↔ n < m := by
  rcases Int.lt_trichotomy m n with h | h | h
  · rw [(FP.Core.compare_lt_iff m n).mpr h]; cases o <;> simp [cmpValue] <;> omega
  · rw [(FP.Core.compare_eq_iff m n).mpr h]; cases o <;> simp [cmpValue, h] <;> omega
  · rw [(FP.Core.compare_gt_iff m n).mpr h]; cases o <;> simp [cmpValue, h] <;> decide
theorem own_two : own_DH 4 4611686018427387904 := by
  refine ⟨⟨false, 2 ^ 52, -51, by decide +kernel⟩, ?_⟩
  unfold own_z
  decide +kernel
theorem own_l2 (a : Int32) : ((2 : Int64) * a.toInt64).toInt = 2 * a.toInt := by
  have h := a.le_toInt; have h' := a.toInt_lt
  rw [Int64.toInt_mul, Int32.toInt_toInt64]
  exact Int.bmod_eq_of_le (by simp; omega) (by simp; omega)
def own_ex (lo hi x2 : Int64) : Int32 := if x2 < lo then 0 else if hi < x2 then 0 else 1
theorem own_law (lo hi : Int32) (x2 : Int64) (hb : x2.toInt.natAbs ≤ 2 ^ 40) : own_rc (FP.ddiv (FP.l2d x2) 4611686018427387904) (FP.i2d lo) (FP.i2d hi) = own_ex ((2 : Int64) * lo.toInt64) ((2 : Int64) * hi.toInt64) x2 := by
  have hx : own_DH (2 * x2.toInt) (FP.l2d x2) := own_dh_l2d x2 (Nat.le_trans hb (by decide))
  have hc : own_DH x2.toInt (FP.ddiv (FP.l2d x2) 4611686018427387904) := own_dh_div hx own_two (by decide) (by omega) (Nat.le_trans hb (by decide))
  unfold own_rc own_ex
  rw [own_dh_cmp hc (own_dh_i2d lo), own_dh_cmp hc (own_dh_i2d hi)]
  simp only [own_cv_lt, own_cv_gt, Int64.lt_iff_toInt_lt, own_l2]
theorem own_nn (x2 : Int64) (hb : x2.toInt.natAbs ≤ 2 ^ 40) : Jvm.Free.Fl.NoNaN64 (FP.ddiv (FP.l2d x2) 4611686018427387904) := by
  have hx : own_DH (2 * x2.toInt) (FP.l2d x2) := own_dh_l2d x2 (Nat.le_trans hb (by decide))
  exact (own_dh_div (k := x2.toInt) hx own_two (by decide) (by omega) (Nat.le_trans hb (by decide))).nn

def own_Q0 (n0 : Nat) (v : Option Value) (h : Heap) (L : List Loc) : Prop := v = some (.int (1 : Int32)) ∧ Fr n0 L
set_option maxRecDepth 65536 in
set_option maxHeartbeats 40000000 in
theorem rm0 (l : Launch) (Z : State) (a0 : Array Value) (hw : ∀ d ∈ tables_1, d.before a0 Z = true) (ws : List Jvm.Cond) (h0 : Heap) (n0 : Nat) (a b cc k : Int32) (Z0 : n0 ≤ h0.size) :
    own_C l Z x code maxLocals ret ws room_1 #[(.int a), (.int b), (.int cc), (.int k)] h0 (own_Q0 n0) := by
  refine own_body (ls := #[.val (.int a), .val (.int b), .val (.int cc), .val (.int k), .unset, .unset, .unset, .unset, .unset, .unset, .unset, .unset, .unset, .unset, .unset, .unset, .unset]) pn_0 (fun m => by first | rfl | (simp [entryFrame, mkF, argsToLocals, Value.category, maxLocals]; done)) ?_
  intro p e s m below meth c T0 hZ hx hby hml hown hnm hret hlk X0 e0
  replace hml : c.maxLocals = 17 := hml
  have N0 := Fr.nil n0
  refine own_go (fun _ => XS.iloadN X0.here hx rfl (hb hby at_0) rfl ) ?_
  show own_R p.tables e below _ T0 (mkF m 1 #[.val (.int a), .val (.int b), .val (.int cc), .val (.int k), .unset, .unset, .unset, .unset, .unset, .unset, .unset, .unset, .unset, .unset, .unset, .unset, .unset] [(.int a)])
  refine own_go (fun _ => XS.iloadN X0.here hx rfl (hb hby at_1) rfl ) ?_
  show own_R p.tables e below _ T0 (mkF m 2 #[.val (.int a), .val (.int b), .val (.int cc), .val (.int k), .unset, .unset, .unset, .unset, .unset, .unset, .unset, .unset, .unset, .unset, .unset, .unset, .unset] [(.int b), (.int a)])
  obtain ⟨v1, T1, L1, X1, Q1, st1⟩ := own_callS X0 hx hZ hown (y := (⟨"java/lang/Math", "min", "(II)I"⟩ : MethodName)) (hw _ (List.mem_of_getElem? (i := 0) rfl)) (hw _ (List.mem_of_getElem? (i := 1) rfl)) (hw _ (List.mem_of_getElem? (i := 2) rfl)) (hw _ (List.mem_of_getElem? (i := 3) rfl)) (by decide) (rmMin l Z a0 hw [] h0 n0 a b) (W := 0) (g := (mkF m 2 #[.val (.int a), .val (.int b), .val (.int cc), .val (.int k), .unset, .unset, .unset, .unset, .unset, .unset, .unset, .unset, .unset, .unset, .unset, .unset, .unset] [(.int b), (.int a)])) rfl (by rw [hml]; rfl) (argsL := [(.int a), (.int b)]) (rest := []) (lenOf pd__II_I rfl) rfl rfl (by show 2 * 0 + _ ≤ _; exact Nat.le_of_eq rfl) (hb hby at_2) e0 (by decide) (by decide) (by decide) (by decide)
  obtain ⟨rfl, N1q, e1⟩ := Q1
  have N1 := Fr.app N0 N1q
  refine own_go st1 ?_
  show own_R p.tables e below _ T1 (mkF m 5 #[.val (.int a), .val (.int b), .val (.int cc), .val (.int k), .unset, .unset, .unset, .unset, .unset, .unset, .unset, .unset, .unset, .unset, .unset, .unset, .unset] [(.int (own_mn a b))])
  generalize own_mn a b = lo
  show own_R p.tables e below _ T1 (mkF m 5 #[.val (.int a), .val (.int b), .val (.int cc), .val (.int k), .unset, .unset, .unset, .unset, .unset, .unset, .unset, .unset, .unset, .unset, .unset, .unset, .unset] [(.int lo)])
  refine own_go (fun _ => XS.istore X1.here hx rfl (hb hby at_5) rfl (l' := #[.val (.int a), .val (.int b), .val (.int cc), .val (.int k), .val (.int lo), .unset, .unset, .unset, .unset, .unset, .unset, .unset, .unset, .unset, .unset, .unset, .unset]) rfl) ?_
  show own_R p.tables e below _ T1 (mkF m 7 #[.val (.int a), .val (.int b), .val (.int cc), .val (.int k), .val (.int lo), .unset, .unset, .unset, .unset, .unset, .unset, .unset, .unset, .unset, .unset, .unset, .unset] [])
  refine own_go (fun _ => XS.iloadN X1.here hx rfl (hb hby at_7) rfl ) ?_
  show own_R p.tables e below _ T1 (mkF m 8 #[.val (.int a), .val (.int b), .val (.int cc), .val (.int k), .val (.int lo), .unset, .unset, .unset, .unset, .unset, .unset, .unset, .unset, .unset, .unset, .unset, .unset] [(.int a)])
  refine own_go (fun _ => XS.iloadN X1.here hx rfl (hb hby at_8) rfl ) ?_
  show own_R p.tables e below _ T1 (mkF m 9 #[.val (.int a), .val (.int b), .val (.int cc), .val (.int k), .val (.int lo), .unset, .unset, .unset, .unset, .unset, .unset, .unset, .unset, .unset, .unset, .unset, .unset] [(.int b), (.int a)])
  obtain ⟨v2, T2, L2, X2, Q2, st2⟩ := own_callS X1 hx hZ hown (y := (⟨"java/lang/Math", "max", "(II)I"⟩ : MethodName)) (hw _ (List.mem_of_getElem? (i := 4) rfl)) (hw _ (List.mem_of_getElem? (i := 5) rfl)) (hw _ (List.mem_of_getElem? (i := 2) rfl)) (hw _ (List.mem_of_getElem? (i := 6) rfl)) (by decide) (rmMax l Z a0 hw [] h0 n0 a b) (W := 0) (g := (mkF m 9 #[.val (.int a), .val (.int b), .val (.int cc), .val (.int k), .val (.int lo), .unset, .unset, .unset, .unset, .unset, .unset, .unset, .unset, .unset, .unset, .unset, .unset] [(.int b), (.int a)])) rfl (by rw [hml]; rfl) (argsL := [(.int a), (.int b)]) (rest := []) (lenOf pd__II_I rfl) rfl rfl (by show 2 * 0 + _ ≤ _; exact Nat.le_of_eq rfl) (hb hby at_9) e1 (by decide) (by decide) (by decide) (by decide)
  obtain ⟨rfl, N2q, e2⟩ := Q2
  have N2 := Fr.app N1 N2q
  refine own_go st2 ?_
  show own_R p.tables e below _ T2 (mkF m 12 #[.val (.int a), .val (.int b), .val (.int cc), .val (.int k), .val (.int lo), .unset, .unset, .unset, .unset, .unset, .unset, .unset, .unset, .unset, .unset, .unset, .unset] [(.int (own_mx a b))])
  generalize own_mx a b = hi
  show own_R p.tables e below _ T2 (mkF m 12 #[.val (.int a), .val (.int b), .val (.int cc), .val (.int k), .val (.int lo), .unset, .unset, .unset, .unset, .unset, .unset, .unset, .unset, .unset, .unset, .unset, .unset] [(.int hi)])
  refine own_go (fun _ => XS.istore X2.here hx rfl (hb hby at_12) rfl (l' := #[.val (.int a), .val (.int b), .val (.int cc), .val (.int k), .val (.int lo), .val (.int hi), .unset, .unset, .unset, .unset, .unset, .unset, .unset, .unset, .unset, .unset, .unset]) rfl) ?_
  show own_R p.tables e below _ T2 (mkF m 14 #[.val (.int a), .val (.int b), .val (.int cc), .val (.int k), .val (.int lo), .val (.int hi), .unset, .unset, .unset, .unset, .unset, .unset, .unset, .unset, .unset, .unset, .unset] [])
  refine own_go (X2.ldc2Long hx hown (mvT hZ (hw _ (List.mem_of_getElem? (i := 7) rfl))) (g := (mkF m 14 #[.val (.int a), .val (.int b), .val (.int cc), .val (.int k), .val (.int lo), .val (.int hi), .unset, .unset, .unset, .unset, .unset, .unset, .unset, .unset, .unset, .unset, .unset] [])) rfl (hb hby at_14)) ?_
  show own_R p.tables e below _ T2 (mkF m 17 #[.val (.int a), .val (.int b), .val (.int cc), .val (.int k), .val (.int lo), .val (.int hi), .unset, .unset, .unset, .unset, .unset, .unset, .unset, .unset, .unset, .unset, .unset] [(.long (2 : Int64))])
  refine own_go (fun _ => XS.iload X2.here hx rfl (hb hby at_17) rfl ) ?_
  show own_R p.tables e below _ T2 (mkF m 19 #[.val (.int a), .val (.int b), .val (.int cc), .val (.int k), .val (.int lo), .val (.int hi), .unset, .unset, .unset, .unset, .unset, .unset, .unset, .unset, .unset, .unset, .unset] [(.int lo), (.long (2 : Int64))])
  refine own_go (fun _ => XS.i2l X2.here hx rfl (hb hby at_19) rfl) ?_
  show own_R p.tables e below _ T2 (mkF m 20 #[.val (.int a), .val (.int b), .val (.int cc), .val (.int k), .val (.int lo), .val (.int hi), .unset, .unset, .unset, .unset, .unset, .unset, .unset, .unset, .unset, .unset, .unset] [(.long (lo.toInt64)), (.long (2 : Int64))])
  refine own_go (fun _ => XS.lmul X2.here hx rfl (hb hby at_20) rfl) ?_
  show own_R p.tables e below _ T2 (mkF m 21 #[.val (.int a), .val (.int b), .val (.int cc), .val (.int k), .val (.int lo), .val (.int hi), .unset, .unset, .unset, .unset, .unset, .unset, .unset, .unset, .unset, .unset, .unset] [(.long ((2 : Int64) * (lo.toInt64)))])
  refine own_go (fun _ => XS.lstore X2.here hx rfl (hb hby at_21) rfl (l' := #[.val (.int a), .val (.int b), .val (.int cc), .val (.int k), .val (.int lo), .val (.int hi), .val (.long ((2 : Int64) * (lo.toInt64))), .second, .unset, .unset, .unset, .unset, .unset, .unset, .unset, .unset, .unset]) rfl) ?_
  show own_R p.tables e below _ T2 (mkF m 23 #[.val (.int a), .val (.int b), .val (.int cc), .val (.int k), .val (.int lo), .val (.int hi), .val (.long ((2 : Int64) * (lo.toInt64))), .second, .unset, .unset, .unset, .unset, .unset, .unset, .unset, .unset, .unset] [])
  refine own_go (X2.ldc2Long hx hown (mvT hZ (hw _ (List.mem_of_getElem? (i := 7) rfl))) (g := (mkF m 23 #[.val (.int a), .val (.int b), .val (.int cc), .val (.int k), .val (.int lo), .val (.int hi), .val (.long ((2 : Int64) * (lo.toInt64))), .second, .unset, .unset, .unset, .unset, .unset, .unset, .unset, .unset, .unset] [])) rfl (hb hby at_23)) ?_
  show own_R p.tables e below _ T2 (mkF m 26 #[.val (.int a), .val (.int b), .val (.int cc), .val (.int k), .val (.int lo), .val (.int hi), .val (.long ((2 : Int64) * (lo.toInt64))), .second, .unset, .unset, .unset, .unset, .unset, .unset, .unset, .unset, .unset] [(.long (2 : Int64))])
  refine own_go (fun _ => XS.iload X2.here hx rfl (hb hby at_26) rfl ) ?_
  show own_R p.tables e below _ T2 (mkF m 28 #[.val (.int a), .val (.int b), .val (.int cc), .val (.int k), .val (.int lo), .val (.int hi), .val (.long ((2 : Int64) * (lo.toInt64))), .second, .unset, .unset, .unset, .unset, .unset, .unset, .unset, .unset, .unset] [(.int hi), (.long (2 : Int64))])
  refine own_go (fun _ => XS.i2l X2.here hx rfl (hb hby at_28) rfl) ?_
  show own_R p.tables e below _ T2 (mkF m 29 #[.val (.int a), .val (.int b), .val (.int cc), .val (.int k), .val (.int lo), .val (.int hi), .val (.long ((2 : Int64) * (lo.toInt64))), .second, .unset, .unset, .unset, .unset, .unset, .unset, .unset, .unset, .unset] [(.long (hi.toInt64)), (.long (2 : Int64))])
  refine own_go (fun _ => XS.lmul X2.here hx rfl (hb hby at_29) rfl) ?_
  show own_R p.tables e below _ T2 (mkF m 30 #[.val (.int a), .val (.int b), .val (.int cc), .val (.int k), .val (.int lo), .val (.int hi), .val (.long ((2 : Int64) * (lo.toInt64))), .second, .unset, .unset, .unset, .unset, .unset, .unset, .unset, .unset, .unset] [(.long ((2 : Int64) * (hi.toInt64)))])
  refine own_go (fun _ => XS.lstore X2.here hx rfl (hb hby at_30) rfl (l' := #[.val (.int a), .val (.int b), .val (.int cc), .val (.int k), .val (.int lo), .val (.int hi), .val (.long ((2 : Int64) * (lo.toInt64))), .second, .val (.long ((2 : Int64) * (hi.toInt64))), .second, .unset, .unset, .unset, .unset, .unset, .unset, .unset]) rfl) ?_
  show own_R p.tables e below _ T2 (mkF m 32 #[.val (.int a), .val (.int b), .val (.int cc), .val (.int k), .val (.int lo), .val (.int hi), .val (.long ((2 : Int64) * (lo.toInt64))), .second, .val (.long ((2 : Int64) * (hi.toInt64))), .second, .unset, .unset, .unset, .unset, .unset, .unset, .unset] [])
  refine own_go (fun _ => XS.iloadN X2.here hx rfl (hb hby at_32) rfl ) ?_
  show own_R p.tables e below _ T2 (mkF m 33 #[.val (.int a), .val (.int b), .val (.int cc), .val (.int k), .val (.int lo), .val (.int hi), .val (.long ((2 : Int64) * (lo.toInt64))), .second, .val (.long ((2 : Int64) * (hi.toInt64))), .second, .unset, .unset, .unset, .unset, .unset, .unset, .unset] [(.int k)])
  refine own_go (X2.ldcInt hx hown (mvT hZ (hw _ (List.mem_of_getElem? (i := 8) rfl))) (g := (mkF m 33 #[.val (.int a), .val (.int b), .val (.int cc), .val (.int k), .val (.int lo), .val (.int hi), .val (.long ((2 : Int64) * (lo.toInt64))), .second, .val (.long ((2 : Int64) * (hi.toInt64))), .second, .unset, .unset, .unset, .unset, .unset, .unset, .unset] [(.int k)])) rfl (hb hby at_33)) ?_
  show own_R p.tables e below _ T2 (mkF m 35 #[.val (.int a), .val (.int b), .val (.int cc), .val (.int k), .val (.int lo), .val (.int hi), .val (.long ((2 : Int64) * (lo.toInt64))), .second, .val (.long ((2 : Int64) * (hi.toInt64))), .second, .unset, .unset, .unset, .unset, .unset, .unset, .unset] [(.int (2147483647 : Int32)), (.int k)])
  refine own_go (fun _ => XS.iand X2.here hx rfl (hb hby at_35) rfl) ?_
  show own_R p.tables e below _ T2 (mkF m 36 #[.val (.int a), .val (.int b), .val (.int cc), .val (.int k), .val (.int lo), .val (.int hi), .val (.long ((2 : Int64) * (lo.toInt64))), .second, .val (.long ((2 : Int64) * (hi.toInt64))), .second, .unset, .unset, .unset, .unset, .unset, .unset, .unset] [(.int (k &&& (2147483647 : Int32)))])
  refine own_go (fun _ => XS.bipush X2.here hx rfl (hb hby at_36)) ?_
  show own_R p.tables e below _ T2 (mkF m 38 #[.val (.int a), .val (.int b), .val (.int cc), .val (.int k), .val (.int lo), .val (.int hi), .val (.long ((2 : Int64) * (lo.toInt64))), .second, .val (.long ((2 : Int64) * (hi.toInt64))), .second, .unset, .unset, .unset, .unset, .unset, .unset, .unset] [(.int (6 : Int32)), (.int (k &&& (2147483647 : Int32)))])
  refine own_go (fun _ => iremM (g := (mkF m 38 #[.val (.int a), .val (.int b), .val (.int cc), .val (.int k), .val (.int lo), .val (.int hi), .val (.long ((2 : Int64) * (lo.toInt64))), .second, .val (.long ((2 : Int64) * (hi.toInt64))), .second, .unset, .unset, .unset, .unset, .unset, .unset, .unset] [(.int (6 : Int32)), (.int (k &&& (2147483647 : Int32)))])) X2 hx rfl (hb hby at_38) rfl (by decide)) ?_
  show own_R p.tables e below _ T2 (mkF m 39 #[.val (.int a), .val (.int b), .val (.int cc), .val (.int k), .val (.int lo), .val (.int hi), .val (.long ((2 : Int64) * (lo.toInt64))), .second, .val (.long ((2 : Int64) * (hi.toInt64))), .second, .unset, .unset, .unset, .unset, .unset, .unset, .unset] [(.int ((k &&& (2147483647 : Int32)) % (6 : Int32)))])
  refine own_go (fun _ => XS.istore X2.here hx rfl (hb hby at_39) rfl (l' := #[.val (.int a), .val (.int b), .val (.int cc), .val (.int k), .val (.int lo), .val (.int hi), .val (.long ((2 : Int64) * (lo.toInt64))), .second, .val (.long ((2 : Int64) * (hi.toInt64))), .second, .val (.int ((k &&& (2147483647 : Int32)) % (6 : Int32))), .unset, .unset, .unset, .unset, .unset, .unset]) rfl) ?_
  show own_R p.tables e below _ T2 (mkF m 41 #[.val (.int a), .val (.int b), .val (.int cc), .val (.int k), .val (.int lo), .val (.int hi), .val (.long ((2 : Int64) * (lo.toInt64))), .second, .val (.long ((2 : Int64) * (hi.toInt64))), .second, .val (.int ((k &&& (2147483647 : Int32)) % (6 : Int32))), .unset, .unset, .unset, .unset, .unset, .unset] [])
  refine own_go (fun _ => XS.iload X2.here hx rfl (hb hby at_41) rfl ) ?_
  show own_R p.tables e below _ T2 (mkF m 43 #[.val (.int a), .val (.int b), .val (.int cc), .val (.int k), .val (.int lo), .val (.int hi), .val (.long ((2 : Int64) * (lo.toInt64))), .second, .val (.long ((2 : Int64) * (hi.toInt64))), .second, .val (.int ((k &&& (2147483647 : Int32)) % (6 : Int32))), .unset, .unset, .unset, .unset, .unset, .unset] [(.int ((k &&& (2147483647 : Int32)) % (6 : Int32)))])
  generalize ((k &&& (2147483647 : Int32)) % (6 : Int32)) = sel
  show own_R p.tables e below _ T2 (mkF m 43 #[.val (.int a), .val (.int b), .val (.int cc), .val (.int k), .val (.int lo), .val (.int hi), .val (.long ((2 : Int64) * (lo.toInt64))), .second, .val (.long ((2 : Int64) * (hi.toInt64))), .second, .val (.int sel), .unset, .unset, .unset, .unset, .unset, .unset] [(.int sel)])
  have J : ∀ x2 : Int64, x2.toInt.natAbs ≤ 2 ^ 40 → own_R p.tables e below (own_E s below (own_Q0 n0) (room_1).cells (room_1).slots) T2 (mkF m 123 #[.val (.int a), .val (.int b), .val (.int cc), .val (.int k), .val (.int lo), .val (.int hi), .val (.long ((2 : Int64) * (lo.toInt64))), .second, .val (.long ((2 : Int64) * (hi.toInt64))), .second, .val (.int sel), .val (.long x2), .second, .unset, .unset, .unset, .unset] []) := by
    intro x2 hb2
    obtain ⟨T3, h3, X3, e3, E3, A3, D3, -, st3⟩ := newO X2 hx hZ hown (hw _ (List.mem_of_getElem? (i := 9) rfl)) (hw _ (List.mem_of_getElem? (i := 10) rfl)) (hw _ (List.mem_of_getElem? (i := 11) rfl)) e2 (g := (mkF m 123 #[.val (.int a), .val (.int b), .val (.int cc), .val (.int k), .val (.int lo), .val (.int hi), .val (.long ((2 : Int64) * (lo.toInt64))), .second, .val (.long ((2 : Int64) * (hi.toInt64))), .second, .val (.int sel), .val (.long x2), .second, .unset, .unset, .unset, .unset] [])) rfl (hb hby at_123) (by decide) (by decide)
    obtain ⟨a3, g3⟩ : ∃ z, z = h0.size := ⟨_, rfl⟩
    rw [← g3] at A3 D3 st3
    refine own_go st3 ?_
    show own_R p.tables e below _ T3 (mkF m 126 #[.val (.int a), .val (.int b), .val (.int cc), .val (.int k), .val (.int lo), .val (.int hi), .val (.long ((2 : Int64) * (lo.toInt64))), .second, .val (.long ((2 : Int64) * (hi.toInt64))), .second, .val (.int sel), .val (.long x2), .second, .unset, .unset, .unset, .unset] [(.ref a3)])
    refine own_go (fun _ => XS.dup X3.here hx rfl (hb hby at_126) rfl rfl) ?_
    show own_R p.tables e below _ T3 (mkF m 127 #[.val (.int a), .val (.int b), .val (.int cc), .val (.int k), .val (.int lo), .val (.int hi), .val (.long ((2 : Int64) * (lo.toInt64))), .second, .val (.long ((2 : Int64) * (hi.toInt64))), .second, .val (.int sel), .val (.long x2), .second, .unset, .unset, .unset, .unset] [(.ref a3), (.ref a3)])
    refine own_go (fun _ => XS.iload X3.here hx rfl (hb hby at_127) rfl ) ?_
    show own_R p.tables e below _ T3 (mkF m 129 #[.val (.int a), .val (.int b), .val (.int cc), .val (.int k), .val (.int lo), .val (.int hi), .val (.long ((2 : Int64) * (lo.toInt64))), .second, .val (.long ((2 : Int64) * (hi.toInt64))), .second, .val (.int sel), .val (.long x2), .second, .unset, .unset, .unset, .unset] [(.int lo), (.ref a3), (.ref a3)])
    refine own_go (fun _ => XS.i2dS X3.here hx rfl (hb hby at_129) rfl rfl) ?_
    show own_R p.tables e below _ T3 (mkF m 130 #[.val (.int a), .val (.int b), .val (.int cc), .val (.int k), .val (.int lo), .val (.int hi), .val (.long ((2 : Int64) * (lo.toInt64))), .second, .val (.long ((2 : Int64) * (hi.toInt64))), .second, .val (.int sel), .val (.long x2), .second, .unset, .unset, .unset, .unset] [(.double (FP.i2d lo)), (.ref a3), (.ref a3)])
    refine own_go (fun _ => XS.iload X3.here hx rfl (hb hby at_130) rfl ) ?_
    show own_R p.tables e below _ T3 (mkF m 132 #[.val (.int a), .val (.int b), .val (.int cc), .val (.int k), .val (.int lo), .val (.int hi), .val (.long ((2 : Int64) * (lo.toInt64))), .second, .val (.long ((2 : Int64) * (hi.toInt64))), .second, .val (.int sel), .val (.long x2), .second, .unset, .unset, .unset, .unset] [(.int hi), (.double (FP.i2d lo)), (.ref a3), (.ref a3)])
    refine own_go (fun _ => XS.i2dS X3.here hx rfl (hb hby at_132) rfl rfl) ?_
    show own_R p.tables e below _ T3 (mkF m 133 #[.val (.int a), .val (.int b), .val (.int cc), .val (.int k), .val (.int lo), .val (.int hi), .val (.long ((2 : Int64) * (lo.toInt64))), .second, .val (.long ((2 : Int64) * (hi.toInt64))), .second, .val (.int sel), .val (.long x2), .second, .unset, .unset, .unset, .unset] [(.double (FP.i2d hi)), (.double (FP.i2d lo)), (.ref a3), (.ref a3)])
    refine own_go (fun _ => XS.dconst1 X3.here hx rfl (hb hby at_133) rfl) ?_
    show own_R p.tables e below _ T3 (mkF m 134 #[.val (.int a), .val (.int b), .val (.int cc), .val (.int k), .val (.int lo), .val (.int hi), .val (.long ((2 : Int64) * (lo.toInt64))), .second, .val (.long ((2 : Int64) * (hi.toInt64))), .second, .val (.int sel), .val (.long x2), .second, .unset, .unset, .unset, .unset] [(.double FP.dconst1), (.double (FP.i2d hi)), (.double (FP.i2d lo)), (.ref a3), (.ref a3)])
    refine own_go (fun _ => XS.dconst1 X3.here hx rfl (hb hby at_134) rfl) ?_
    show own_R p.tables e below _ T3 (mkF m 135 #[.val (.int a), .val (.int b), .val (.int cc), .val (.int k), .val (.int lo), .val (.int hi), .val (.long ((2 : Int64) * (lo.toInt64))), .second, .val (.long ((2 : Int64) * (hi.toInt64))), .second, .val (.int sel), .val (.long x2), .second, .unset, .unset, .unset, .unset] [(.double FP.dconst1), (.double FP.dconst1), (.double (FP.i2d hi)), (.double (FP.i2d lo)), (.ref a3), (.ref a3)])
    have g3a : n0 ≤ a3 := Nat.le_trans Z0 (Nat.le_of_eq g3.symm)
    obtain ⟨v4, T4, L4, X4, Q4, st4⟩ := own_callI X3 hx hZ hown (y := (⟨"com/example/zellwerk/zellwerk/model/Axis", "<init>", "(DDDD)V"⟩ : MethodName)) rfl (hw _ (List.mem_of_getElem? (i := 12) rfl)) (hw _ (List.mem_of_getElem? (i := 13) rfl)) (hw _ (List.mem_of_getElem? (i := 14) rfl)) (hw _ (List.mem_of_getElem? (i := 11) rfl)) (by decide) (rmInit l Z a0 hw [] h3 n0 a3 (FP.i2d lo) (FP.i2d hi) FP.dconst1 FP.dconst1 g3a A3 (D3 (Or.inr (hw _ (List.mem_of_getElem? (i := 24) rfl))) (ty := .double) (by decide)) (D3 (Or.inr (hw _ (List.mem_of_getElem? (i := 26) rfl))) (ty := .double) (by decide)) (D3 (Or.inr (hw _ (List.mem_of_getElem? (i := 28) rfl))) (ty := .double) (by decide)) (D3 (Or.inr (hw _ (List.mem_of_getElem? (i := 30) rfl))) (ty := .double) (by decide))) (W := 1) (g := (mkF m 135 #[.val (.int a), .val (.int b), .val (.int cc), .val (.int k), .val (.int lo), .val (.int hi), .val (.long ((2 : Int64) * (lo.toInt64))), .second, .val (.long ((2 : Int64) * (hi.toInt64))), .second, .val (.int sel), .val (.long x2), .second, .unset, .unset, .unset, .unset] [(.double FP.dconst1), (.double FP.dconst1), (.double (FP.i2d hi)), (.double (FP.i2d lo)), (.ref a3), (.ref a3)])) rfl (by rw [hml]; rfl) (a := a3) (argsL := [(.double (FP.i2d lo)), (.double (FP.i2d hi)), (.double FP.dconst1), (.double FP.dconst1)]) (rest := [(.ref a3)]) (lenOf pd__DDDD_V rfl) rfl rfl (by show 2 * 0 + _ ≤ _; exact Nat.le_of_eq rfl) (hb hby at_135) e3 (by decide) (by decide) (by decide) (by decide)
    obtain ⟨rfl, N4q, K4, E4, F4a, F4b⟩ := Q4
    have N4 := Fr.app N2 N4q
    refine own_go st4 ?_
    show own_R p.tables e below _ T4 (mkF m 138 #[.val (.int a), .val (.int b), .val (.int cc), .val (.int k), .val (.int lo), .val (.int hi), .val (.long ((2 : Int64) * (lo.toInt64))), .second, .val (.long ((2 : Int64) * (hi.toInt64))), .second, .val (.int sel), .val (.long x2), .second, .unset, .unset, .unset, .unset] [(.ref a3)])
    refine own_go (fun _ => XS.astore X4.here hx rfl (hb hby at_138) rfl rfl (l' := #[.val (.int a), .val (.int b), .val (.int cc), .val (.int k), .val (.int lo), .val (.int hi), .val (.long ((2 : Int64) * (lo.toInt64))), .second, .val (.long ((2 : Int64) * (hi.toInt64))), .second, .val (.int sel), .val (.long x2), .second, .val (.ref a3), .unset, .unset, .unset]) rfl) ?_
    show own_R p.tables e below _ T4 (mkF m 140 #[.val (.int a), .val (.int b), .val (.int cc), .val (.int k), .val (.int lo), .val (.int hi), .val (.long ((2 : Int64) * (lo.toInt64))), .second, .val (.long ((2 : Int64) * (hi.toInt64))), .second, .val (.int sel), .val (.long x2), .second, .val (.ref a3), .unset, .unset, .unset] [])
    refine own_go (fun _ => XS.lload X4.here hx rfl (hb hby at_140) rfl ) ?_
    show own_R p.tables e below _ T4 (mkF m 142 #[.val (.int a), .val (.int b), .val (.int cc), .val (.int k), .val (.int lo), .val (.int hi), .val (.long ((2 : Int64) * (lo.toInt64))), .second, .val (.long ((2 : Int64) * (hi.toInt64))), .second, .val (.int sel), .val (.long x2), .second, .val (.ref a3), .unset, .unset, .unset] [(.long x2)])
    refine own_go (fun _ => XS.l2dS X4.here hx rfl (hb hby at_142) rfl rfl) ?_
    show own_R p.tables e below _ T4 (mkF m 143 #[.val (.int a), .val (.int b), .val (.int cc), .val (.int k), .val (.int lo), .val (.int hi), .val (.long ((2 : Int64) * (lo.toInt64))), .second, .val (.long ((2 : Int64) * (hi.toInt64))), .second, .val (.int sel), .val (.long x2), .second, .val (.ref a3), .unset, .unset, .unset] [(.double (FP.l2d x2))])
    refine own_go (X4.ldc2DoubleC hx hown (mvT hZ (hw _ (List.mem_of_getElem? (i := 31) rfl))) (g := (mkF m 143 #[.val (.int a), .val (.int b), .val (.int cc), .val (.int k), .val (.int lo), .val (.int hi), .val (.long ((2 : Int64) * (lo.toInt64))), .second, .val (.long ((2 : Int64) * (hi.toInt64))), .second, .val (.int sel), .val (.long x2), .second, .val (.ref a3), .unset, .unset, .unset] [(.double (FP.l2d x2))])) rfl (hb hby at_143)) ?_
    show own_R p.tables e below _ T4 (mkF m 146 #[.val (.int a), .val (.int b), .val (.int cc), .val (.int k), .val (.int lo), .val (.int hi), .val (.long ((2 : Int64) * (lo.toInt64))), .second, .val (.long ((2 : Int64) * (hi.toInt64))), .second, .val (.int sel), .val (.long x2), .second, .val (.ref a3), .unset, .unset, .unset] [(.double (4611686018427387904 : UInt64)), (.double (FP.l2d x2))])
    refine own_go (fun _ => XS.ddivS X4.here hx rfl (hb hby at_146) rfl (own_nn x2 hb2) rfl) ?_
    show own_R p.tables e below _ T4 (mkF m 147 #[.val (.int a), .val (.int b), .val (.int cc), .val (.int k), .val (.int lo), .val (.int hi), .val (.long ((2 : Int64) * (lo.toInt64))), .second, .val (.long ((2 : Int64) * (hi.toInt64))), .second, .val (.int sel), .val (.long x2), .second, .val (.ref a3), .unset, .unset, .unset] [(.double (FP.ddiv (FP.l2d x2) (4611686018427387904 : UInt64)))])
    refine own_go (fun _ => XS.dstore X4.here hx rfl (hb hby at_147) rfl (l' := #[.val (.int a), .val (.int b), .val (.int cc), .val (.int k), .val (.int lo), .val (.int hi), .val (.long ((2 : Int64) * (lo.toInt64))), .second, .val (.long ((2 : Int64) * (hi.toInt64))), .second, .val (.int sel), .val (.long x2), .second, .val (.ref a3), .val (.double (FP.ddiv (FP.l2d x2) (4611686018427387904 : UInt64))), .second, .unset]) rfl) ?_
    show own_R p.tables e below _ T4 (mkF m 149 #[.val (.int a), .val (.int b), .val (.int cc), .val (.int k), .val (.int lo), .val (.int hi), .val (.long ((2 : Int64) * (lo.toInt64))), .second, .val (.long ((2 : Int64) * (hi.toInt64))), .second, .val (.int sel), .val (.long x2), .second, .val (.ref a3), .val (.double (FP.ddiv (FP.l2d x2) (4611686018427387904 : UInt64))), .second, .unset] [])
    refine own_go (fun _ => XS.lload X4.here hx rfl (hb hby at_149) rfl ) ?_
    show own_R p.tables e below _ T4 (mkF m 151 #[.val (.int a), .val (.int b), .val (.int cc), .val (.int k), .val (.int lo), .val (.int hi), .val (.long ((2 : Int64) * (lo.toInt64))), .second, .val (.long ((2 : Int64) * (hi.toInt64))), .second, .val (.int sel), .val (.long x2), .second, .val (.ref a3), .val (.double (FP.ddiv (FP.l2d x2) (4611686018427387904 : UInt64))), .second, .unset] [(.long ((2 : Int64) * (lo.toInt64)))])
    refine own_go (fun _ => XS.lload X4.here hx rfl (hb hby at_151) rfl ) ?_
    show own_R p.tables e below _ T4 (mkF m 153 #[.val (.int a), .val (.int b), .val (.int cc), .val (.int k), .val (.int lo), .val (.int hi), .val (.long ((2 : Int64) * (lo.toInt64))), .second, .val (.long ((2 : Int64) * (hi.toInt64))), .second, .val (.int sel), .val (.long x2), .second, .val (.ref a3), .val (.double (FP.ddiv (FP.l2d x2) (4611686018427387904 : UInt64))), .second, .unset] [(.long x2), (.long ((2 : Int64) * (lo.toInt64)))])
    refine own_go (fun _ => XS.lcmp X4.here hx rfl (hb hby at_153) rfl) ?_
    show own_R p.tables e below _ T4 (mkF m 154 #[.val (.int a), .val (.int b), .val (.int cc), .val (.int k), .val (.int lo), .val (.int hi), .val (.long ((2 : Int64) * (lo.toInt64))), .second, .val (.long ((2 : Int64) * (hi.toInt64))), .second, .val (.int sel), .val (.long x2), .second, .val (.ref a3), .val (.double (FP.ddiv (FP.l2d x2) (4611686018427387904 : UInt64))), .second, .unset] [(.int (lcmpW ((2 : Int64) * (lo.toInt64)) x2))])
    have J2 : ∀ ev : Int32, ev = own_ex ((2 : Int64) * (lo.toInt64)) ((2 : Int64) * (hi.toInt64)) x2 → own_R p.tables e below (own_E s below (own_Q0 n0) (room_1).cells (room_1).slots) T4 (mkF m 170 #[.val (.int a), .val (.int b), .val (.int cc), .val (.int k), .val (.int lo), .val (.int hi), .val (.long ((2 : Int64) * (lo.toInt64))), .second, .val (.long ((2 : Int64) * (hi.toInt64))), .second, .val (.int sel), .val (.long x2), .second, .val (.ref a3), .val (.double (FP.ddiv (FP.l2d x2) (4611686018427387904 : UInt64))), .second, .unset] [(.int ev)]) := by
      intro ev hev
      refine own_go (fun _ => XS.istore X4.here hx rfl (hb hby at_170) rfl (l' := #[.val (.int a), .val (.int b), .val (.int cc), .val (.int k), .val (.int lo), .val (.int hi), .val (.long ((2 : Int64) * (lo.toInt64))), .second, .val (.long ((2 : Int64) * (hi.toInt64))), .second, .val (.int sel), .val (.long x2), .second, .val (.ref a3), .val (.double (FP.ddiv (FP.l2d x2) (4611686018427387904 : UInt64))), .second, .val (.int ev)]) rfl) ?_
      show own_R p.tables e below _ T4 (mkF m 172 #[.val (.int a), .val (.int b), .val (.int cc), .val (.int k), .val (.int lo), .val (.int hi), .val (.long ((2 : Int64) * (lo.toInt64))), .second, .val (.long ((2 : Int64) * (hi.toInt64))), .second, .val (.int sel), .val (.long x2), .second, .val (.ref a3), .val (.double (FP.ddiv (FP.l2d x2) (4611686018427387904 : UInt64))), .second, .val (.int ev)] [])
      refine own_go (fun _ => XS.aload X4.here hx rfl (hb hby at_172) rfl rfl) ?_
      show own_R p.tables e below _ T4 (mkF m 174 #[.val (.int a), .val (.int b), .val (.int cc), .val (.int k), .val (.int lo), .val (.int hi), .val (.long ((2 : Int64) * (lo.toInt64))), .second, .val (.long ((2 : Int64) * (hi.toInt64))), .second, .val (.int sel), .val (.long x2), .second, .val (.ref a3), .val (.double (FP.ddiv (FP.l2d x2) (4611686018427387904 : UInt64))), .second, .val (.int ev)] [(.ref a3)])
      refine own_go (fun _ => XS.dload X4.here hx rfl (hb hby at_174) rfl ) ?_
      show own_R p.tables e below _ T4 (mkF m 176 #[.val (.int a), .val (.int b), .val (.int cc), .val (.int k), .val (.int lo), .val (.int hi), .val (.long ((2 : Int64) * (lo.toInt64))), .second, .val (.long ((2 : Int64) * (hi.toInt64))), .second, .val (.int sel), .val (.long x2), .second, .val (.ref a3), .val (.double (FP.ddiv (FP.l2d x2) (4611686018427387904 : UInt64))), .second, .val (.int ev)] [(.double (FP.ddiv (FP.l2d x2) (4611686018427387904 : UInt64))), (.ref a3)])
      obtain ⟨v5, T5, L5, X5, Q5, st5⟩ := own_callV X4 hx hZ hown (y := (⟨"com/example/zellwerk/zellwerk/model/Axis", "reaches", "(D)Z"⟩ : MethodName)) (hw _ (List.mem_of_getElem? (i := 32) rfl)) (hw _ (List.mem_of_getElem? (i := 33) rfl)) (hw _ (List.mem_of_getElem? (i := 35) rfl)) (hw _ (List.mem_of_getElem? (i := 34) rfl)) (hw _ (List.mem_of_getElem? (i := 36) rfl)) (hw _ (List.mem_of_getElem? (i := 11) rfl)) (by decide) (rmRea l Z a0 hw [] T4.heap n0 a3 (FP.ddiv (FP.l2d x2) (4611686018427387904 : UInt64)) (FP.i2d lo) (FP.i2d hi) E4 F4a F4b) E4 (W := 0) (g := (mkF m 176 #[.val (.int a), .val (.int b), .val (.int cc), .val (.int k), .val (.int lo), .val (.int hi), .val (.long ((2 : Int64) * (lo.toInt64))), .second, .val (.long ((2 : Int64) * (hi.toInt64))), .second, .val (.int sel), .val (.long x2), .second, .val (.ref a3), .val (.double (FP.ddiv (FP.l2d x2) (4611686018427387904 : UInt64))), .second, .val (.int ev)] [(.double (FP.ddiv (FP.l2d x2) (4611686018427387904 : UInt64))), (.ref a3)])) rfl (by rw [hml]; rfl) (b := a3) (argsL := [(.double (FP.ddiv (FP.l2d x2) (4611686018427387904 : UInt64)))]) (rest := []) (lenOf pd__D_Z rfl) rfl rfl (by show 2 * 0 + _ ≤ _; exact Nat.le_of_eq rfl) (hb hby at_176) rfl (by decide) (by decide) (by decide) (by decide)
      obtain ⟨rfl, N5q, e5⟩ := Q5
      refine own_go st5 ?_
      show own_R p.tables e below _ T5 (mkF m 179 #[.val (.int a), .val (.int b), .val (.int cc), .val (.int k), .val (.int lo), .val (.int hi), .val (.long ((2 : Int64) * (lo.toInt64))), .second, .val (.long ((2 : Int64) * (hi.toInt64))), .second, .val (.int sel), .val (.long x2), .second, .val (.ref a3), .val (.double (FP.ddiv (FP.l2d x2) (4611686018427387904 : UInt64))), .second, .val (.int ev)] [(.int (own_rc (FP.ddiv (FP.l2d x2) (4611686018427387904 : UInt64)) (FP.i2d lo) (FP.i2d hi)))])
      refine own_go (fun _ => XS.iload X5.here hx rfl (hb hby at_179) rfl ) ?_
      show own_R p.tables e below _ T5 (mkF m 181 #[.val (.int a), .val (.int b), .val (.int cc), .val (.int k), .val (.int lo), .val (.int hi), .val (.long ((2 : Int64) * (lo.toInt64))), .second, .val (.long ((2 : Int64) * (hi.toInt64))), .second, .val (.int sel), .val (.long x2), .second, .val (.ref a3), .val (.double (FP.ddiv (FP.l2d x2) (4611686018427387904 : UInt64))), .second, .val (.int ev)] [(.int ev), (.int (own_rc (FP.ddiv (FP.l2d x2) (4611686018427387904 : UInt64)) (FP.i2d lo) (FP.i2d hi)))])
      refine own_go (fun _ => XS.icmpNo X5.here hx rfl (hb hby at_181) rfl (teq ((own_law lo hi x2 hb2).trans hev.symm)).2) ?_
      show own_R p.tables e below _ T5 (mkF m 184 #[.val (.int a), .val (.int b), .val (.int cc), .val (.int k), .val (.int lo), .val (.int hi), .val (.long ((2 : Int64) * (lo.toInt64))), .second, .val (.long ((2 : Int64) * (hi.toInt64))), .second, .val (.int sel), .val (.long x2), .second, .val (.ref a3), .val (.double (FP.ddiv (FP.l2d x2) (4611686018427387904 : UInt64))), .second, .val (.int ev)] [])
      refine own_go (fun _ => XS.iconst X5.here hx rfl (hb hby at_184)) ?_
      show own_R p.tables e below _ T5 (mkF m 185 #[.val (.int a), .val (.int b), .val (.int cc), .val (.int k), .val (.int lo), .val (.int hi), .val (.long ((2 : Int64) * (lo.toInt64))), .second, .val (.long ((2 : Int64) * (hi.toInt64))), .second, .val (.int sel), .val (.long x2), .second, .val (.ref a3), .val (.double (FP.ddiv (FP.l2d x2) (4611686018427387904 : UInt64))), .second, .val (.int ev)] [(.int (1 : Int32))])
      refine own_go (fun _ => XS.goto X5.here hx rfl (pc0 := 185) (pc' := 189) rfl (hb hby at_185) (by decide) (by decide)) ?_
      show own_R p.tables e below _ T5 (mkF m 189 #[.val (.int a), .val (.int b), .val (.int cc), .val (.int k), .val (.int lo), .val (.int hi), .val (.long ((2 : Int64) * (lo.toInt64))), .second, .val (.long ((2 : Int64) * (hi.toInt64))), .second, .val (.int sel), .val (.long x2), .second, .val (.ref a3), .val (.double (FP.ddiv (FP.l2d x2) (4611686018427387904 : UInt64))), .second, .val (.int ev)] [(.int (1 : Int32))])
      exact own_end X5 (some (.int (1 : Int32))) (fun h => by rw [hret] at h; cases h) hlk (fun fs hr => retN X5 hx (t := .boolean) hret (by simp) (hb hby at_189) hr) ⟨rfl, Fr.app N4 N5q⟩ (by decide) (by decide)
    by_cases h1 : (0 : Int32) < (lcmpW ((2 : Int64) * (lo.toInt64)) x2)
    · show own_R p.tables e below _ T4 (mkF m 154 #[.val (.int a), .val (.int b), .val (.int cc), .val (.int k), .val (.int lo), .val (.int hi), .val (.long ((2 : Int64) * (lo.toInt64))), .second, .val (.long ((2 : Int64) * (hi.toInt64))), .second, .val (.int sel), .val (.long x2), .second, .val (.ref a3), .val (.double (FP.ddiv (FP.l2d x2) (4611686018427387904 : UInt64))), .second, .unset] [(.int (lcmpW ((2 : Int64) * (lo.toInt64)) x2))])
      refine own_go (fun _ => XS.ifYes X4.here hx rfl (pc0 := 154) (pc' := 169) rfl (hb hby at_154) rfl ((if0 _ _).trans (tlt h1).2.2.1) (by decide) (by decide)) ?_
      show own_R p.tables e below _ T4 (mkF m 169 #[.val (.int a), .val (.int b), .val (.int cc), .val (.int k), .val (.int lo), .val (.int hi), .val (.long ((2 : Int64) * (lo.toInt64))), .second, .val (.long ((2 : Int64) * (hi.toInt64))), .second, .val (.int sel), .val (.long x2), .second, .val (.ref a3), .val (.double (FP.ddiv (FP.l2d x2) (4611686018427387904 : UInt64))), .second, .unset] [])
      refine own_go (fun _ => XS.iconst X4.here hx rfl (hb hby at_169)) ?_
      show own_R p.tables e below _ T4 (mkF m 170 #[.val (.int a), .val (.int b), .val (.int cc), .val (.int k), .val (.int lo), .val (.int hi), .val (.long ((2 : Int64) * (lo.toInt64))), .second, .val (.long ((2 : Int64) * (hi.toInt64))), .second, .val (.int sel), .val (.long x2), .second, .val (.ref a3), .val (.double (FP.ddiv (FP.l2d x2) (4611686018427387904 : UInt64))), .second, .unset] [(.int (0 : Int32))])
      exact J2 _ (if_pos ((lw_gt _ _).mp h1)).symm
    · show own_R p.tables e below _ T4 (mkF m 154 #[.val (.int a), .val (.int b), .val (.int cc), .val (.int k), .val (.int lo), .val (.int hi), .val (.long ((2 : Int64) * (lo.toInt64))), .second, .val (.long ((2 : Int64) * (hi.toInt64))), .second, .val (.int sel), .val (.long x2), .second, .val (.ref a3), .val (.double (FP.ddiv (FP.l2d x2) (4611686018427387904 : UInt64))), .second, .unset] [(.int (lcmpW ((2 : Int64) * (lo.toInt64)) x2))])
      refine own_go (fun _ => XS.ifNo X4.here hx rfl (hb hby at_154) rfl ((if0 _ _).trans (flt h1).2.2.1)) ?_
      show own_R p.tables e below _ T4 (mkF m 157 #[.val (.int a), .val (.int b), .val (.int cc), .val (.int k), .val (.int lo), .val (.int hi), .val (.long ((2 : Int64) * (lo.toInt64))), .second, .val (.long ((2 : Int64) * (hi.toInt64))), .second, .val (.int sel), .val (.long x2), .second, .val (.ref a3), .val (.double (FP.ddiv (FP.l2d x2) (4611686018427387904 : UInt64))), .second, .unset] [])
      refine own_go (fun _ => XS.lload X4.here hx rfl (hb hby at_157) rfl ) ?_
      show own_R p.tables e below _ T4 (mkF m 159 #[.val (.int a), .val (.int b), .val (.int cc), .val (.int k), .val (.int lo), .val (.int hi), .val (.long ((2 : Int64) * (lo.toInt64))), .second, .val (.long ((2 : Int64) * (hi.toInt64))), .second, .val (.int sel), .val (.long x2), .second, .val (.ref a3), .val (.double (FP.ddiv (FP.l2d x2) (4611686018427387904 : UInt64))), .second, .unset] [(.long x2)])
      refine own_go (fun _ => XS.lload X4.here hx rfl (hb hby at_159) rfl ) ?_
      show own_R p.tables e below _ T4 (mkF m 161 #[.val (.int a), .val (.int b), .val (.int cc), .val (.int k), .val (.int lo), .val (.int hi), .val (.long ((2 : Int64) * (lo.toInt64))), .second, .val (.long ((2 : Int64) * (hi.toInt64))), .second, .val (.int sel), .val (.long x2), .second, .val (.ref a3), .val (.double (FP.ddiv (FP.l2d x2) (4611686018427387904 : UInt64))), .second, .unset] [(.long ((2 : Int64) * (hi.toInt64))), (.long x2)])
      refine own_go (fun _ => XS.lcmp X4.here hx rfl (hb hby at_161) rfl) ?_
      show own_R p.tables e below _ T4 (mkF m 162 #[.val (.int a), .val (.int b), .val (.int cc), .val (.int k), .val (.int lo), .val (.int hi), .val (.long ((2 : Int64) * (lo.toInt64))), .second, .val (.long ((2 : Int64) * (hi.toInt64))), .second, .val (.int sel), .val (.long x2), .second, .val (.ref a3), .val (.double (FP.ddiv (FP.l2d x2) (4611686018427387904 : UInt64))), .second, .unset] [(.int (lcmpW x2 ((2 : Int64) * (hi.toInt64))))])
      by_cases h2 : (0 : Int32) < (lcmpW x2 ((2 : Int64) * (hi.toInt64)))
      · show own_R p.tables e below _ T4 (mkF m 162 #[.val (.int a), .val (.int b), .val (.int cc), .val (.int k), .val (.int lo), .val (.int hi), .val (.long ((2 : Int64) * (lo.toInt64))), .second, .val (.long ((2 : Int64) * (hi.toInt64))), .second, .val (.int sel), .val (.long x2), .second, .val (.ref a3), .val (.double (FP.ddiv (FP.l2d x2) (4611686018427387904 : UInt64))), .second, .unset] [(.int (lcmpW x2 ((2 : Int64) * (hi.toInt64))))])
        refine own_go (fun _ => XS.ifYes X4.here hx rfl (pc0 := 162) (pc' := 169) rfl (hb hby at_162) rfl ((if0 _ _).trans (tlt h2).2.2.1) (by decide) (by decide)) ?_
        show own_R p.tables e below _ T4 (mkF m 169 #[.val (.int a), .val (.int b), .val (.int cc), .val (.int k), .val (.int lo), .val (.int hi), .val (.long ((2 : Int64) * (lo.toInt64))), .second, .val (.long ((2 : Int64) * (hi.toInt64))), .second, .val (.int sel), .val (.long x2), .second, .val (.ref a3), .val (.double (FP.ddiv (FP.l2d x2) (4611686018427387904 : UInt64))), .second, .unset] [])
        refine own_go (fun _ => XS.iconst X4.here hx rfl (hb hby at_169)) ?_
        show own_R p.tables e below _ T4 (mkF m 170 #[.val (.int a), .val (.int b), .val (.int cc), .val (.int k), .val (.int lo), .val (.int hi), .val (.long ((2 : Int64) * (lo.toInt64))), .second, .val (.long ((2 : Int64) * (hi.toInt64))), .second, .val (.int sel), .val (.long x2), .second, .val (.ref a3), .val (.double (FP.ddiv (FP.l2d x2) (4611686018427387904 : UInt64))), .second, .unset] [(.int (0 : Int32))])
        exact J2 _ ((if_neg (mt (lw_gt _ _).mpr h1)).trans (if_pos ((lw_gt _ _).mp h2))).symm
      · show own_R p.tables e below _ T4 (mkF m 162 #[.val (.int a), .val (.int b), .val (.int cc), .val (.int k), .val (.int lo), .val (.int hi), .val (.long ((2 : Int64) * (lo.toInt64))), .second, .val (.long ((2 : Int64) * (hi.toInt64))), .second, .val (.int sel), .val (.long x2), .second, .val (.ref a3), .val (.double (FP.ddiv (FP.l2d x2) (4611686018427387904 : UInt64))), .second, .unset] [(.int (lcmpW x2 ((2 : Int64) * (hi.toInt64))))])
        refine own_go (fun _ => XS.ifNo X4.here hx rfl (hb hby at_162) rfl ((if0 _ _).trans (flt h2).2.2.1)) ?_
        show own_R p.tables e below _ T4 (mkF m 165 #[.val (.int a), .val (.int b), .val (.int cc), .val (.int k), .val (.int lo), .val (.int hi), .val (.long ((2 : Int64) * (lo.toInt64))), .second, .val (.long ((2 : Int64) * (hi.toInt64))), .second, .val (.int sel), .val (.long x2), .second, .val (.ref a3), .val (.double (FP.ddiv (FP.l2d x2) (4611686018427387904 : UInt64))), .second, .unset] [])
        refine own_go (fun _ => XS.iconst X4.here hx rfl (hb hby at_165)) ?_
        show own_R p.tables e below _ T4 (mkF m 166 #[.val (.int a), .val (.int b), .val (.int cc), .val (.int k), .val (.int lo), .val (.int hi), .val (.long ((2 : Int64) * (lo.toInt64))), .second, .val (.long ((2 : Int64) * (hi.toInt64))), .second, .val (.int sel), .val (.long x2), .second, .val (.ref a3), .val (.double (FP.ddiv (FP.l2d x2) (4611686018427387904 : UInt64))), .second, .unset] [(.int (1 : Int32))])
        refine own_go (fun _ => XS.goto X4.here hx rfl (pc0 := 166) (pc' := 170) rfl (hb hby at_166) (by decide) (by decide)) ?_
        show own_R p.tables e below _ T4 (mkF m 170 #[.val (.int a), .val (.int b), .val (.int cc), .val (.int k), .val (.int lo), .val (.int hi), .val (.long ((2 : Int64) * (lo.toInt64))), .second, .val (.long ((2 : Int64) * (hi.toInt64))), .second, .val (.int sel), .val (.long x2), .second, .val (.ref a3), .val (.double (FP.ddiv (FP.l2d x2) (4611686018427387904 : UInt64))), .second, .unset] [(.int (1 : Int32))])
        exact J2 _ ((if_neg (mt (lw_gt _ _).mpr h1)).trans (if_neg (mt (lw_gt _ _).mpr h2))).symm
  have hlo := own_l2 lo
  have hhi := own_l2 hi
  have hcc := own_l2 cc
  have r1 := rng32 lo
  have r2 := rng32 hi
  have r3 := rng32 cc
  have hone : (1 : Int64).toInt = 1 := by decide
  by_cases s0 : sel = (0 : Int32)
  · show own_R p.tables e below _ T2 (mkF m 43 #[.val (.int a), .val (.int b), .val (.int cc), .val (.int k), .val (.int lo), .val (.int hi), .val (.long ((2 : Int64) * (lo.toInt64))), .second, .val (.long ((2 : Int64) * (hi.toInt64))), .second, .val (.int sel), .unset, .unset, .unset, .unset, .unset, .unset] [(.int sel)])
    refine own_go (fun _ => XS.ifNo X2.here hx rfl (hb hby at_43) rfl ((if0 _ _).trans (teq s0).2)) ?_
    show own_R p.tables e below _ T2 (mkF m 46 #[.val (.int a), .val (.int b), .val (.int cc), .val (.int k), .val (.int lo), .val (.int hi), .val (.long ((2 : Int64) * (lo.toInt64))), .second, .val (.long ((2 : Int64) * (hi.toInt64))), .second, .val (.int sel), .unset, .unset, .unset, .unset, .unset, .unset] [])
    refine own_go (fun _ => XS.lload X2.here hx rfl (hb hby at_46) rfl ) ?_
    show own_R p.tables e below _ T2 (mkF m 48 #[.val (.int a), .val (.int b), .val (.int cc), .val (.int k), .val (.int lo), .val (.int hi), .val (.long ((2 : Int64) * (lo.toInt64))), .second, .val (.long ((2 : Int64) * (hi.toInt64))), .second, .val (.int sel), .unset, .unset, .unset, .unset, .unset, .unset] [(.long ((2 : Int64) * (lo.toInt64)))])
    refine own_go (fun _ => XS.lstore X2.here hx rfl (hb hby at_48) rfl (l' := #[.val (.int a), .val (.int b), .val (.int cc), .val (.int k), .val (.int lo), .val (.int hi), .val (.long ((2 : Int64) * (lo.toInt64))), .second, .val (.long ((2 : Int64) * (hi.toInt64))), .second, .val (.int sel), .val (.long ((2 : Int64) * (lo.toInt64))), .second, .unset, .unset, .unset, .unset]) rfl) ?_
    show own_R p.tables e below _ T2 (mkF m 50 #[.val (.int a), .val (.int b), .val (.int cc), .val (.int k), .val (.int lo), .val (.int hi), .val (.long ((2 : Int64) * (lo.toInt64))), .second, .val (.long ((2 : Int64) * (hi.toInt64))), .second, .val (.int sel), .val (.long ((2 : Int64) * (lo.toInt64))), .second, .unset, .unset, .unset, .unset] [])
    refine own_go (fun _ => XS.goto X2.here hx rfl (pc0 := 50) (pc' := 123) rfl (hb hby at_50) (by decide) (by decide)) ?_
    show own_R p.tables e below _ T2 (mkF m 123 #[.val (.int a), .val (.int b), .val (.int cc), .val (.int k), .val (.int lo), .val (.int hi), .val (.long ((2 : Int64) * (lo.toInt64))), .second, .val (.long ((2 : Int64) * (hi.toInt64))), .second, .val (.int sel), .val (.long ((2 : Int64) * (lo.toInt64))), .second, .unset, .unset, .unset, .unset] [])
    exact J _ (by omega)
  · show own_R p.tables e below _ T2 (mkF m 43 #[.val (.int a), .val (.int b), .val (.int cc), .val (.int k), .val (.int lo), .val (.int hi), .val (.long ((2 : Int64) * (lo.toInt64))), .second, .val (.long ((2 : Int64) * (hi.toInt64))), .second, .val (.int sel), .unset, .unset, .unset, .unset, .unset, .unset] [(.int sel)])
    refine own_go (fun _ => XS.ifYes X2.here hx rfl (pc0 := 43) (pc' := 53) rfl (hb hby at_43) rfl ((if0 _ _).trans (feq s0).2) (by decide) (by decide)) ?_
    show own_R p.tables e below _ T2 (mkF m 53 #[.val (.int a), .val (.int b), .val (.int cc), .val (.int k), .val (.int lo), .val (.int hi), .val (.long ((2 : Int64) * (lo.toInt64))), .second, .val (.long ((2 : Int64) * (hi.toInt64))), .second, .val (.int sel), .unset, .unset, .unset, .unset, .unset, .unset] [])
    refine own_go (fun _ => XS.iload X2.here hx rfl (hb hby at_53) rfl ) ?_
    show own_R p.tables e below _ T2 (mkF m 55 #[.val (.int a), .val (.int b), .val (.int cc), .val (.int k), .val (.int lo), .val (.int hi), .val (.long ((2 : Int64) * (lo.toInt64))), .second, .val (.long ((2 : Int64) * (hi.toInt64))), .second, .val (.int sel), .unset, .unset, .unset, .unset, .unset, .unset] [(.int sel)])
    refine own_go (fun _ => XS.iconst X2.here hx rfl (hb hby at_55)) ?_
    show own_R p.tables e below _ T2 (mkF m 56 #[.val (.int a), .val (.int b), .val (.int cc), .val (.int k), .val (.int lo), .val (.int hi), .val (.long ((2 : Int64) * (lo.toInt64))), .second, .val (.long ((2 : Int64) * (hi.toInt64))), .second, .val (.int sel), .unset, .unset, .unset, .unset, .unset, .unset] [(.int (1 : Int32)), (.int sel)])
    by_cases s1 : sel = (1 : Int32)
    · show own_R p.tables e below _ T2 (mkF m 56 #[.val (.int a), .val (.int b), .val (.int cc), .val (.int k), .val (.int lo), .val (.int hi), .val (.long ((2 : Int64) * (lo.toInt64))), .second, .val (.long ((2 : Int64) * (hi.toInt64))), .second, .val (.int sel), .unset, .unset, .unset, .unset, .unset, .unset] [(.int (1 : Int32)), (.int sel)])
      refine own_go (fun _ => XS.icmpNo X2.here hx rfl (hb hby at_56) rfl (teq s1).2) ?_
      show own_R p.tables e below _ T2 (mkF m 59 #[.val (.int a), .val (.int b), .val (.int cc), .val (.int k), .val (.int lo), .val (.int hi), .val (.long ((2 : Int64) * (lo.toInt64))), .second, .val (.long ((2 : Int64) * (hi.toInt64))), .second, .val (.int sel), .unset, .unset, .unset, .unset, .unset, .unset] [])
      refine own_go (fun _ => XS.lload X2.here hx rfl (hb hby at_59) rfl ) ?_
      show own_R p.tables e below _ T2 (mkF m 61 #[.val (.int a), .val (.int b), .val (.int cc), .val (.int k), .val (.int lo), .val (.int hi), .val (.long ((2 : Int64) * (lo.toInt64))), .second, .val (.long ((2 : Int64) * (hi.toInt64))), .second, .val (.int sel), .unset, .unset, .unset, .unset, .unset, .unset] [(.long ((2 : Int64) * (lo.toInt64)))])
      refine own_go (fun _ => XS.lconst X2.here hx rfl (hb hby at_61)) ?_
      show own_R p.tables e below _ T2 (mkF m 62 #[.val (.int a), .val (.int b), .val (.int cc), .val (.int k), .val (.int lo), .val (.int hi), .val (.long ((2 : Int64) * (lo.toInt64))), .second, .val (.long ((2 : Int64) * (hi.toInt64))), .second, .val (.int sel), .unset, .unset, .unset, .unset, .unset, .unset] [(.long (1 : Int64)), (.long ((2 : Int64) * (lo.toInt64)))])
      refine own_go (fun _ => XS.lsub X2.here hx rfl (hb hby at_62) rfl) ?_
      show own_R p.tables e below _ T2 (mkF m 63 #[.val (.int a), .val (.int b), .val (.int cc), .val (.int k), .val (.int lo), .val (.int hi), .val (.long ((2 : Int64) * (lo.toInt64))), .second, .val (.long ((2 : Int64) * (hi.toInt64))), .second, .val (.int sel), .unset, .unset, .unset, .unset, .unset, .unset] [(.long (((2 : Int64) * (lo.toInt64)) - (1 : Int64)))])
      refine own_go (fun _ => XS.lstore X2.here hx rfl (hb hby at_63) rfl (l' := #[.val (.int a), .val (.int b), .val (.int cc), .val (.int k), .val (.int lo), .val (.int hi), .val (.long ((2 : Int64) * (lo.toInt64))), .second, .val (.long ((2 : Int64) * (hi.toInt64))), .second, .val (.int sel), .val (.long (((2 : Int64) * (lo.toInt64)) - (1 : Int64))), .second, .unset, .unset, .unset, .unset]) rfl) ?_
      show own_R p.tables e below _ T2 (mkF m 65 #[.val (.int a), .val (.int b), .val (.int cc), .val (.int k), .val (.int lo), .val (.int hi), .val (.long ((2 : Int64) * (lo.toInt64))), .second, .val (.long ((2 : Int64) * (hi.toInt64))), .second, .val (.int sel), .val (.long (((2 : Int64) * (lo.toInt64)) - (1 : Int64))), .second, .unset, .unset, .unset, .unset] [])
      refine own_go (fun _ => XS.goto X2.here hx rfl (pc0 := 65) (pc' := 123) rfl (hb hby at_65) (by decide) (by decide)) ?_
      show own_R p.tables e below _ T2 (mkF m 123 #[.val (.int a), .val (.int b), .val (.int cc), .val (.int k), .val (.int lo), .val (.int hi), .val (.long ((2 : Int64) * (lo.toInt64))), .second, .val (.long ((2 : Int64) * (hi.toInt64))), .second, .val (.int sel), .val (.long (((2 : Int64) * (lo.toInt64)) - (1 : Int64))), .second, .unset, .unset, .unset, .unset] [])
      exact J _ (by have q := c_lsub ((2 : Int64) * (lo.toInt64)) (1 : Int64); have q2 := rng64 (((2 : Int64) * (lo.toInt64)) - (1 : Int64)); omega)
    · show own_R p.tables e below _ T2 (mkF m 56 #[.val (.int a), .val (.int b), .val (.int cc), .val (.int k), .val (.int lo), .val (.int hi), .val (.long ((2 : Int64) * (lo.toInt64))), .second, .val (.long ((2 : Int64) * (hi.toInt64))), .second, .val (.int sel), .unset, .unset, .unset, .unset, .unset, .unset] [(.int (1 : Int32)), (.int sel)])
      refine own_go (fun _ => XS.icmpYes X2.here hx rfl (pc0 := 56) (pc' := 68) rfl (hb hby at_56) rfl (feq s1).2 (by decide) (by decide)) ?_
      show own_R p.tables e below _ T2 (mkF m 68 #[.val (.int a), .val (.int b), .val (.int cc), .val (.int k), .val (.int lo), .val (.int hi), .val (.long ((2 : Int64) * (lo.toInt64))), .second, .val (.long ((2 : Int64) * (hi.toInt64))), .second, .val (.int sel), .unset, .unset, .unset, .unset, .unset, .unset] [])
      refine own_go (fun _ => XS.iload X2.here hx rfl (hb hby at_68) rfl ) ?_
      show own_R p.tables e below _ T2 (mkF m 70 #[.val (.int a), .val (.int b), .val (.int cc), .val (.int k), .val (.int lo), .val (.int hi), .val (.long ((2 : Int64) * (lo.toInt64))), .second, .val (.long ((2 : Int64) * (hi.toInt64))), .second, .val (.int sel), .unset, .unset, .unset, .unset, .unset, .unset] [(.int sel)])
      refine own_go (fun _ => XS.iconst X2.here hx rfl (hb hby at_70)) ?_
      show own_R p.tables e below _ T2 (mkF m 71 #[.val (.int a), .val (.int b), .val (.int cc), .val (.int k), .val (.int lo), .val (.int hi), .val (.long ((2 : Int64) * (lo.toInt64))), .second, .val (.long ((2 : Int64) * (hi.toInt64))), .second, .val (.int sel), .unset, .unset, .unset, .unset, .unset, .unset] [(.int (2 : Int32)), (.int sel)])
      by_cases s2 : sel = (2 : Int32)
      · show own_R p.tables e below _ T2 (mkF m 71 #[.val (.int a), .val (.int b), .val (.int cc), .val (.int k), .val (.int lo), .val (.int hi), .val (.long ((2 : Int64) * (lo.toInt64))), .second, .val (.long ((2 : Int64) * (hi.toInt64))), .second, .val (.int sel), .unset, .unset, .unset, .unset, .unset, .unset] [(.int (2 : Int32)), (.int sel)])
        refine own_go (fun _ => XS.icmpNo X2.here hx rfl (hb hby at_71) rfl (teq s2).2) ?_
        show own_R p.tables e below _ T2 (mkF m 74 #[.val (.int a), .val (.int b), .val (.int cc), .val (.int k), .val (.int lo), .val (.int hi), .val (.long ((2 : Int64) * (lo.toInt64))), .second, .val (.long ((2 : Int64) * (hi.toInt64))), .second, .val (.int sel), .unset, .unset, .unset, .unset, .unset, .unset] [])
        refine own_go (fun _ => XS.lload X2.here hx rfl (hb hby at_74) rfl ) ?_
        show own_R p.tables e below _ T2 (mkF m 76 #[.val (.int a), .val (.int b), .val (.int cc), .val (.int k), .val (.int lo), .val (.int hi), .val (.long ((2 : Int64) * (lo.toInt64))), .second, .val (.long ((2 : Int64) * (hi.toInt64))), .second, .val (.int sel), .unset, .unset, .unset, .unset, .unset, .unset] [(.long ((2 : Int64) * (hi.toInt64)))])
        refine own_go (fun _ => XS.lstore X2.here hx rfl (hb hby at_76) rfl (l' := #[.val (.int a), .val (.int b), .val (.int cc), .val (.int k), .val (.int lo), .val (.int hi), .val (.long ((2 : Int64) * (lo.toInt64))), .second, .val (.long ((2 : Int64) * (hi.toInt64))), .second, .val (.int sel), .val (.long ((2 : Int64) * (hi.toInt64))), .second, .unset, .unset, .unset, .unset]) rfl) ?_
        show own_R p.tables e below _ T2 (mkF m 78 #[.val (.int a), .val (.int b), .val (.int cc), .val (.int k), .val (.int lo), .val (.int hi), .val (.long ((2 : Int64) * (lo.toInt64))), .second, .val (.long ((2 : Int64) * (hi.toInt64))), .second, .val (.int sel), .val (.long ((2 : Int64) * (hi.toInt64))), .second, .unset, .unset, .unset, .unset] [])
        refine own_go (fun _ => XS.goto X2.here hx rfl (pc0 := 78) (pc' := 123) rfl (hb hby at_78) (by decide) (by decide)) ?_
        show own_R p.tables e below _ T2 (mkF m 123 #[.val (.int a), .val (.int b), .val (.int cc), .val (.int k), .val (.int lo), .val (.int hi), .val (.long ((2 : Int64) * (lo.toInt64))), .second, .val (.long ((2 : Int64) * (hi.toInt64))), .second, .val (.int sel), .val (.long ((2 : Int64) * (hi.toInt64))), .second, .unset, .unset, .unset, .unset] [])
        exact J _ (by omega)
      · show own_R p.tables e below _ T2 (mkF m 71 #[.val (.int a), .val (.int b), .val (.int cc), .val (.int k), .val (.int lo), .val (.int hi), .val (.long ((2 : Int64) * (lo.toInt64))), .second, .val (.long ((2 : Int64) * (hi.toInt64))), .second, .val (.int sel), .unset, .unset, .unset, .unset, .unset, .unset] [(.int (2 : Int32)), (.int sel)])
        refine own_go (fun _ => XS.icmpYes X2.here hx rfl (pc0 := 71) (pc' := 81) rfl (hb hby at_71) rfl (feq s2).2 (by decide) (by decide)) ?_
        show own_R p.tables e below _ T2 (mkF m 81 #[.val (.int a), .val (.int b), .val (.int cc), .val (.int k), .val (.int lo), .val (.int hi), .val (.long ((2 : Int64) * (lo.toInt64))), .second, .val (.long ((2 : Int64) * (hi.toInt64))), .second, .val (.int sel), .unset, .unset, .unset, .unset, .unset, .unset] [])
        refine own_go (fun _ => XS.iload X2.here hx rfl (hb hby at_81) rfl ) ?_
        show own_R p.tables e below _ T2 (mkF m 83 #[.val (.int a), .val (.int b), .val (.int cc), .val (.int k), .val (.int lo), .val (.int hi), .val (.long ((2 : Int64) * (lo.toInt64))), .second, .val (.long ((2 : Int64) * (hi.toInt64))), .second, .val (.int sel), .unset, .unset, .unset, .unset, .unset, .unset] [(.int sel)])
        refine own_go (fun _ => XS.iconst X2.here hx rfl (hb hby at_83)) ?_
        show own_R p.tables e below _ T2 (mkF m 84 #[.val (.int a), .val (.int b), .val (.int cc), .val (.int k), .val (.int lo), .val (.int hi), .val (.long ((2 : Int64) * (lo.toInt64))), .second, .val (.long ((2 : Int64) * (hi.toInt64))), .second, .val (.int sel), .unset, .unset, .unset, .unset, .unset, .unset] [(.int (3 : Int32)), (.int sel)])
        by_cases s3 : sel = (3 : Int32)
        · show own_R p.tables e below _ T2 (mkF m 84 #[.val (.int a), .val (.int b), .val (.int cc), .val (.int k), .val (.int lo), .val (.int hi), .val (.long ((2 : Int64) * (lo.toInt64))), .second, .val (.long ((2 : Int64) * (hi.toInt64))), .second, .val (.int sel), .unset, .unset, .unset, .unset, .unset, .unset] [(.int (3 : Int32)), (.int sel)])
          refine own_go (fun _ => XS.icmpNo X2.here hx rfl (hb hby at_84) rfl (teq s3).2) ?_
          show own_R p.tables e below _ T2 (mkF m 87 #[.val (.int a), .val (.int b), .val (.int cc), .val (.int k), .val (.int lo), .val (.int hi), .val (.long ((2 : Int64) * (lo.toInt64))), .second, .val (.long ((2 : Int64) * (hi.toInt64))), .second, .val (.int sel), .unset, .unset, .unset, .unset, .unset, .unset] [])
          refine own_go (fun _ => XS.lload X2.here hx rfl (hb hby at_87) rfl ) ?_
          show own_R p.tables e below _ T2 (mkF m 89 #[.val (.int a), .val (.int b), .val (.int cc), .val (.int k), .val (.int lo), .val (.int hi), .val (.long ((2 : Int64) * (lo.toInt64))), .second, .val (.long ((2 : Int64) * (hi.toInt64))), .second, .val (.int sel), .unset, .unset, .unset, .unset, .unset, .unset] [(.long ((2 : Int64) * (hi.toInt64)))])
          refine own_go (fun _ => XS.lconst X2.here hx rfl (hb hby at_89)) ?_
          show own_R p.tables e below _ T2 (mkF m 90 #[.val (.int a), .val (.int b), .val (.int cc), .val (.int k), .val (.int lo), .val (.int hi), .val (.long ((2 : Int64) * (lo.toInt64))), .second, .val (.long ((2 : Int64) * (hi.toInt64))), .second, .val (.int sel), .unset, .unset, .unset, .unset, .unset, .unset] [(.long (1 : Int64)), (.long ((2 : Int64) * (hi.toInt64)))])
          refine own_go (fun _ => XS.ladd X2.here hx rfl (hb hby at_90) rfl) ?_
          show own_R p.tables e below _ T2 (mkF m 91 #[.val (.int a), .val (.int b), .val (.int cc), .val (.int k), .val (.int lo), .val (.int hi), .val (.long ((2 : Int64) * (lo.toInt64))), .second, .val (.long ((2 : Int64) * (hi.toInt64))), .second, .val (.int sel), .unset, .unset, .unset, .unset, .unset, .unset] [(.long (((2 : Int64) * (hi.toInt64)) + (1 : Int64)))])
          refine own_go (fun _ => XS.lstore X2.here hx rfl (hb hby at_91) rfl (l' := #[.val (.int a), .val (.int b), .val (.int cc), .val (.int k), .val (.int lo), .val (.int hi), .val (.long ((2 : Int64) * (lo.toInt64))), .second, .val (.long ((2 : Int64) * (hi.toInt64))), .second, .val (.int sel), .val (.long (((2 : Int64) * (hi.toInt64)) + (1 : Int64))), .second, .unset, .unset, .unset, .unset]) rfl) ?_
          show own_R p.tables e below _ T2 (mkF m 93 #[.val (.int a), .val (.int b), .val (.int cc), .val (.int k), .val (.int lo), .val (.int hi), .val (.long ((2 : Int64) * (lo.toInt64))), .second, .val (.long ((2 : Int64) * (hi.toInt64))), .second, .val (.int sel), .val (.long (((2 : Int64) * (hi.toInt64)) + (1 : Int64))), .second, .unset, .unset, .unset, .unset] [])
          refine own_go (fun _ => XS.goto X2.here hx rfl (pc0 := 93) (pc' := 123) rfl (hb hby at_93) (by decide) (by decide)) ?_
          show own_R p.tables e below _ T2 (mkF m 123 #[.val (.int a), .val (.int b), .val (.int cc), .val (.int k), .val (.int lo), .val (.int hi), .val (.long ((2 : Int64) * (lo.toInt64))), .second, .val (.long ((2 : Int64) * (hi.toInt64))), .second, .val (.int sel), .val (.long (((2 : Int64) * (hi.toInt64)) + (1 : Int64))), .second, .unset, .unset, .unset, .unset] [])
          exact J _ (by have q := c_ladd ((2 : Int64) * (hi.toInt64)) (1 : Int64); have q2 := rng64 (((2 : Int64) * (hi.toInt64)) + (1 : Int64)); omega)
        · show own_R p.tables e below _ T2 (mkF m 84 #[.val (.int a), .val (.int b), .val (.int cc), .val (.int k), .val (.int lo), .val (.int hi), .val (.long ((2 : Int64) * (lo.toInt64))), .second, .val (.long ((2 : Int64) * (hi.toInt64))), .second, .val (.int sel), .unset, .unset, .unset, .unset, .unset, .unset] [(.int (3 : Int32)), (.int sel)])
          refine own_go (fun _ => XS.icmpYes X2.here hx rfl (pc0 := 84) (pc' := 96) rfl (hb hby at_84) rfl (feq s3).2 (by decide) (by decide)) ?_
          show own_R p.tables e below _ T2 (mkF m 96 #[.val (.int a), .val (.int b), .val (.int cc), .val (.int k), .val (.int lo), .val (.int hi), .val (.long ((2 : Int64) * (lo.toInt64))), .second, .val (.long ((2 : Int64) * (hi.toInt64))), .second, .val (.int sel), .unset, .unset, .unset, .unset, .unset, .unset] [])
          refine own_go (fun _ => XS.iload X2.here hx rfl (hb hby at_96) rfl ) ?_
          show own_R p.tables e below _ T2 (mkF m 98 #[.val (.int a), .val (.int b), .val (.int cc), .val (.int k), .val (.int lo), .val (.int hi), .val (.long ((2 : Int64) * (lo.toInt64))), .second, .val (.long ((2 : Int64) * (hi.toInt64))), .second, .val (.int sel), .unset, .unset, .unset, .unset, .unset, .unset] [(.int sel)])
          refine own_go (fun _ => XS.iconst X2.here hx rfl (hb hby at_98)) ?_
          show own_R p.tables e below _ T2 (mkF m 99 #[.val (.int a), .val (.int b), .val (.int cc), .val (.int k), .val (.int lo), .val (.int hi), .val (.long ((2 : Int64) * (lo.toInt64))), .second, .val (.long ((2 : Int64) * (hi.toInt64))), .second, .val (.int sel), .unset, .unset, .unset, .unset, .unset, .unset] [(.int (4 : Int32)), (.int sel)])
          by_cases s4 : sel = (4 : Int32)
          · show own_R p.tables e below _ T2 (mkF m 99 #[.val (.int a), .val (.int b), .val (.int cc), .val (.int k), .val (.int lo), .val (.int hi), .val (.long ((2 : Int64) * (lo.toInt64))), .second, .val (.long ((2 : Int64) * (hi.toInt64))), .second, .val (.int sel), .unset, .unset, .unset, .unset, .unset, .unset] [(.int (4 : Int32)), (.int sel)])
            refine own_go (fun _ => XS.icmpNo X2.here hx rfl (hb hby at_99) rfl (teq s4).2) ?_
            show own_R p.tables e below _ T2 (mkF m 102 #[.val (.int a), .val (.int b), .val (.int cc), .val (.int k), .val (.int lo), .val (.int hi), .val (.long ((2 : Int64) * (lo.toInt64))), .second, .val (.long ((2 : Int64) * (hi.toInt64))), .second, .val (.int sel), .unset, .unset, .unset, .unset, .unset, .unset] [])
            refine own_go (X2.ldc2Long hx hown (mvT hZ (hw _ (List.mem_of_getElem? (i := 7) rfl))) (g := (mkF m 102 #[.val (.int a), .val (.int b), .val (.int cc), .val (.int k), .val (.int lo), .val (.int hi), .val (.long ((2 : Int64) * (lo.toInt64))), .second, .val (.long ((2 : Int64) * (hi.toInt64))), .second, .val (.int sel), .unset, .unset, .unset, .unset, .unset, .unset] [])) rfl (hb hby at_102)) ?_
            show own_R p.tables e below _ T2 (mkF m 105 #[.val (.int a), .val (.int b), .val (.int cc), .val (.int k), .val (.int lo), .val (.int hi), .val (.long ((2 : Int64) * (lo.toInt64))), .second, .val (.long ((2 : Int64) * (hi.toInt64))), .second, .val (.int sel), .unset, .unset, .unset, .unset, .unset, .unset] [(.long (2 : Int64))])
            refine own_go (fun _ => XS.iloadN X2.here hx rfl (hb hby at_105) rfl ) ?_
            show own_R p.tables e below _ T2 (mkF m 106 #[.val (.int a), .val (.int b), .val (.int cc), .val (.int k), .val (.int lo), .val (.int hi), .val (.long ((2 : Int64) * (lo.toInt64))), .second, .val (.long ((2 : Int64) * (hi.toInt64))), .second, .val (.int sel), .unset, .unset, .unset, .unset, .unset, .unset] [(.int cc), (.long (2 : Int64))])
            refine own_go (fun _ => XS.i2l X2.here hx rfl (hb hby at_106) rfl) ?_
            show own_R p.tables e below _ T2 (mkF m 107 #[.val (.int a), .val (.int b), .val (.int cc), .val (.int k), .val (.int lo), .val (.int hi), .val (.long ((2 : Int64) * (lo.toInt64))), .second, .val (.long ((2 : Int64) * (hi.toInt64))), .second, .val (.int sel), .unset, .unset, .unset, .unset, .unset, .unset] [(.long (cc.toInt64)), (.long (2 : Int64))])
            refine own_go (fun _ => XS.lmul X2.here hx rfl (hb hby at_107) rfl) ?_
            show own_R p.tables e below _ T2 (mkF m 108 #[.val (.int a), .val (.int b), .val (.int cc), .val (.int k), .val (.int lo), .val (.int hi), .val (.long ((2 : Int64) * (lo.toInt64))), .second, .val (.long ((2 : Int64) * (hi.toInt64))), .second, .val (.int sel), .unset, .unset, .unset, .unset, .unset, .unset] [(.long ((2 : Int64) * (cc.toInt64)))])
            refine own_go (fun _ => XS.lstore X2.here hx rfl (hb hby at_108) rfl (l' := #[.val (.int a), .val (.int b), .val (.int cc), .val (.int k), .val (.int lo), .val (.int hi), .val (.long ((2 : Int64) * (lo.toInt64))), .second, .val (.long ((2 : Int64) * (hi.toInt64))), .second, .val (.int sel), .val (.long ((2 : Int64) * (cc.toInt64))), .second, .unset, .unset, .unset, .unset]) rfl) ?_
            show own_R p.tables e below _ T2 (mkF m 110 #[.val (.int a), .val (.int b), .val (.int cc), .val (.int k), .val (.int lo), .val (.int hi), .val (.long ((2 : Int64) * (lo.toInt64))), .second, .val (.long ((2 : Int64) * (hi.toInt64))), .second, .val (.int sel), .val (.long ((2 : Int64) * (cc.toInt64))), .second, .unset, .unset, .unset, .unset] [])
            refine own_go (fun _ => XS.goto X2.here hx rfl (pc0 := 110) (pc' := 123) rfl (hb hby at_110) (by decide) (by decide)) ?_
            show own_R p.tables e below _ T2 (mkF m 123 #[.val (.int a), .val (.int b), .val (.int cc), .val (.int k), .val (.int lo), .val (.int hi), .val (.long ((2 : Int64) * (lo.toInt64))), .second, .val (.long ((2 : Int64) * (hi.toInt64))), .second, .val (.int sel), .val (.long ((2 : Int64) * (cc.toInt64))), .second, .unset, .unset, .unset, .unset] [])
            exact J _ (by omega)
          · show own_R p.tables e below _ T2 (mkF m 99 #[.val (.int a), .val (.int b), .val (.int cc), .val (.int k), .val (.int lo), .val (.int hi), .val (.long ((2 : Int64) * (lo.toInt64))), .second, .val (.long ((2 : Int64) * (hi.toInt64))), .second, .val (.int sel), .unset, .unset, .unset, .unset, .unset, .unset] [(.int (4 : Int32)), (.int sel)])
            refine own_go (fun _ => XS.icmpYes X2.here hx rfl (pc0 := 99) (pc' := 113) rfl (hb hby at_99) rfl (feq s4).2 (by decide) (by decide)) ?_
            show own_R p.tables e below _ T2 (mkF m 113 #[.val (.int a), .val (.int b), .val (.int cc), .val (.int k), .val (.int lo), .val (.int hi), .val (.long ((2 : Int64) * (lo.toInt64))), .second, .val (.long ((2 : Int64) * (hi.toInt64))), .second, .val (.int sel), .unset, .unset, .unset, .unset, .unset, .unset] [])
            refine own_go (X2.ldc2Long hx hown (mvT hZ (hw _ (List.mem_of_getElem? (i := 7) rfl))) (g := (mkF m 113 #[.val (.int a), .val (.int b), .val (.int cc), .val (.int k), .val (.int lo), .val (.int hi), .val (.long ((2 : Int64) * (lo.toInt64))), .second, .val (.long ((2 : Int64) * (hi.toInt64))), .second, .val (.int sel), .unset, .unset, .unset, .unset, .unset, .unset] [])) rfl (hb hby at_113)) ?_
            show own_R p.tables e below _ T2 (mkF m 116 #[.val (.int a), .val (.int b), .val (.int cc), .val (.int k), .val (.int lo), .val (.int hi), .val (.long ((2 : Int64) * (lo.toInt64))), .second, .val (.long ((2 : Int64) * (hi.toInt64))), .second, .val (.int sel), .unset, .unset, .unset, .unset, .unset, .unset] [(.long (2 : Int64))])
            refine own_go (fun _ => XS.iloadN X2.here hx rfl (hb hby at_116) rfl ) ?_
            show own_R p.tables e below _ T2 (mkF m 117 #[.val (.int a), .val (.int b), .val (.int cc), .val (.int k), .val (.int lo), .val (.int hi), .val (.long ((2 : Int64) * (lo.toInt64))), .second, .val (.long ((2 : Int64) * (hi.toInt64))), .second, .val (.int sel), .unset, .unset, .unset, .unset, .unset, .unset] [(.int cc), (.long (2 : Int64))])
            refine own_go (fun _ => XS.i2l X2.here hx rfl (hb hby at_117) rfl) ?_
            show own_R p.tables e below _ T2 (mkF m 118 #[.val (.int a), .val (.int b), .val (.int cc), .val (.int k), .val (.int lo), .val (.int hi), .val (.long ((2 : Int64) * (lo.toInt64))), .second, .val (.long ((2 : Int64) * (hi.toInt64))), .second, .val (.int sel), .unset, .unset, .unset, .unset, .unset, .unset] [(.long (cc.toInt64)), (.long (2 : Int64))])
            refine own_go (fun _ => XS.lmul X2.here hx rfl (hb hby at_118) rfl) ?_
            show own_R p.tables e below _ T2 (mkF m 119 #[.val (.int a), .val (.int b), .val (.int cc), .val (.int k), .val (.int lo), .val (.int hi), .val (.long ((2 : Int64) * (lo.toInt64))), .second, .val (.long ((2 : Int64) * (hi.toInt64))), .second, .val (.int sel), .unset, .unset, .unset, .unset, .unset, .unset] [(.long ((2 : Int64) * (cc.toInt64)))])
            refine own_go (fun _ => XS.lconst X2.here hx rfl (hb hby at_119)) ?_
            show own_R p.tables e below _ T2 (mkF m 120 #[.val (.int a), .val (.int b), .val (.int cc), .val (.int k), .val (.int lo), .val (.int hi), .val (.long ((2 : Int64) * (lo.toInt64))), .second, .val (.long ((2 : Int64) * (hi.toInt64))), .second, .val (.int sel), .unset, .unset, .unset, .unset, .unset, .unset] [(.long (1 : Int64)), (.long ((2 : Int64) * (cc.toInt64)))])
            refine own_go (fun _ => XS.ladd X2.here hx rfl (hb hby at_120) rfl) ?_
            show own_R p.tables e below _ T2 (mkF m 121 #[.val (.int a), .val (.int b), .val (.int cc), .val (.int k), .val (.int lo), .val (.int hi), .val (.long ((2 : Int64) * (lo.toInt64))), .second, .val (.long ((2 : Int64) * (hi.toInt64))), .second, .val (.int sel), .unset, .unset, .unset, .unset, .unset, .unset] [(.long (((2 : Int64) * (cc.toInt64)) + (1 : Int64)))])
            refine own_go (fun _ => XS.lstore X2.here hx rfl (hb hby at_121) rfl (l' := #[.val (.int a), .val (.int b), .val (.int cc), .val (.int k), .val (.int lo), .val (.int hi), .val (.long ((2 : Int64) * (lo.toInt64))), .second, .val (.long ((2 : Int64) * (hi.toInt64))), .second, .val (.int sel), .val (.long (((2 : Int64) * (cc.toInt64)) + (1 : Int64))), .second, .unset, .unset, .unset, .unset]) rfl) ?_
            show own_R p.tables e below _ T2 (mkF m 123 #[.val (.int a), .val (.int b), .val (.int cc), .val (.int k), .val (.int lo), .val (.int hi), .val (.long ((2 : Int64) * (lo.toInt64))), .second, .val (.long ((2 : Int64) * (hi.toInt64))), .second, .val (.int sel), .val (.long (((2 : Int64) * (cc.toInt64)) + (1 : Int64))), .second, .unset, .unset, .unset, .unset] [])
            exact J _ (by have q := c_ladd ((2 : Int64) * (cc.toInt64)) (1 : Int64); have q2 := rng64 (((2 : Int64) * (cc.toInt64)) + (1 : Int64)); omega)
set_option maxRecDepth 65536 in
set_option maxHeartbeats 40000000 in
theorem comes_1 {Post : Tables → Env → Array Value → State → Outcome → State → Prop} (hpost : ∀ tb e args s v u, (limb_1_1.after args s (.returned v) u = true ∧ limb_1_2.after args s (.returned v) u = true ∧ True) → FrameEnd s (.returned v) u (Jvm.fieldLocs frame_1_writes args s ++ Jvm.arrayLocs frame_1_arrays args s ++ Jvm.staticLocs frame_1_statics s) 16 128 → Post tb e args s (.returned v) u) :
    ArmFor flags0 classFile x code maxLocals ret World_1 tables_1 room_1 Calls_1 rest_1 Pre_1 Post := by
  intro l hfl _ _ p e ha hc hk s m args below hf hA hF happ hP
  obtain ⟨hcalls, hrest, hpre⟩ := hP
  obtain ⟨-, -, -, hnamed, -, -, -, hat⟩ := (Spec.applies_iff hf).mp happ
  obtain ⟨hg, hn⟩ := and_e (Cond.before_iff.mp (show (Jvm.Cond.and given_1 narrow_1).before args s = true from hpre))
  obtain ⟨gc, q0⟩ := and_e hg
  obtain ⟨g0, q1⟩ := and_e q0
  obtain ⟨g1, q2⟩ := and_e q1
  obtain ⟨g2, q3⟩ := and_e q2
  have g3 := q3
  obtain ⟨w0, w1, w2, w3, rfl⟩ : ∃ w0 w1 w2 w3 : Value, args = #[w0, w1, w2, w3] := by
    have hs : args.size = 4 := by simpa [Cond.value, given_1] using gc
    obtain ⟨L⟩ := args
    match L, hs with
    | [w0, w1, w2, w3], _ => exact ⟨w0, w1, w2, w3, rfl⟩
  have hw := fun d (hd : d ∈ tables_1) => atoms_spec (ws := Jvm.Cond.code x code maxLocals ret :: tables_1) hat d (List.mem_cons_of_mem _ hd)
  have hfit : Fit s := fun {y c} hc i hi => by
    obtain ⟨ha, rfl⟩ := Array.getElem?_eq_some_iff.mp hc
    have q := List.all_eq_true.mp ((Array.all_eq_true_iff_forall_mem.mp hF) _ (Array.getElem_mem ha)) i (List.mem_range.mpr hi)
    simpa [Array.getElem?_eq_getElem hi] using q
  obtain ⟨i0, ei0⟩ := is_v g0
  obtain rfl : w0 = (.int i0) := Option.some.inj ei0
  obtain ⟨i1, ei1⟩ := is_v g1
  obtain rfl : w1 = (.int i1) := Option.some.inj ei1
  obtain ⟨i2, ei2⟩ := is_v g2
  obtain rfl : w2 = (.int i2) := Option.some.inj ei2
  obtain ⟨i3, ei3⟩ := is_v g3
  obtain rfl : w3 = (.int i3) := Option.some.inj ei3
  obtain ⟨n, o, h1, h2, h3, _, L, rfl, ⟨rfl, N⟩, hq⟩ := rm0 l s _ hw tables_1 s.heap s.heap.size i0 i1 i2 i3 (Nat.le_refl _) p e ha hc hk s m _ below hf ((Spec.applies_iff_loose hf).mp happ).1 ⟨rfl, State.Warmed39.refl s, rfl⟩ trivial
  refine ⟨n, _, h1, h2, h3, hpost _ _ _ _ _ _ ⟨Cond.after_iff.mpr rfl, Cond.after_iff.mpr (eq_i res_at (Term.int_eval (1)) rfl), trivial⟩ ⟨hq.1, hq.2.1, (hq.2.2.sift fun y hy => Or.inr (N y hy)).mono (by decide) (by decide)⟩⟩
theorem main_1_1 : Claimed_1_1 := comes_1 fun _ _ _ _ _ _ h hF => ⟨h.1, hF⟩
theorem main_1_2 : Claimed_1_2 := comes_1 fun _ _ _ _ _ _ h hF => ⟨h.2.1, hF⟩

end Jvm.Pilot.@@N@@
namespace Jvm.Pilot.@@N@@
open Jvm Jvm.ClassFile Sem Op Lib Jvm.Free Jvm.Stand Jvm.Pilot.@@N@@.Jvm.D
/-! MADE BY PROGRAM (witnessworld.py) out of the Statement's table words and the real class files: 11 classes; the members and pool entries that the words name. The judged class is class 1, her method 1. -/
namespace start1
open Jvm.ClassFile
def u (s : String) : CpInfo := .utf8 (stringToUtf16 s)
/-- a pool by its gaps: so many unusable entries, then the entry; so many at the end -/
def gap : Nat → List CpInfo → List CpInfo
  | 0, r => r
  | n + 1, r => .unusable :: gap n r
def poolList (es : List (Nat × CpInfo)) (last : Nat) : List CpInfo := es.foldr (fun e r => gap e.1 (e.2 :: r)) (gap last [])
def pool (es : List (Nat × CpInfo)) (last : Nat) : Array CpInfo := ⟨poolList es last⟩
def fileOf (pool : Array CpInfo) (this : Nat) (attrs : Array Attribute := #[]) (ms : Array MethodInfo := #[]) (fl : Nat := 33) (sup : Nat := 0) (ifs : Array Nat := #[]) (fds : Array FieldInfo := #[]) : ClassFile where
  minorVersion := 0
  majorVersion := 65
  constantPool := pool
  accessFlags := fl
  thisClass := this
  superClass := sup
  interfaces := ifs
  fields := fds
  methods := ms
  attributes := attrs
def plain (name : String) (sup : Option ClassId) : Class where
  name := name
  kind := .ordinary
  loader := none
  accessFlags := 33
  super := sup
  interfaces := #[]
  cf := none
  fields := #[]
  methods := #[]
  instanceTypes := #[]
  staticTypes := #[]
  resolved := #[]
  callSites := []
  init := .initialized
  statics := none
  mirror := none

def pool0 : Array CpInfo := pool [(5, u "<init>"), (0, u "()V"), (1, .class_ 10), (1, u "java/lang/Object")] 113

def k0c0 : Code := { maxStack := 0, maxLocals := 1, code := object_method_1_code, exceptionTable := #[], attributes := #[] }
def k0m0 : Method := { name := "<init>", desc := "()V", sig := { parameters := [], returnType := none }, accessFlags := 1, code := some k0c0 }
/-- java/lang/Object -/
def k0 : Class := { plain "java/lang/Object" none with
  accessFlags := 33
  interfaces := #[]
  cf := some (fileOf pool0 8 #[] #[{ accessFlags := 1, nameIndex := 5, descriptorIndex := 6, attributes := #[] }] 33 0 #[] #[])
  fields := #[]
  methods := #[k0m0]
  instanceTypes := #[]
  staticTypes := #[]
  resolved := Array.replicate 124 none
  statics := none }

def pool1 : Array CpInfo := pool [(2, .class_ 4), (1, u "java/lang/Object"), (0, u "<init>"), (0, u "()V"), (0, .methodref 8 9), (0, .class_ 10), (0, .nameAndType 11 12), (0, u "java/lang/Math"), (0, u "min"), (0, u "(II)I"), (0, .methodref 8 14), (0, .nameAndType 15 12), (0, u "max"), (0, .long 2), (1, .integer 2147483647), (0, .class_ 20), (0, u "com/example/zellwerk/zellwerk/model/Axis"), (0, .methodref 19 22), (0, .nameAndType 5 23), (0, u "(DDDD)V"), (0, .double 4611686018427387904), (1, .methodref 19 27), (0, .nameAndType 28 29), (0, u "reaches"), (0, u "(D)Z"), (0, .class_ 31), (0, u "com/example/zellwerk/zellwerk/model/AxisReachesPinLaw"), (2, u "law"), (0, u "(IIII)Z")] 3

def k1m0 : Method := { name := "<init>", desc := "()V", sig := { parameters := [], returnType := none }, accessFlags := 1, code := none }
def k1c1 : Code := { maxStack := 10, maxLocals := 17, code := code, exceptionTable := #[], attributes := #[] }
def k1m1 : Method := { name := "law", desc := "(IIII)Z", sig := { parameters := [.int, .int, .int, .int], returnType := some .boolean }, accessFlags := 9, code := some k1c1 }
/-- com/example/zellwerk/zellwerk/model/AxisReachesPinLaw -/
def k1 : Class := { plain "com/example/zellwerk/zellwerk/model/AxisReachesPinLaw" (some 0) with
  accessFlags := 49
  interfaces := #[]
  cf := some (fileOf pool1 30 #[] #[{ accessFlags := 1, nameIndex := 5, descriptorIndex := 6, attributes := #[] }, { accessFlags := 9, nameIndex := 34, descriptorIndex := 35, attributes := #[] }] 49 2 #[] #[])
  fields := #[]
  methods := #[k1m0, k1m1]
  instanceTypes := #[]
  staticTypes := #[]
  resolved := Array.replicate 39 none
  statics := none }

def pool2 : Array CpInfo := pool [(1, .class_ 2), (0, u "java/lang/Math"), (1, .class_ 6), (1, u "java/lang/Object"), (0, u "<init>"), (0, u "()V"), (89, .class_ 100), (1, u "java/lang/Math$RandomNumberGeneratorHolder"), (71, u "negativeZeroFloatBits"), (0, u "J"), (2, u "negativeZeroDoubleBits"), (21, u "max"), (2, u "min"), (43, u "$assertionsDisabled"), (0, u "Z"), (88, u "(II)I"), (2, u "twoToTheDoubleScaleDown"), (0, u "D"), (4, u "twoToTheDoubleScaleUp"), (9, u "E"), (3, u "PI"), (2, u "TAU"), (2, u "DEGREES_TO_RADIANS"), (0, u "RADIANS_TO_DEGREES")] 94

def k2m0 : Method := { name := "<init>", desc := "()V", sig := { parameters := [], returnType := none }, accessFlags := 2, code := none }
def k2c1 : Code := { maxStack := 2, maxLocals := 2, code := jdk_29_method_65_code, exceptionTable := #[], attributes := #[] }
def k2m1 : Method := { name := "max", desc := "(II)I", sig := { parameters := [.int, .int], returnType := some .int }, accessFlags := 9, code := some k2c1 }
def k2c2 : Code := { maxStack := 2, maxLocals := 2, code := jdk_29_method_69_code, exceptionTable := #[], attributes := #[] }
def k2m2 : Method := { name := "min", desc := "(II)I", sig := { parameters := [.int, .int], returnType := some .int }, accessFlags := 9, code := some k2c2 }
/-- java/lang/Math -/
def k2 : Class := { plain "java/lang/Math" (some 0) with
  accessFlags := 49
  interfaces := #[]
  cf := some (fileOf pool2 1 #[.nestMembers #[98]] #[{ accessFlags := 2, nameIndex := 7, descriptorIndex := 8, attributes := #[] }, { accessFlags := 9, nameIndex := 198, descriptorIndex := 335, attributes := #[] }, { accessFlags := 9, nameIndex := 201, descriptorIndex := 335, attributes := #[] }] 49 4 #[] #[{ accessFlags := 25, nameIndex := 354, descriptorIndex := 339, attributes := #[] }, { accessFlags := 25, nameIndex := 358, descriptorIndex := 339, attributes := #[] }, { accessFlags := 25, nameIndex := 361, descriptorIndex := 339, attributes := #[] }, { accessFlags := 26, nameIndex := 364, descriptorIndex := 339, attributes := #[] }, { accessFlags := 26, nameIndex := 365, descriptorIndex := 339, attributes := #[] }, { accessFlags := 26, nameIndex := 172, descriptorIndex := 173, attributes := #[] }, { accessFlags := 26, nameIndex := 176, descriptorIndex := 173, attributes := #[] }, { accessFlags := 8, nameIndex := 344, descriptorIndex := 339, attributes := #[] }, { accessFlags := 8, nameIndex := 338, descriptorIndex := 339, attributes := #[] }, { accessFlags := 4120, nameIndex := 245, descriptorIndex := 246, attributes := #[] }])
  fields := #[{ name := "E", type := .double, accessFlags := 25, slot := 0, constantValue := 0 }, { name := "PI", type := .double, accessFlags := 25, slot := 1, constantValue := 0 }, { name := "TAU", type := .double, accessFlags := 25, slot := 2, constantValue := 0 }, { name := "DEGREES_TO_RADIANS", type := .double, accessFlags := 26, slot := 3, constantValue := 0 }, { name := "RADIANS_TO_DEGREES", type := .double, accessFlags := 26, slot := 4, constantValue := 0 }, { name := "negativeZeroFloatBits", type := .long, accessFlags := 26, slot := 5, constantValue := 0 }, { name := "negativeZeroDoubleBits", type := .long, accessFlags := 26, slot := 6, constantValue := 0 }, { name := "twoToTheDoubleScaleUp", type := .double, accessFlags := 8, slot := 7, constantValue := 0 }, { name := "twoToTheDoubleScaleDown", type := .double, accessFlags := 8, slot := 8, constantValue := 0 }, { name := "$assertionsDisabled", type := .boolean, accessFlags := 4120, slot := 9, constantValue := 0 }]
  methods := #[k2m0, k2m1, k2m2]
  instanceTypes := #[]
  staticTypes := #[.double, .double, .double, .double, .double, .long, .long, .double, .double, .boolean]
  resolved := Array.replicate 460 none
  statics := none }

def pool3 : Array CpInfo := pool [(1, .methodref 2 3), (0, .class_ 4), (0, .nameAndType 5 6), (0, u "java/lang/Object"), (0, u "<init>"), (0, u "()V"), (0, .class_ 8), (0, u "java/lang/Record")] 13

def k3c0 : Code := { maxStack := 1, maxLocals := 1, code := jdk_30_method_1_code, exceptionTable := #[], attributes := #[] }
def k3m0 : Method := { name := "<init>", desc := "()V", sig := { parameters := [], returnType := none }, accessFlags := 4, code := some k3c0 }
/-- java/lang/Record -/
def k3 : Class := { plain "java/lang/Record" (some 0) with
  accessFlags := 1057
  interfaces := #[]
  cf := some (fileOf pool3 7 #[] #[{ accessFlags := 4, nameIndex := 5, descriptorIndex := 6, attributes := #[] }] 1057 2 #[] #[])
  fields := #[]
  methods := #[k3m0]
  instanceTypes := #[]
  staticTypes := #[]
  resolved := Array.replicate 22 none
  statics := none }

def pool4 : Array CpInfo := pool [(1, .methodref 2 3), (0, .class_ 4), (0, .nameAndType 5 6), (0, u "java/lang/Record"), (0, u "<init>"), (0, u "()V"), (0, .fieldref 8 9), (0, .class_ 10), (0, .nameAndType 11 12), (0, u "com/example/zellwerk/zellwerk/model/Axis"), (0, u "min"), (0, u "D"), (0, .fieldref 8 14), (0, .nameAndType 15 12), (0, u "max"), (0, .fieldref 8 17), (0, .nameAndType 18 12), (0, u "vmax"), (0, .fieldref 8 20), (0, .nameAndType 21 12), (0, u "amax"), (19, u "(D)Z"), (4, u "(DDDD)V"), (31, u "reaches")] 32

def k4c0 : Code := { maxStack := 3, maxLocals := 9, code := prog_20_method_1_code, exceptionTable := #[], attributes := #[] }
def k4m0 : Method := { name := "<init>", desc := "(DDDD)V", sig := { parameters := [.double, .double, .double, .double], returnType := none }, accessFlags := 1, code := some k4c0 }
def k4c1 : Code := { maxStack := 4, maxLocals := 3, code := prog_20_method_2_code, exceptionTable := #[], attributes := #[] }
def k4m1 : Method := { name := "reaches", desc := "(D)Z", sig := { parameters := [.double], returnType := some .boolean }, accessFlags := 1, code := some k4c1 }
/-- com/example/zellwerk/zellwerk/model/Axis -/
def k4 : Class := { plain "com/example/zellwerk/zellwerk/model/Axis" (some 3) with
  accessFlags := 49
  interfaces := #[]
  cf := some (fileOf pool4 8 #[] #[{ accessFlags := 1, nameIndex := 5, descriptorIndex := 46, attributes := #[] }, { accessFlags := 1, nameIndex := 78, descriptorIndex := 41, attributes := #[] }] 49 2 #[] #[{ accessFlags := 18, nameIndex := 11, descriptorIndex := 12, attributes := #[] }, { accessFlags := 18, nameIndex := 15, descriptorIndex := 12, attributes := #[] }, { accessFlags := 18, nameIndex := 18, descriptorIndex := 12, attributes := #[] }, { accessFlags := 18, nameIndex := 21, descriptorIndex := 12, attributes := #[] }])
  fields := #[{ name := "min", type := .double, accessFlags := 18, slot := 0, constantValue := 0 }, { name := "max", type := .double, accessFlags := 18, slot := 1, constantValue := 0 }, { name := "vmax", type := .double, accessFlags := 18, slot := 2, constantValue := 0 }, { name := "amax", type := .double, accessFlags := 18, slot := 3, constantValue := 0 }]
  methods := #[k4m0, k4m1]
  instanceTypes := #[.double, .double, .double, .double]
  staticTypes := #[]
  resolved := Array.replicate 111 none
  statics := none }

def pool5 : Array CpInfo := pool [(1, u "java/lang/Cloneable"), (0, .class_ 1), (0, u "java/lang/Object"), (0, .class_ 3)] 3

/-- java/lang/Cloneable -/
def k5 : Class := { plain "java/lang/Cloneable" (some 0) with
  accessFlags := 1537
  interfaces := #[]
  cf := some (fileOf pool5 2 #[] #[] 1537 4 #[] #[])
  fields := #[]
  methods := #[]
  instanceTypes := #[]
  staticTypes := #[]
  resolved := Array.replicate 8 none
  statics := none }

def pool6 : Array CpInfo := pool [(1, u "java/io/Serializable"), (0, .class_ 1), (0, u "java/lang/Object"), (0, .class_ 3)] 3

/-- java/io/Serializable -/
def k6 : Class := { plain "java/io/Serializable" (some 0) with
  accessFlags := 1537
  interfaces := #[]
  cf := some (fileOf pool6 2 #[] #[] 1537 4 #[] #[])
  fields := #[]
  methods := #[]
  instanceTypes := #[]
  staticTypes := #[]
  resolved := Array.replicate 8 none
  statics := none }

/-- the primitive byte -/
def k7 : Class := { plain "byte" none with kind := .primitive 'B', accessFlags := 0x411 }
/-- [B -/
def k8 : Class := { plain "[B" (some 0) with kind := .array 7 .byte, interfaces := #[5, 6], accessFlags := 1041 }

/-- the primitive int -/
def k9 : Class := { plain "int" none with kind := .primitive 'I', accessFlags := 0x411 }
/-- [I -/
def k10 : Class := { plain "[I" (some 0) with kind := .array 9 .int, interfaces := #[5, 6], accessFlags := 1041 }

def heap : Heap := #[]
def classes : Array Class := #[k0, k1, k2, k3, k4, k5, k6, k7, k8, k9, k10]
def interned : List (Array UInt16 × Addr) := []
def slotsUsed : Nat := 0
def theMethod : MethodId := ⟨1, 1⟩
def args0 : Array Value := #[.int 1, .int 2, .int 3, .int 4]
def aboutOver (below : List Frame) : State where
  vm := { classes := classes, interned := interned.toArray }
  heap := heap
  slotsUsed := slotsUsed
  threads := #[{ frames := .invoking theMethod args0 :: below }]
def below0 : List Frame := [.native { method := ⟨0, 0⟩, args := #[] }]
def about1 : State := aboutOver below0
def p0 : Program := .bare "" "" ""
def e0 : Env := launch0.env 0 0 0
theorem w_frames : about1.frames = Frame.invoking theMethod args0 :: below0 := rfl
set_option maxRecDepth 65536 in
theorem w_args : argsFit about1.vm theMethod args0 = true := by decide +kernel
set_option maxRecDepth 65536 in
theorem w_heap : heapFits about1 = true := by decide +kernel
set_option maxRecDepth 65536 in
theorem w_runnable : about1.curStatus? = some .runnable := by decide +kernel
set_option maxRecDepth 65536 in
theorem w_alone : about1.alone = true := by decide +kernel
set_option maxRecDepth 65536 in
theorem w_named : about1.methodNamed? x = some theMethod := by decide +kernel
set_option maxRecDepth 65536 in
theorem w_hears : about1.hears theMethod below0 = true := by decide +kernel
set_option maxRecDepth 65536 in
theorem w_ripe : about1.ripe theMethod args0 below0 = true := by decide +kernel
theorem w_running : about1.status = .running := rfl
set_option maxRecDepth 65536 in
theorem w_room : about1.hasRoom e0.platform room_1 = true :=
  launch0.hasRoom_least _ room_1 (by decide +kernel) (by decide +kernel) (by decide +kernel) (by decide +kernel) (by decide +kernel) (by decide +kernel)
theorem allAtoms_all (ts : List Jvm.Cond) (a : Array Jvm.Value) (st : Jvm.State) : (allAtoms ts).before a st = ts.all (fun c => c.before a st) := by
  induction ts with
  | nil => rfl
  | cons c t ih =>
    show (Jvm.Cond.and c (allAtoms t)).before a st = _
    rw [Jvm.Cond.before_and, ih, List.all_cons]
def words1 : List Jvm.Cond := Jvm.Cond.code x code maxLocals ret :: tables_1
/-- a 'code' word, met by the world's own term for the bytes: nothing is compared byte by byte -/
theorem code_word {y : MethodName} {bytes : ByteArray} {mx : Nat} {rt : Option FieldType} {a : Array Value} {s : State} {m : MethodId} {meth : Method} {c : Code} (h1 : s.methodNamed? y = some m) (h2 : s.vm.method? m = some meth) (h3 : meth.code = some c) (h4 : c.code = bytes)
    (h5 : (c.maxLocals == mx && c.exceptionTable.isEmpty && decide (c.maxStack ≤ mostOperands) && decide (meth.sig.returnType = rt) && !meth.locks && decide (parseMethodDescriptor y.desc = some meth.sig)) = true) : (Jvm.Cond.code y bytes mx rt).before a s = true := by
  simp only [Bool.and_eq_true, beq_iff_eq, Bool.not_eq_true', decide_eq_true_eq] at h5
  obtain ⟨⟨⟨⟨⟨g1, g2⟩, g3⟩, g4⟩, g5⟩, g6⟩ := h5
  simp [Cond.before, Cond.holds, Cond.value, h1, h2, h3, h4, g1, g2, g3, g4, g5, g6]
def isCode : Jvm.Cond → Bool
  | .code _ _ _ _ => true
  | _ => false
theorem all_split {L : List Jvm.Cond} {P : Jvm.Cond → Bool} (h1 : L.all (fun c => isCode c || P c) = true) (h2 : ∀ c ∈ L.filter isCode, P c = true) : L.all P = true := by
  refine List.all_eq_true.mpr fun c hc => ?_
  have h := List.all_eq_true.mp h1 c hc
  rcases Bool.eq_false_or_eq_true (isCode c) with hi | hi
  · exact h2 c (List.mem_filter.mpr ⟨hc, hi⟩)
  · simpa [hi] using h
set_option maxRecDepth 65536 in
theorem w_c0 : (Jvm.Cond.code x code maxLocals ret).before args0 about1 = true := code_word (m := ⟨1, 1⟩) (meth := k1m1) (c := k1c1) (by decide +kernel) rfl rfl rfl (by decide +kernel)
set_option maxRecDepth 65536 in
theorem w_c1 : (Jvm.Cond.code ({ cls := "java/lang/Math", name := "min", desc := "(II)I" } : Jvm.MethodName) jdk_29_method_69_code (2 : Nat) (Option.some Jvm.ClassFile.FieldType.int)).before args0 about1 = true := code_word (m := ⟨2, 2⟩) (meth := k2m2) (c := k2c2) (by decide +kernel) rfl rfl rfl (by decide +kernel)
set_option maxRecDepth 65536 in
theorem w_c2 : (Jvm.Cond.code ({ cls := "java/lang/Math", name := "max", desc := "(II)I" } : Jvm.MethodName) jdk_29_method_65_code (2 : Nat) (Option.some Jvm.ClassFile.FieldType.int)).before args0 about1 = true := code_word (m := ⟨2, 1⟩) (meth := k2m1) (c := k2c1) (by decide +kernel) rfl rfl rfl (by decide +kernel)
set_option maxRecDepth 65536 in
theorem w_c3 : (Jvm.Cond.code ({ cls := "com/example/zellwerk/zellwerk/model/Axis", name := "<init>", desc := "(DDDD)V" } : Jvm.MethodName) prog_20_method_1_code (9 : Nat) (Option.none : Option Jvm.ClassFile.FieldType)).before args0 about1 = true := code_word (m := ⟨4, 0⟩) (meth := k4m0) (c := k4c0) (by decide +kernel) rfl rfl rfl (by decide +kernel)
set_option maxRecDepth 65536 in
theorem w_c4 : (Jvm.Cond.code ({ cls := "java/lang/Record", name := "<init>", desc := "()V" } : Jvm.MethodName) jdk_30_method_1_code (1 : Nat) (Option.none : Option Jvm.ClassFile.FieldType)).before args0 about1 = true := code_word (m := ⟨3, 0⟩) (meth := k3m0) (c := k3c0) (by decide +kernel) rfl rfl rfl (by decide +kernel)
set_option maxRecDepth 65536 in
theorem w_c5 : (Jvm.Cond.code ({ cls := "java/lang/Object", name := "<init>", desc := "()V" } : Jvm.MethodName) object_method_1_code (1 : Nat) (Option.none : Option Jvm.ClassFile.FieldType)).before args0 about1 = true := code_word (m := ⟨0, 0⟩) (meth := k0m0) (c := k0c0) (by decide +kernel) rfl rfl rfl (by decide +kernel)
set_option maxRecDepth 65536 in
theorem w_c6 : (Jvm.Cond.code ({ cls := "com/example/zellwerk/zellwerk/model/Axis", name := "reaches", desc := "(D)Z" } : Jvm.MethodName) prog_20_method_2_code (3 : Nat) (Option.some Jvm.ClassFile.FieldType.boolean)).before args0 about1 = true := code_word (m := ⟨4, 1⟩) (meth := k4m1) (c := k4c1) (by decide +kernel) rfl rfl rfl (by decide +kernel)
def codes1 : List Jvm.Cond := [Jvm.Cond.code x code maxLocals ret, Jvm.Cond.code ({ cls := "java/lang/Math", name := "min", desc := "(II)I" } : Jvm.MethodName) jdk_29_method_69_code (2 : Nat) (Option.some Jvm.ClassFile.FieldType.int), Jvm.Cond.code ({ cls := "java/lang/Math", name := "max", desc := "(II)I" } : Jvm.MethodName) jdk_29_method_65_code (2 : Nat) (Option.some Jvm.ClassFile.FieldType.int), Jvm.Cond.code ({ cls := "com/example/zellwerk/zellwerk/model/Axis", name := "<init>", desc := "(DDDD)V" } : Jvm.MethodName) prog_20_method_1_code (9 : Nat) (Option.none : Option Jvm.ClassFile.FieldType), Jvm.Cond.code ({ cls := "java/lang/Record", name := "<init>", desc := "()V" } : Jvm.MethodName) jdk_30_method_1_code (1 : Nat) (Option.none : Option Jvm.ClassFile.FieldType), Jvm.Cond.code ({ cls := "java/lang/Object", name := "<init>", desc := "()V" } : Jvm.MethodName) object_method_1_code (1 : Nat) (Option.none : Option Jvm.ClassFile.FieldType), Jvm.Cond.code ({ cls := "com/example/zellwerk/zellwerk/model/Axis", name := "reaches", desc := "(D)Z" } : Jvm.MethodName) prog_20_method_2_code (3 : Nat) (Option.some Jvm.ClassFile.FieldType.boolean)]
set_option maxRecDepth 65536 in
theorem codes_eq : words1.filter isCode = codes1 := rfl
theorem w_codes : ∀ c ∈ words1.filter isCode, c.before args0 about1 = true := by
  rw [codes_eq]
  intro c hc
  simp only [codes1, List.mem_cons, List.not_mem_nil, or_false] at hc
  rcases hc with rfl | rfl | rfl | rfl | rfl | rfl | rfl
  · exact w_c0
  · exact w_c1
  · exact w_c2
  · exact w_c3
  · exact w_c4
  · exact w_c5
  · exact w_c6
set_option maxRecDepth 65536 in
theorem w_t1 : (words1.take 24).all (fun c => isCode c || c.before args0 about1) = true := by decide +kernel
set_option maxRecDepth 65536 in
theorem w_t2 : (words1.drop 24).all (fun c => isCode c || c.before args0 about1) = true := by decide +kernel
theorem w_tables : (allAtoms (Jvm.Cond.code x code maxLocals ret :: tables_1)).before args0 about1 = true := by
  rw [allAtoms_all]
  show words1.all (fun c => c.before args0 about1) = true
  refine all_split ?_ w_codes
  rw [← List.take_append_drop 24 words1, List.all_append, w_t1, w_t2]
  rfl
set_option maxRecDepth 65536 in
theorem w_case : (Jvm.Cond.and given_1 narrow_1).before args0 about1 = true := by decide +kernel
theorem w_applies : (headSpec (Jvm.Cond.code x code maxLocals ret :: tables_1) room_1).applies x e0.platform about1 = true :=
  (Spec.applies_iff w_frames).mpr ⟨w_running, w_runnable, w_alone, w_named, w_hears, w_ripe, w_room, w_tables⟩
theorem atStart : AtStart classFile x code maxLocals ret World_1 tables_1 room_1 Calls_1 rest_1 Pre_1 launch0 p0 e0 about1 theMethod args0 below0 :=
  ⟨lists_1, trivial, launch0.admits_env _ _ _, launch0.least_env, fairChoices_fair.cas, fairChoices_fair.clock, w_frames, w_args, w_heap, w_applies, trivial, trivial, w_case⟩
end start1
theorem witness_1 : WitnessClaimed_1 := ⟨start1.p0, start1.e0, start1.about1, start1.theMethod, start1.args0, start1.below0, start1.atStart⟩
end Jvm.Pilot.@@N@@
