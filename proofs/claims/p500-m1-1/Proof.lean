import JvmDerived
import JvmDerived.Pilot.@@N@@Statement
import JvmDerived.Pilot.@@N@@Code
set_option linter.unusedVariables false
set_option linter.unusedSimpArgs false
namespace Jvm.Pilot.@@N@@
open Jvm Jvm.ClassFile Sem Op Lib Jvm.Free Jvm.Stand Jvm.LawKit Jvm.RoadKit Bundle Jvm.Pilot.@@N@@.Jvm.D

section OwnKit
variable {p : Program} {l : Launch} {e : Env} {R : Room} {s : State} {m : MethodId} {args : Array Value} {below : List Frame} {meth : Method} {c : Code} {T : State} {locs : List Loc} {cells slots : Nat} {Z : State} {a0 : Array Value} {h : Heap}
/-- from T at frame F the walk reaches a state that P holds of -/
def own_R (tb : Tables) (e : Env) (below : List Frame) (P : State → Prop) (T : State) (F : JFrame) : Prop := ∃ t, Steps tb e below (T.setTop F) t ∧ P t
theorem own_go {tb : Tables} {e : Env} {below : List Frame} {P : State → Prop} {T T' : State} {F F' : JFrame} (h : ∀ t, Steps tb e below (T'.setTop F') t → Steps tb e below (T.setTop F) t) (r : own_R tb e below P T' F') : own_R tb e below P T F := by
  obtain ⟨t, a, b⟩ := r
  exact ⟨t, h t a, b⟩
/-- what a body's end must meet -/
def own_E (s : State) (below : List Frame) (Q : Option Value → Heap → List Loc → Prop) (C N : Nat) (t : State) : Prop := ∃ v L, t.status = .running ∧ Ended t below (.returned v) ∧ Q v t.heap L ∧ FrameEnd s (.returned v) t L C N
/-- a body's contract -/
abbrev own_C (l : Launch) (Z : State) (y : MethodName) (bytes : ByteArray) (ml : Nat) (ret : Option FieldType) (ws : List Jvm.Cond) (rm : Room) (as : Array Value) (h0 : Heap) (Q : Option Value → Heap → List Loc → Prop) : Prop :=
  MetFree l y (head1 (Jvm.Cond.code y bytes ml ret :: ws) rm) (fun a U => a = as ∧ Z.Warmed39 U.vm ∧ U.heap = h0) (fun _ _ _ _ _ => True) (fun _ U o U' => ∃ v L, o = .returned v ∧ Q v U'.heap L ∧ FrameEnd U o U' L rm.cells rm.slots)
theorem own_body {y : MethodName} {bytes : ByteArray} {ml : Nat} {ret : Option FieldType} {ws : List Jvm.Cond} {rm : Room} {as : Array Value} {h0 : Heap} {Q : Option Value → Heap → List Loc → Prop} {ls : Array Slot}
    (hy : plainFor y = true) (hef : ∀ m, entryFrame m as ml = mkF m 0 ls [])
    (H : ∀ (p : Program) (e : Env) (s : State) (m : MethodId) (below : List Frame) (meth : Method) (c : Code) (T : State), Z.Warmed39 s.vm → p.tables.exec = Jvm.exec → c.code = bytes → c.maxLocals = ml → s.vm.findClass y.cls = some m.cls → meth.name = y.name → meth.sig.returnType = ret → meth.locks = false →
      Stand p l e rm s m as below meth c T [] 0 0 → T.heap = h0 → own_R p.tables e below (own_E s below Q rm.cells rm.slots) T (mkF m 0 ls [])) :
    own_C l Z y bytes ml ret ws rm as h0 Q := by
  refine MetFree.of_bodySF hy hisR ?_
  intro p e s m args below meth c s₁ Bd hml0 hP hK
  obtain ⟨rfl, hZ, hh⟩ := hP
  obtain ⟨t, st, v, L, h1, h2, h3, h4⟩ := H p e s m below meth c s₁ hZ Bd.exec Bd.bytes hml0 (findClass_of_methodNamed Bd.named) (name_of_methodNamed Bd.named Bd.method).1 Bd.returns Bd.notSynchronized (Stand.of_body Bd) (by rw [← hh, Bd.state]; rfl)
  exact ⟨t, _, castTop (hef m) st, h1, h2, v, L, rfl, h3, h4⟩
theorem own_end {Q : Option Value → Heap → List Loc → Prop} {C N : Nat} {F : JFrame} (X : Stand p l e R s m args below meth c T locs cells slots) (v : Option Value) (hv : meth.sig.returnType = none → v = none) (hlk : meth.locks = false)
    (hst : ∀ fs, (∀ (f : JFrame) (acts : List Action), f.method = m → f.locked = none → f.entered = [] → (doReturn e (T.setTop f) acts v).1 = T.setFrames fs) → Steps p.tables e below (T.setTop F) (T.setFrames fs))
    (hQ : Q v T.heap locs) (hc : cells ≤ C) (hn : slots ≤ N) : own_R p.tables e below (own_E s below Q C N) T F := by
  obtain ⟨fs, hr, hrun, hended, hW, hsame⟩ := X.leave (v := v) hv hlk
  exact ⟨_, hst fs hr, v, locs, hrun, hended, hQ, ⟨_, rfl⟩, hW, hsame.mono hc hn⟩
theorem own_retI (X : Stand p l e R s m args below meth c T locs cells slots) (hx : p.tables.exec = Jvm.exec) {pc : Nat} {Ls : Array Slot} {z : Int32} {rest : List Value} (hret : meth.sig.returnType = some .int) (hd : decode c.code pc = .ok (.ireturn, 1)) {fs : List Frame}
    (hl : ∀ (f : JFrame) (acts : List Action), f.method = m → f.locked = none → f.entered = [] → (doReturn e (T.setTop f) acts (some (.int z))).1 = T.setFrames fs) : Steps p.tables e below (T.setTop (mkF m pc Ls (.int z :: rest))) (T.setFrames fs) := by
  have hm' : T.vm.method? m = some meth := X.method'
  have hn : narrow .int (.int z) = .int z := rfl
  show Steps p.tables e below (T.setTop { method := m, pc := pc, locals := Ls, stack := _ :: rest, locked := none }) _
  jvm_step X.here [X.here.top, hx, hd, hm', hret, hn]
  first | (intro acts; rw [hl _ acts rfl rfl rfl]) | rw [hl _ _ rfl rfl rfl]
  exact Steps.refl _
theorem own_retJ (X : Stand p l e R s m args below meth c T locs cells slots) (hx : p.tables.exec = Jvm.exec) {pc : Nat} {Ls : Array Slot} {z : Int64} {rest : List Value} (hret : meth.sig.returnType = some .long) (hd : decode c.code pc = .ok (.lreturn, 1)) {fs : List Frame}
    (hl : ∀ (f : JFrame) (acts : List Action), f.method = m → f.locked = none → f.entered = [] → (doReturn e (T.setTop f) acts (some (.long z))).1 = T.setFrames fs) : Steps p.tables e below (T.setTop (mkF m pc Ls (.long z :: rest))) (T.setFrames fs) := by
  have hm' : T.vm.method? m = some meth := X.method'
  have hn : narrow .long (.long z) = .long z := rfl
  show Steps p.tables e below (T.setTop { method := m, pc := pc, locals := Ls, stack := _ :: rest, locked := none }) _
  jvm_step X.here [X.here.top, hx, hd, hm', hret, hn]
  first | (intro acts; rw [hl _ acts rfl rfl rfl]) | rw [hl _ _ rfl rfl rfl]
  exact Steps.refl _
theorem own_retD (X : Stand p l e R s m args below meth c T locs cells slots) (hx : p.tables.exec = Jvm.exec) {pc : Nat} {Ls : Array Slot} {z : UInt64} {rest : List Value} (hret : meth.sig.returnType = some .double) (hd : decode c.code pc = .ok (.dreturn, 1)) {fs : List Frame}
    (hl : ∀ (f : JFrame) (acts : List Action), f.method = m → f.locked = none → f.entered = [] → (doReturn e (T.setTop f) acts (some (.double z))).1 = T.setFrames fs) : Steps p.tables e below (T.setTop (mkF m pc Ls (.double z :: rest))) (T.setFrames fs) := by
  have hm' : T.vm.method? m = some meth := X.method'
  have hn : narrow .double (.double z) = .double z := rfl
  show Steps p.tables e below (T.setTop { method := m, pc := pc, locals := Ls, stack := _ :: rest, locked := none }) _
  jvm_step X.here [X.here.top, hx, hd, hm', hret, hn]
  first | (intro acts; rw [hl _ acts rfl rfl rfl]) | rw [hl _ _ rfl rfl rfl]
  exact Steps.refl _
theorem own_retA (X : Stand p l e R s m args below meth c T locs cells slots) (hx : p.tables.exec = Jvm.exec) {pc : Nat} {Ls : Array Slot} {z : Value} {t : FieldType} {rest : List Value} (hret : meth.sig.returnType = some t) (ht : t.isReference = true) (hz : z.isRef = true) (hd : decode c.code pc = .ok (.areturn, 1)) {fs : List Frame}
    (hl : ∀ (f : JFrame) (acts : List Action), f.method = m → f.locked = none → f.entered = [] → (doReturn e (T.setTop f) acts (some z)).1 = T.setFrames fs) : Steps p.tables e below (T.setTop (mkF m pc Ls (z :: rest))) (T.setFrames fs) := by
  have hm' : T.vm.method? m = some meth := X.method'
  show Steps p.tables e below (T.setTop { method := m, pc := pc, locals := Ls, stack := _ :: rest, locked := none }) _
  jvm_step X.here [X.here.top, hx, hd, hm', hret, ht, hz]
  first | (intro acts; rw [hl _ acts rfl rfl rfl]) | rw [hl _ _ rfl rfl rfl]
  exact Steps.refl _
theorem own_len {a : Addr} {k : ClassId} {ty : FieldType} {n : Int32} {vs : List Value} {d : Value} (X : Stand p l e R s m args below meth c T locs cells slots) (hx : p.tables.exec = Jvm.exec) (hZ : Z.Warmed39 s.vm) (eT : T.heap = h) (V : Arv Z h a k ty n vs d)
    {g : JFrame} (hg : g.method = m) {rest : List Value} (hs : g.stack = .ref a :: rest) (hd : decode c.code g.pc = .ok (.arraylength, 1)) :
    ∀ t, Steps p.tables e below (T.setTop { g with pc := g.pc + 1, stack := .int n :: rest }) t → Steps p.tables e below (T.setTop g) t := by
  obtain ⟨cl, Ar, -, S, N, -, -⟩ := V
  intro t st
  refine X.arraylength hx (by rw [eT]; exact Ar.1) (State.isArrayOf_alike hZ.alike Ar.2.1) hg hs hd t ?_
  rw [len_of S N]
  exact st
theorem own_ldD {a : Addr} {k : ClassId} {n j : Int32} {vs : List Value} {d v : Value} (X : Stand p l e R s m args below meth c T locs cells slots) (hx : p.tables.exec = Jvm.exec) (hZ : Z.Warmed39 s.vm) (eT : T.heap = h) (V : Arv Z h a k .double n vs d) (hj : ¬ j < 0 ∧ j < n) (hv : vs.getD j.toNatClampNeg d = v)
    {g : JFrame} (hg : g.method = m) {rest : List Value} (hs : g.stack = .int j :: .ref a :: rest) (hd : decode c.code g.pc = .ok (.daload, 1)) :
    ∀ t, Steps p.tables e below (T.setTop { g with pc := g.pc + 1, stack := v :: rest }) t → Steps p.tables e below (T.setTop g) t := by
  obtain ⟨cl, Ar, -, S, N, H, -⟩ := V
  intro t st
  exact X.daload hx (by rw [eT]; exact Ar.1) (State.isArrayOf_alike hZ.alike Ar.2.1) Ar.2.2 (inb_of S hj) (H.at (inb_of S hj) hv) hg hs hd t st
theorem own_ldZ {a : Addr} {k : ClassId} {n j : Int32} {vs : List Value} {d v : Value} (X : Stand p l e R s m args below meth c T locs cells slots) (hx : p.tables.exec = Jvm.exec) (hZ : Z.Warmed39 s.vm) (eT : T.heap = h) (V : Arv Z h a k .boolean n vs d) (hj : ¬ j < 0 ∧ j < n) (hv : vs.getD j.toNatClampNeg d = v)
    {g : JFrame} (hg : g.method = m) {rest : List Value} (hs : g.stack = .int j :: .ref a :: rest) (hd : decode c.code g.pc = .ok (.baload, 1)) :
    ∀ t, Steps p.tables e below (T.setTop { g with pc := g.pc + 1, stack := v :: rest }) t → Steps p.tables e below (T.setTop g) t := by
  obtain ⟨cl, Ar, -, S, N, H, -⟩ := V
  intro t st
  exact X.baloadBooleans hx (by rw [eT]; exact Ar.1) (State.isArrayOf_alike hZ.alike Ar.2.1) Ar.2.2 (inb_of S hj) (H.at (inb_of S hj) hv) hg hs hd t st
theorem own_stD {a : Addr} {k : ClassId} {n j : Int32} {vs : List Value} {d : Value} {x : UInt64} (X : Stand p l e R s m args below meth c T locs cells slots) (hx : p.tables.exec = Jvm.exec) (hZ : Z.Warmed39 s.vm) (eT : T.heap = h) (V : Arv Z h a k .double n vs d) (hj : ¬ j < 0 ∧ j < n) (i : Nat) (hji : j.toNatClampNeg = i) (hi : i < vs.length)
    {g : JFrame} (hg : g.method = m) {rest : List Value} (hs : g.stack = .double x :: .int j :: .ref a :: rest) (hd : decode c.code g.pc = .ok (.dastore, 1)) :
    ∃ T' h', Stand p l e R s m args below meth c T' (locs ++ [⟨a, j.toNatClampNeg⟩]) cells slots ∧ T'.heap = h' ∧ Wr h h' a j.toNatClampNeg (.double x) ∧ Arv Z h' a k .double n (vs.set i (.double x)) d ∧ ∀ t, Steps p.tables e below (T'.setTop { g with pc := g.pc + 1, stack := rest }) t → Steps p.tables e below (T.setTop g) t := by
  obtain ⟨cl, Ar, q, S, N, H, G⟩ := V
  obtain ⟨T', h', X', e', W, st⟩ := stD X hx hZ eT Ar (inb_of S hj) hg hs hd
  exact ⟨T', h', X', e', W, Arv.set Ar q S N H G rfl W i hji hi, st⟩
theorem own_stZ {a : Addr} {k : ClassId} {n j : Int32} {vs : List Value} {d : Value} {x : Int32} (X : Stand p l e R s m args below meth c T locs cells slots) (hx : p.tables.exec = Jvm.exec) (hZ : Z.Warmed39 s.vm) (eT : T.heap = h) (V : Arv Z h a k .boolean n vs d) (hj : ¬ j < 0 ∧ j < n) (i : Nat) (hji : j.toNatClampNeg = i) (hi : i < vs.length) (h01 : x = 0 ∨ x = 1)
    {g : JFrame} (hg : g.method = m) {rest : List Value} (hs : g.stack = .int x :: .int j :: .ref a :: rest) (hd : decode c.code g.pc = .ok (.bastore, 1)) :
    ∃ T' h', Stand p l e R s m args below meth c T' (locs ++ [⟨a, j.toNatClampNeg⟩]) cells slots ∧ T'.heap = h' ∧ Wr h h' a j.toNatClampNeg (.int x) ∧ Arv Z h' a k .boolean n (vs.set i (.int x)) d ∧ ∀ t, Steps p.tables e below (T'.setTop { g with pc := g.pc + 1, stack := rest }) t → Steps p.tables e below (T.setTop g) t := by
  obtain ⟨cl, Ar, q, S, N, H, G⟩ := V
  obtain ⟨T', h', X', e', W, st⟩ := stZ X hx hZ eT Ar (inb_of S hj) hg hs hd
  have en : nar .boolean x = x := by rcases h01 with rfl | rfl <;> rfl
  rw [en] at W
  exact ⟨T', h', X', e', W, Arv.set Ar q S N H G (by rcases h01 with rfl | rfl <;> rfl) W i hji hi, st⟩
theorem own_stC {a : Addr} {k : ClassId} {n j : Int32} {vs : List Value} {d : Value} {x : Int32} (X : Stand p l e R s m args below meth c T locs cells slots) (hx : p.tables.exec = Jvm.exec) (hZ : Z.Warmed39 s.vm) (eT : T.heap = h) (V : Arv Z h a k .char n vs d) (hj : ¬ j < 0 ∧ j < n) (i : Nat) (hji : j.toNatClampNeg = i) (hi : i < vs.length) (hn : nar .char x = x)
    {g : JFrame} (hg : g.method = m) {rest : List Value} (hs : g.stack = .int x :: .int j :: .ref a :: rest) (hd : decode c.code g.pc = .ok (.castore, 1)) :
    ∃ T' h', Stand p l e R s m args below meth c T' (locs ++ [⟨a, j.toNatClampNeg⟩]) cells slots ∧ T'.heap = h' ∧ Wr h h' a j.toNatClampNeg (.int x) ∧ Arv Z h' a k .char n (vs.set i (.int x)) d ∧ ∀ t, Steps p.tables e below (T'.setTop { g with pc := g.pc + 1, stack := rest }) t → Steps p.tables e below (T.setTop g) t := by
  obtain ⟨cl, Ar, q, S, N, H, G⟩ := V
  obtain ⟨T', h', X', e', W, st⟩ := stC X hx hZ eT Ar (inb_of S hj) hg hs hd
  have hf := fits_nar_char x
  rw [hn] at W hf
  exact ⟨T', h', X', e', W, Arv.set Ar q S N H G hf W i hji hi, st⟩
/-- a payer's form: what the three calls ask -/
abbrev own_B (l : Launch) (R : Room) (p : Program) (e : Env) (below : List Frame) (s : State) (args : Array Value) (y : MethodName) (W : Nat) (as : Array Value) (h : Heap) (kc ks : Nat) (Q : Option Value → Heap → List Loc → Prop) : Prop :=
  Back l R p e below s args y 3 W (fun A a => a = as ∧ A.U.heap = h ∧ A.cells + kc ≤ R.cells ∧ A.slots + ks ≤ R.slots) (fun A _ v B => ∃ L, Q v B.U.heap L ∧ B.locs = A.locs ++ L ∧ B.cells = A.cells + kc ∧ B.slots = A.slots + ks)
theorem own_backS (X : Stand p l e R s m args below meth c T locs cells slots) (hx : p.tables.exec = Jvm.exec) (hZ : Z.Warmed39 s.vm) {own : String} (hown : s.vm.findClass own = some m.cls) {index : Nat} {y : MethodName} {bytes : ByteArray} {maxL : Nat} {ret : Option FieldType}
    (w1 : (Jvm.Cond.methodLink own index y).before a0 Z = true) (w2 : (Jvm.Cond.static y).before a0 Z = true) (w3 : (Jvm.Cond.initialized y.cls).before a0 Z = true) (w4 : (Jvm.Cond.code y bytes maxL ret).before a0 Z = true) (hy : y.cls ≠ "java/lang/invoke/MethodHandle" ∧ y.cls ≠ "java/lang/invoke/VarHandle")
    {W kc ks : Nat} {as : Array Value} {Q : Option Value → Heap → List Loc → Prop} (hK : own_B l R p e below s args y W as h kc ks Q) 
    {g : JFrame} (hg : g.method = m) (hsize : g.locals.size = c.maxLocals) {argsL rest : List Value} (hlen : ∀ sig, parseMethodDescriptor y.desc = some sig → argsL.length = sig.parameters.length)
    (hst : g.stack = argsL.reverse ++ rest) (has : argsL.toArray = as) (hW : 2 * g.monitorRoom + (rest.map fun v => v.category).sum ≤ W) (hd : decode c.code g.pc = .ok (.invokestatic index, 3)) (eT : T.heap = h)
    (hc : cells + kc ≤ R.cells) (hs : slots + ks ≤ R.slots) :
    ∃ v T' L, Stand p l e R s m args below meth c T' (locs ++ L) (cells + kc) (slots + ks) ∧ Q v T'.heap L ∧ ∀ t, Steps p.tables e below (T'.setTop { g with pc := g.pc + 3, stack := v.toList ++ rest }) t → Steps p.tables e below (T.setTop g) t := by
  obtain ⟨v, vm1, ⟨T1, L1, k1, n1⟩, -, X1, ⟨Lc, hQ, l1, y1, z1⟩, st⟩ := Jvm.LawKit.callS X hx (y := y) hown (mvT hZ w1) (mvT hZ w2) (mvT hZ w3) (mvT hZ w4) hy hK hg hsize (argsL := argsL) (rest := rest) hlen hst hW hd (fun _ _ => ⟨has, eT, hc, hs⟩)
  dsimp only [Pt.U, Pt.locs, Pt.cells, Pt.slots] at X1 l1 y1 z1 st hQ
  subst l1 y1 z1
  exact ⟨v, T1, Lc, X1, hQ, st⟩
theorem own_callS (X : Stand p l e R s m args below meth c T locs cells slots) (hx : p.tables.exec = Jvm.exec) (hZ : Z.Warmed39 s.vm) {own : String} (hown : s.vm.findClass own = some m.cls) {index : Nat} {y : MethodName} {bytes : ByteArray} {maxL : Nat} {ret : Option FieldType}
    (w1 : (Jvm.Cond.methodLink own index y).before a0 Z = true) (w2 : (Jvm.Cond.static y).before a0 Z = true) (w3 : (Jvm.Cond.initialized y.cls).before a0 Z = true) (w4 : (Jvm.Cond.code y bytes maxL ret).before a0 Z = true) (hy : y.cls ≠ "java/lang/invoke/MethodHandle" ∧ y.cls ≠ "java/lang/invoke/VarHandle")
    {rm : Room} {as : Array Value} {Q : Option Value → Heap → List Loc → Prop} (hM : own_C l Z y bytes maxL ret [] rm as h Q) {W : Nat}
    {g : JFrame} (hg : g.method = m) (hsize : g.locals.size = c.maxLocals) {argsL rest : List Value} (hlen : ∀ sig, parseMethodDescriptor y.desc = some sig → argsL.length = sig.parameters.length)
    (hst : g.stack = argsL.reverse ++ rest) (has : argsL.toArray = as) (hW : 2 * g.monitorRoom + (rest.map fun v => v.category).sum ≤ W) (hd : decode c.code g.pc = .ok (.invokestatic index, 3)) (eT : T.heap = h)
    (hf : rm.frames + 1 ≤ R.frames) (hl : W + (maxL + 11) + rm.locals ≤ R.locals) (hc : cells + rm.cells ≤ R.cells) (hs : slots + rm.slots ≤ R.slots) :
    ∃ v T' L, Stand p l e R s m args below meth c T' (locs ++ L) (cells + rm.cells) (slots + rm.slots) ∧ Q v T'.heap L ∧ ∀ t, Steps p.tables e below (T'.setTop { g with pc := g.pc + 3, stack := v.toList ++ rest }) t → Steps p.tables e below (T.setTop g) t :=
  own_backS X hx hZ hown w1 w2 w3 w4 hy (backOf (W := W) hM hZ w4 w3 hf hl) hg hsize hlen hst has hW hd eT hc hs
theorem own_backI (X : Stand p l e R s m args below meth c T locs cells slots) (hx : p.tables.exec = Jvm.exec) (hZ : Z.Warmed39 s.vm) {own : String} (hown : s.vm.findClass own = some m.cls) {index : Nat} {y : MethodName} {bytes : ByteArray} {maxL : Nat} 
    (hy1 : y.name = "<init>") (w1 : (Jvm.Cond.methodLink own index y).before a0 Z = true) (w2 : (Jvm.Cond.instanceMethod y).before a0 Z = true) (w4 : (Jvm.Cond.code y bytes maxL none).before a0 Z = true) (w3 : (Jvm.Cond.initialized y.cls).before a0 Z = true) (hy : y.cls ≠ "java/lang/invoke/MethodHandle" ∧ y.cls ≠ "java/lang/invoke/VarHandle")
    {W kc ks : Nat} {as : Array Value} {Q : Option Value → Heap → List Loc → Prop} (hK : own_B l R p e below s args y W as h kc ks Q) 
    {g : JFrame} (hg : g.method = m) (hsize : g.locals.size = c.maxLocals) {a : Addr} {argsL rest : List Value} (hlen : ∀ sig, parseMethodDescriptor y.desc = some sig → argsL.length = sig.parameters.length)
    (hst : g.stack = argsL.reverse ++ .ref a :: rest) (has : (.ref a :: argsL).toArray = as) (hW : 2 * g.monitorRoom + (rest.map fun v => v.category).sum ≤ W) (hd : decode c.code g.pc = .ok (.invokespecial index, 3)) (eT : T.heap = h)
    (hc : cells + kc ≤ R.cells) (hs : slots + ks ≤ R.slots) :
    ∃ v T' L, Stand p l e R s m args below meth c T' (locs ++ L) (cells + kc) (slots + ks) ∧ Q v T'.heap L ∧ ∀ t, Steps p.tables e below (T'.setTop { g with pc := g.pc + 3, stack := v.toList ++ rest }) t → Steps p.tables e below (T.setTop g) t := by
  obtain ⟨v, vm1, ⟨T1, L1, k1, n1⟩, -, X1, ⟨Lc, hQ, l1, y1, z1⟩, st⟩ := X.specialBack hx (y := y) hy1 hown (mvT hZ w1) (mvT hZ w2) (mvT hZ w4) hy hK hg hsize (Steps.refl _) (a := a) (argsL := argsL) (rest := rest) hlen hst hW hd (fun _ _ => ⟨has, eT, hc, hs⟩)
  dsimp only [Pt.U, Pt.locs, Pt.cells, Pt.slots] at X1 l1 y1 z1 st hQ
  subst l1 y1 z1
  exact ⟨v, T1, Lc, X1, hQ, fun _ k => st.trans k⟩
theorem own_callI (X : Stand p l e R s m args below meth c T locs cells slots) (hx : p.tables.exec = Jvm.exec) (hZ : Z.Warmed39 s.vm) {own : String} (hown : s.vm.findClass own = some m.cls) {index : Nat} {y : MethodName} {bytes : ByteArray} {maxL : Nat} 
    (hy1 : y.name = "<init>") (w1 : (Jvm.Cond.methodLink own index y).before a0 Z = true) (w2 : (Jvm.Cond.instanceMethod y).before a0 Z = true) (w4 : (Jvm.Cond.code y bytes maxL none).before a0 Z = true) (w3 : (Jvm.Cond.initialized y.cls).before a0 Z = true) (hy : y.cls ≠ "java/lang/invoke/MethodHandle" ∧ y.cls ≠ "java/lang/invoke/VarHandle")
    {rm : Room} {as : Array Value} {Q : Option Value → Heap → List Loc → Prop} (hM : own_C l Z y bytes maxL none [] rm as h Q) {W : Nat}
    {g : JFrame} (hg : g.method = m) (hsize : g.locals.size = c.maxLocals) {a : Addr} {argsL rest : List Value} (hlen : ∀ sig, parseMethodDescriptor y.desc = some sig → argsL.length = sig.parameters.length)
    (hst : g.stack = argsL.reverse ++ .ref a :: rest) (has : (.ref a :: argsL).toArray = as) (hW : 2 * g.monitorRoom + (rest.map fun v => v.category).sum ≤ W) (hd : decode c.code g.pc = .ok (.invokespecial index, 3)) (eT : T.heap = h)
    (hf : rm.frames + 1 ≤ R.frames) (hl : W + (maxL + 11) + rm.locals ≤ R.locals) (hc : cells + rm.cells ≤ R.cells) (hs : slots + rm.slots ≤ R.slots) :
    ∃ v T' L, Stand p l e R s m args below meth c T' (locs ++ L) (cells + rm.cells) (slots + rm.slots) ∧ Q v T'.heap L ∧ ∀ t, Steps p.tables e below (T'.setTop { g with pc := g.pc + 3, stack := v.toList ++ rest }) t → Steps p.tables e below (T.setTop g) t :=
  own_backI X hx hZ hown hy1 w1 w2 w4 w3 hy (backOf (W := W) hM hZ w4 w3 hf hl) hg hsize hlen hst has hW hd eT hc hs
theorem own_backV (X : Stand p l e R s m args below meth c T locs cells slots) (hx : p.tables.exec = Jvm.exec) (hZ : Z.Warmed39 s.vm) {own C : String} (hown : s.vm.findClass own = some m.cls) {index : Nat} {y : MethodName} {bytes : ByteArray} {maxL : Nat} {ret : Option FieldType}
    (w1 : (Jvm.Cond.methodLink own index y).before a0 Z = true) (w2 : (Jvm.Cond.declares y).before a0 Z = true) (w5 : (Jvm.Cond.selects C y y).before a0 Z = true) (w6 : (Jvm.Cond.instanceMethod y).before a0 Z = true) (w4 : (Jvm.Cond.code y bytes maxL ret).before a0 Z = true) (w3 : (Jvm.Cond.initialized y.cls).before a0 Z = true) (hy : y.cls ≠ "java/lang/invoke/MethodHandle" ∧ y.cls ≠ "java/lang/invoke/VarHandle")
    {W kc ks : Nat} {as : Array Value} {Q : Option Value → Heap → List Loc → Prop} (hK : own_B l R p e below s args y W as h kc ks Q) {b : Addr} (hE : Exa Z h b C) 
    {g : JFrame} (hg : g.method = m) (hsize : g.locals.size = c.maxLocals) {argsL rest : List Value} (hlen : ∀ sig, parseMethodDescriptor y.desc = some sig → argsL.length = sig.parameters.length)
    (hst : g.stack = argsL.reverse ++ .ref b :: rest) (has : (.ref b :: argsL).toArray = as) (hW : 2 * g.monitorRoom + (rest.map fun v => v.category).sum ≤ W) (hd : decode c.code g.pc = .ok (.invokevirtual index, 3)) (eT : T.heap = h)
    (hc : cells + kc ≤ R.cells) (hs : slots + ks ≤ R.slots) :
    ∃ v T' L, Stand p l e R s m args below meth c T' (locs ++ L) (cells + kc) (slots + ks) ∧ Q v T'.heap L ∧ ∀ t, Steps p.tables e below (T'.setTop { g with pc := g.pc + 3, stack := v.toList ++ rest }) t → Steps p.tables e below (T.setTop g) t := by
  obtain ⟨cq, kq, qa, qb, qc⟩ := isOf hZ eT hE
  obtain ⟨v, vm1, ⟨T1, L1, k1, n1⟩, -, X1, ⟨Lc, hQ, l1, y1, z1⟩, st⟩ := X.virtualBack hx (y := y) (z := y) hown (mvT hZ w1) (mvT hZ w2) (notFace_of_selects (args := #[]) (mvT hZ w5)) (mvT hZ w5) (mvT hZ w6) hy hK qa qc hg hsize (Steps.refl _) (argsL := argsL) (rest := rest) hlen hst hW hd (fun _ _ => ⟨has, eT, hc, hs⟩)
  dsimp only [Pt.U, Pt.locs, Pt.cells, Pt.slots] at X1 l1 y1 z1 st hQ
  subst l1 y1 z1
  exact ⟨v, T1, Lc, X1, hQ, fun _ k => st.trans k⟩
theorem own_callV (X : Stand p l e R s m args below meth c T locs cells slots) (hx : p.tables.exec = Jvm.exec) (hZ : Z.Warmed39 s.vm) {own C : String} (hown : s.vm.findClass own = some m.cls) {index : Nat} {y : MethodName} {bytes : ByteArray} {maxL : Nat} {ret : Option FieldType}
    (w1 : (Jvm.Cond.methodLink own index y).before a0 Z = true) (w2 : (Jvm.Cond.declares y).before a0 Z = true) (w5 : (Jvm.Cond.selects C y y).before a0 Z = true) (w6 : (Jvm.Cond.instanceMethod y).before a0 Z = true) (w4 : (Jvm.Cond.code y bytes maxL ret).before a0 Z = true) (w3 : (Jvm.Cond.initialized y.cls).before a0 Z = true) (hy : y.cls ≠ "java/lang/invoke/MethodHandle" ∧ y.cls ≠ "java/lang/invoke/VarHandle")
    {rm : Room} {as : Array Value} {Q : Option Value → Heap → List Loc → Prop} (hM : own_C l Z y bytes maxL ret [] rm as h Q) {b : Addr} (hE : Exa Z h b C) {W : Nat}
    {g : JFrame} (hg : g.method = m) (hsize : g.locals.size = c.maxLocals) {argsL rest : List Value} (hlen : ∀ sig, parseMethodDescriptor y.desc = some sig → argsL.length = sig.parameters.length)
    (hst : g.stack = argsL.reverse ++ .ref b :: rest) (has : (.ref b :: argsL).toArray = as) (hW : 2 * g.monitorRoom + (rest.map fun v => v.category).sum ≤ W) (hd : decode c.code g.pc = .ok (.invokevirtual index, 3)) (eT : T.heap = h)
    (hf : rm.frames + 1 ≤ R.frames) (hl : W + (maxL + 11) + rm.locals ≤ R.locals) (hc : cells + rm.cells ≤ R.cells) (hs : slots + rm.slots ≤ R.slots) :
    ∃ v T' L, Stand p l e R s m args below meth c T' (locs ++ L) (cells + rm.cells) (slots + rm.slots) ∧ Q v T'.heap L ∧ ∀ t, Steps p.tables e below (T'.setTop { g with pc := g.pc + 3, stack := v.toList ++ rest }) t → Steps p.tables e below (T.setTop g) t :=
  own_backV X hx hZ hown w1 w2 w5 w6 w4 w3 hy (backOf (W := W) hM hZ w4 w3 hf hl) hE hg hsize hlen hst has hW hd eT hc hs
end OwnKit

section OwnKit2
variable {p : Program} {l : Launch} {e : Env} {R : Room} {s : State} {m : MethodId} {args : Array Value} {below : List Frame} {meth : Method} {c : Code} {T : State} {locs : List Loc} {cells slots : Nat} {Z : State} {a0 : Array Value} {h : Heap}
/-- a synchronized body's contract; a: the receiver -/
abbrev own_CS (l : Launch) (Z : State) (y : MethodName) (bytes : ByteArray) (ml : Nat) (ret : Option FieldType) (rm : Room) (as : Array Value) (a : Addr) (h0 : Heap) (Q : Option Value → Heap → List Loc → Prop) : Prop :=
  MetFree l y (head1 [Jvm.Cond.codeSync y bytes ml ret, Jvm.Cond.instanceMethod y] rm) (fun as' U => as' = as ∧ Z.Warmed39 U.vm ∧ U.heap = h0 ∧ ∃ cell : Cell, h0[a]? = some cell ∧ cell.enterable U.cur) (fun _ _ _ _ _ => True) (fun _ U o U' => ∃ v L, o = .returned v ∧ Q v U'.heap L ∧ FrameEnd U o U' L rm.cells rm.slots)
theorem own_keep_set {hh : Heap} {a : Addr} {cl : Cell} (hc : hh[a]? = some cl) (mo : Monitor) : Keep hh (hh.setIfInBounds a { cl with monitor := mo }) [a] := by
  refine ⟨by simp, fun b c hb ne => ?_, fun b c hb => ?_⟩
  · rw [Array.getElem?_setIfInBounds_ne (fun q => ne (by simp [q]))]; exact hb
  · obtain ⟨mo', q⟩ := (mon_set hc mo).2 b c hb
    exact ⟨_, q, rfl, rfl, rfl⟩
theorem own_bodyS {y : MethodName} {bytes : ByteArray} {ml : Nat} {ret : Option FieldType} {rm : Room} {as : Array Value} {a : Addr} {h0 : Heap} {Q : Option Value → Heap → List Loc → Prop} {ls : Array Slot}
    (hy : plainFor y = true) (has : as[0]? = some (.ref a)) (hef : ∀ m, entryFrameSync m as ml a = mkL a m 0 ls [])
    (H : ∀ (p : Program) (e : Env) (s : State) (m : MethodId) (below : List Frame) (meth : Method) (c : Code) (T : State) (cell : Cell), Z.Warmed39 s.vm → p.tables.exec = Jvm.exec → c.code = bytes → c.maxLocals = ml → s.vm.findClass y.cls = some m.cls → meth.name = y.name → meth.sig.returnType = ret → meth.locks = true →
      s.heap[a]? = some cell → cell.enterable s.cur → s.heap = h0 → Mon h0 T.heap → Keep h0 T.heap [a] →
      Stand p l e rm (s.setCell a (cell.withEntry s.cur)) m as below meth c T [] 0 0 → own_R p.tables e below (own_E s below Q rm.cells rm.slots) T (mkL a m 0 ls [])) :
    own_CS l Z y bytes ml ret rm as a h0 Q := by
  refine MetFree.of_bodySync hy (hisS (List.mem_cons_self ..)) (fun _ s _ ⟨h1, _, h2, cl, h3, h4⟩ => ⟨a, cl, by rw [h1]; exact has, by rw [h2]; exact h3, h4⟩) ?_
  intro p e s0 m args below meth c a' cell s₁ Bd hml0 hP _
  obtain ⟨rfl, hZ0, hh0, -⟩ := hP
  obtain rfl : a' = a := by have q := Bd.receiver; rw [has] at q; cases q; rfl
  have M0 : Mon h0 s₁.heap := by rw [← hh0, Bd.state]; exact mon_set Bd.object _
  have K0 : Keep h0 s₁.heap [a'] := by rw [← hh0, Bd.state]; exact own_keep_set Bd.object _
  obtain ⟨t, st, v, L, h1, h2, h3, h4⟩ := H p e s0 m below meth c s₁ cell hZ0 Bd.exec Bd.bytes hml0 (findClass_of_methodNamed Bd.named) (name_of_methodNamed Bd.named Bd.method).1 Bd.returns Bd.synchronized Bd.object Bd.enterable hh0 M0 K0 (Stand.of_bodySync Bd)
  refine ⟨t, _, ?_, h1, h2, v, L, rfl, h3, h4⟩
  rw [hef m]; exact st
theorem own_endS {Q : Option Value → Heap → List Loc → Prop} {C N : Nat} {F : JFrame} {a : Addr} {cell : Cell} (X : Stand p l e R (s.setCell a (cell.withEntry s.cur)) m args below meth c T locs cells slots) (hc : s.heap[a]? = some cell) (ho : cell.enterable s.cur) (hlk : meth.locks = true) (v : Option Value) (hv : meth.sig.returnType = none → v = none)
    (hst : ∀ V, (∀ (f : JFrame) (acts : List Action), f.method = m → f.locked = some a → f.entered = [] → (doReturn e (T.setTop f) acts v).1 = V) → Steps p.tables e below (T.setTop F) V)
    (hQ : ∀ h', Mon T.heap h' → Keep T.heap h' [a] → (Unt s.heap a → Unt h' a) → (locs = [] → cells = 0 → h' = s.heap) → Q v h' locs) (hcC : cells ≤ C) (hn : slots ≤ N) : own_R p.tables e below (own_E s below Q C N) T F := by
  obtain ⟨fs, cT, hcT, hr, hrun, hend, hW, hs⟩ := X.leaveSync hc ho hlk hv
  refine ⟨_, hst _ hr, v, locs, hrun, hend, hQ _ ?_ ?_ ?_ ?_, ⟨_, rfl⟩, hW, hs.mono hcC hn⟩
  · show Mon T.heap (T.heap.setIfInBounds a cT.left)
    unfold Cell.left
    split <;> exact mon_set hcT _
  · show Keep T.heap (T.heap.setIfInBounds a cT.left) [a]
    unfold Cell.left
    split <;> exact own_keep_set hcT _
  · rintro ⟨c1, u1, u2, u3⟩
    obtain ⟨c', q1, q2, -⟩ := hs.2.2.2.2.2 a c1 u1
    exact ⟨c', q1, by rw [q2]; exact u2, by rw [q2]; exact u3⟩
  · rintro rfl rfl
    exact Jvm.Free.SL1IndexOf.heapEq0 (s := s) (t := { (T.setCell a cT.left).setFrames fs with vm := s.vm }) hs
/-- the payer of a synchronized callee -/
theorem own_backOfS {y : MethodName} {bytes : ByteArray} {maxL : Nat} {ret : Option FieldType} {rm : Room} {W : Nat} {as : Array Value} {a : Addr} {Q : Option Value → Heap → List Loc → Prop}
    (hM : own_CS l Z y bytes maxL ret rm as a h Q) (hZ : Z.Warmed39 s.vm) (wc : (Jvm.Cond.codeSync y bytes maxL ret).before a0 Z = true) (wi : (Jvm.Cond.instanceMethod y).before a0 Z = true) (wz : (Jvm.Cond.initialized y.cls).before a0 Z = true) (N : Unt h a) (hf : rm.frames + 1 ≤ R.frames) (hl : W + (maxL + 11) + rm.locals ≤ R.locals) :
    own_B l R p e below s args y W as h rm.cells rm.slots Q :=
  Jvm.Free.XT.back_of_sync (bytes := bytes) (maxL := maxL) (ret := ret) (E := fun _ _ o t L k n => k = rm.cells ∧ n = rm.slots ∧ ∃ v, o = .returned v ∧ Q v t.heap L) hM hf hl
    (fun m meth c A as Y hp => have hU : Z.Warmed39 A.U.vm := wtrans hZ Y.warmed
      ⟨by show (Jvm.Cond.and _ (Jvm.Cond.and _ .tt)).before as A.U = true; rw [Cond.before_and, Cond.before_and, mv hU wc, mv hU wi]; rfl, mv hU wc, mv hU wz, hp.2.2.1, hp.2.2.2⟩)
    (fun m meth c A as g mk Y hp => ⟨hp.1, wtrans hZ Y.warmed, hp.2.1, by obtain ⟨cl, u1, -, u3⟩ := N; exact ⟨cl, u1, by rw [Cell.enterable, u3]; simp⟩⟩)
    (fun _ _ _ _ _ _ _ _ _ => trivial)
    (fun _ _ _ _ ⟨v, L, h1, h2, h3⟩ => ⟨L, _, _, h3, rfl, rfl, v, h1, h2⟩)
    (fun m meth c A as g mk v t L k n Y hp _ _ ⟨e1, e2, v', e3, e4⟩ => by cases e3; subst e1 e2; exact ⟨L, e4, rfl, rfl, rfl⟩)
theorem own_callVS (X : Stand p l e R s m args below meth c T locs cells slots) (hx : p.tables.exec = Jvm.exec) (hZ : Z.Warmed39 s.vm) {own C : String} (hown : s.vm.findClass own = some m.cls) {index : Nat} {y : MethodName} {bytes : ByteArray} {maxL : Nat} {ret : Option FieldType}
    (w1 : (Jvm.Cond.methodLink own index y).before a0 Z = true) (w2 : (Jvm.Cond.declares y).before a0 Z = true) (w5 : (Jvm.Cond.selects C y y).before a0 Z = true) (w6 : (Jvm.Cond.instanceMethod y).before a0 Z = true) (w4 : (Jvm.Cond.codeSync y bytes maxL ret).before a0 Z = true) (w3 : (Jvm.Cond.initialized y.cls).before a0 Z = true) (hy : y.cls ≠ "java/lang/invoke/MethodHandle" ∧ y.cls ≠ "java/lang/invoke/VarHandle")
    {rm : Room} {as : Array Value} {Q : Option Value → Heap → List Loc → Prop} {b : Addr} (hM : own_CS l Z y bytes maxL ret rm as b h Q) (hE : Exa Z h b C) (N : Unt h b) {W : Nat}
    {g : JFrame} (hg : g.method = m) (hsize : g.locals.size = c.maxLocals) {argsL rest : List Value} (hlen : ∀ sig, parseMethodDescriptor y.desc = some sig → argsL.length = sig.parameters.length)
    (hst : g.stack = argsL.reverse ++ .ref b :: rest) (has : (.ref b :: argsL).toArray = as) (hW : 2 * g.monitorRoom + (rest.map fun v => v.category).sum ≤ W) (hd : decode c.code g.pc = .ok (.invokevirtual index, 3)) (eT : T.heap = h)
    (hf : rm.frames + 1 ≤ R.frames) (hl : W + (maxL + 11) + rm.locals ≤ R.locals) (hc : cells + rm.cells ≤ R.cells) (hs : slots + rm.slots ≤ R.slots) :
    ∃ v T' L, Stand p l e R s m args below meth c T' (locs ++ L) (cells + rm.cells) (slots + rm.slots) ∧ Q v T'.heap L ∧ ∀ t, Steps p.tables e below (T'.setTop { g with pc := g.pc + 3, stack := v.toList ++ rest }) t → Steps p.tables e below (T.setTop g) t := by
  obtain ⟨cq, kq, qa, qb, qc⟩ := isOf hZ eT hE
  obtain ⟨v, vm1, ⟨T1, L1, k1, n1⟩, -, X1, ⟨Lc, hQ, l1, y1, z1⟩, st⟩ := X.virtualBack hx (y := y) (z := y) hown (mvT hZ w1) (mvT hZ w2) (notFace_of_selects (args := #[]) (mvT hZ w5)) (mvT hZ w5) (mvT hZ w6) hy (own_backOfS (W := W) hM hZ w4 w6 w3 N hf hl) qa qc hg hsize (Steps.refl _) (argsL := argsL) (rest := rest) hlen hst hW hd (fun _ _ => ⟨has, eT, hc, hs⟩)
  dsimp only [Pt.U, Pt.locs, Pt.cells, Pt.slots] at X1 l1 y1 z1 st hQ
  subst l1 y1 z1
  exact ⟨v, T1, Lc, X1, hQ, fun _ k => st.trans k⟩
theorem own_callP (X : Stand p l e R s m args below meth c T locs cells slots) (hx : p.tables.exec = Jvm.exec) (hZ : Z.Warmed39 s.vm) {own : String} (hown : s.vm.findClass own = some m.cls) {index : Nat} {y : MethodName} {bytes : ByteArray} {maxL : Nat} {ret : Option FieldType}
    (w1 : (Jvm.Cond.methodLink own index y).before a0 Z = true) (w2 : (Jvm.Cond.privateMethod y).before a0 Z = true) (w5 : (Jvm.Cond.selects y.cls y y).before a0 Z = true) (w6 : (Jvm.Cond.instanceMethod y).before a0 Z = true) (w4 : (Jvm.Cond.code y bytes maxL ret).before a0 Z = true) (w3 : (Jvm.Cond.initialized y.cls).before a0 Z = true) (hy : y.cls ≠ "java/lang/invoke/MethodHandle" ∧ y.cls ≠ "java/lang/invoke/VarHandle")
    {rm : Room} {as : Array Value} {Q : Option Value → Heap → List Loc → Prop} {b : Addr} (hM : own_C l Z y bytes maxL ret [] rm as h Q) {C : String} (hE : Exa Z h b C) {W : Nat}
    {g : JFrame} (hg : g.method = m) (hsize : g.locals.size = c.maxLocals) {argsL rest : List Value} (hlen : ∀ sig, parseMethodDescriptor y.desc = some sig → argsL.length = sig.parameters.length)
    (hst : g.stack = argsL.reverse ++ .ref b :: rest) (has : (.ref b :: argsL).toArray = as) (hW : 2 * g.monitorRoom + (rest.map fun v => v.category).sum ≤ W) (hd : decode c.code g.pc = .ok (.invokevirtual index, 3)) (eT : T.heap = h)
    (hf : rm.frames + 1 ≤ R.frames) (hl : W + (maxL + 11) + rm.locals ≤ R.locals) (hc : cells + rm.cells ≤ R.cells) (hs : slots + rm.slots ≤ R.slots) :
    ∃ v T' L, Stand p l e R s m args below meth c T' (locs ++ L) (cells + rm.cells) (slots + rm.slots) ∧ Q v T'.heap L ∧ ∀ t, Steps p.tables e below (T'.setTop { g with pc := g.pc + 3, stack := v.toList ++ rest }) t → Steps p.tables e below (T.setTop g) t := by
  have ns := Exa.nostat hE
  obtain ⟨cellB, kq, qa, -⟩ := hE
  obtain ⟨v, vm1, ⟨T1, L1, k1, n1⟩, -, X1, ⟨Lc, hQ, l1, y1, z1⟩, st⟩ := X.privateBack hx (y := y) hown (mvT hZ w1) (mvT hZ w6) (mvT hZ w5) (Cond.privateMethod_at (mvT (args := #[]) hZ w2)) (mvT hZ w4) hy (backOf (W := W) hM hZ w4 w3 hf hl) hg hsize (Steps.refl _) (a := b) (cell := cellB) (by rw [eT]; exact qa) (fun z hz => by have := ns _ qa; rw [hz] at this; cases this) (argsL := argsL) (rest := rest) hlen hst hW hd (fun _ _ => ⟨has, eT, hc, hs⟩)
  dsimp only [Pt.U, Pt.locs, Pt.cells, Pt.slots] at X1 l1 y1 z1 st hQ
  subst l1 y1 z1
  exact ⟨v, T1, Lc, X1, hQ, fun _ k => st.trans k⟩
/-- what the end of a body that may intern must meet -/
def own_EW (s : State) (below : List Frame) (Q : Option Value → Heap → List Loc → Prop) (C N : Nat) (t : State) : Prop := ∃ v L, t.status = .running ∧ Ended t below (.returned v) ∧ Q v t.heap L ∧ ReturnedEndW s (.returned v) t L C N
abbrev own_CW (l : Launch) (Z : State) (y : MethodName) (bytes : ByteArray) (ml : Nat) (ret : Option FieldType) (ws : List Jvm.Cond) (rm : Room) (as : Array Value) (h0 : Heap) (Q : Option Value → Heap → List Loc → Prop) : Prop :=
  MetFree l y (head1 (Jvm.Cond.code y bytes ml ret :: ws) rm) (fun a U => a = as ∧ Z.Warmed39 U.vm ∧ U.heap = h0) (fun _ _ _ _ _ => True) (fun _ U o U' => ∃ v L, o = .returned v ∧ Q v U'.heap L ∧ ReturnedEndW U o U' L rm.cells rm.slots)
theorem own_bodyW {y : MethodName} {bytes : ByteArray} {ml : Nat} {ret : Option FieldType} {ws : List Jvm.Cond} {rm : Room} {as : Array Value} {h0 : Heap} {Q : Option Value → Heap → List Loc → Prop} {ls : Array Slot}
    (hy : plainFor y = true) (hef : ∀ m, entryFrame m as ml = mkF m 0 ls [])
    (H : ∀ (p : Program) (e : Env) (s : State) (m : MethodId) (below : List Frame) (meth : Method) (c : Code) (T : State), Z.Warmed39 s.vm → p.tables.exec = Jvm.exec → c.code = bytes → c.maxLocals = ml → s.vm.findClass y.cls = some m.cls → meth.name = y.name → meth.sig.returnType = ret → meth.locks = false →
      Stand p l e rm s m as below meth c T [] 0 0 → T.heap = h0 → own_R p.tables e below (own_EW s below Q rm.cells rm.slots) T (mkF m 0 ls [])) :
    own_CW l Z y bytes ml ret ws rm as h0 Q := by
  refine MetFree.of_bodySF hy hisR ?_
  intro p e s m args below meth c s₁ Bd hml0 hP hK
  obtain ⟨rfl, hZ, hh⟩ := hP
  obtain ⟨t, st, v, L, h1, h2, h3, h4⟩ := H p e s m below meth c s₁ hZ Bd.exec Bd.bytes hml0 (findClass_of_methodNamed Bd.named) (name_of_methodNamed Bd.named Bd.method).1 Bd.returns Bd.notSynchronized (Stand.of_body Bd) (by rw [← hh, Bd.state]; rfl)
  exact ⟨t, _, castTop (hef m) st, h1, h2, v, L, rfl, h3, h4⟩
theorem own_endW {vm0 : Vm} {k0 : Nat} {Q : Option Value → Heap → List Loc → Prop} {C N : Nat} {F : JFrame} (X : Stand p l e R (s.setVm vm0) m args below meth c T locs cells slots) (hS : s.Since vm0 k0) (hk : k0 ≤ T.heap.size) (v : Option Value) (hv : meth.sig.returnType = none → v = none) (hlk : meth.locks = false)
    (hst : ∀ fs, (∀ (f : JFrame) (acts : List Action), f.method = m → f.locked = none → f.entered = [] → (doReturn e (T.setTop f) acts v).1 = T.setFrames fs) → Steps p.tables e below (T.setTop F) (T.setFrames fs))
    (hQ : Q v T.heap locs) (hc : cells ≤ C) (hn : slots ≤ N) : own_R p.tables e below (own_EW s below Q C N) T F := by
  obtain ⟨fs, hr, hrun, hended, ⟨q1, q2, q3, q4⟩⟩ := X.leaveW hS hk (v := v) hv hlk
  exact ⟨_, hst fs hr, v, locs, hrun, hended, hQ, q1, q2, q3, q4.mono hc hn⟩
/-- ldc of a String constant, cold or warm, of which only the reference matters -/
theorem own_ldc (X : Stand p l e R s m args below meth c T locs cells slots) (hx : p.tables.exec = Jvm.exec) (hZ : Z.Warmed39 s.vm) {own text : String} {index : Nat} (hown : s.vm.findClass own = some m.cls) (w : (Jvm.Cond.stringLink own index text).before a0 Z = true) (wS : ∀ a ∈ Bundle.stringAtoms, a.before a0 Z = true)
    (eT : T.heap = h) {g : JFrame} (hg : g.method = m) (hd : decode c.code g.pc = .ok (.ldc index, 2)) {n : Nat} (hn : 4 * text.toList.length ≤ n) (hbig : n ≤ 536870912) (hc : cells + 2 ≤ R.cells) (hl : slots + (n + 4) ≤ R.slots) :
    ∃ (a : Addr) (T' : State) (h' : Heap), Stand p l e R (s.setVm T'.vm) m args below meth c T' locs (cells + 2) (slots + (n + 4)) ∧ T'.heap = h' ∧ Ext h h' ∧ s.Since T'.vm h'.size ∧ Z.Warmed39 (s.setVm T'.vm).vm ∧ (s.setVm T'.vm).vm.findClass own = some m.cls ∧
      ∀ target, Steps p.tables e below (T'.setTop { g with pc := g.pc + 2, stack := .ref a :: g.stack }) target → Steps p.tables e below (T.setTop g) target := by
  obtain ⟨a, T', X', hS', -, hb, hI, st⟩ := X.ldcStringCold hx (own := own) hown (mvS hZ w) (fun d hd => by
    have q := wS d hd
    simp only [Bundle.stringAtoms, List.mem_cons, List.not_mem_nil, or_false] at hd
    rcases hd with rfl | rfl | rfl | rfl | rfl | rfl | rfl
    · exact mv hZ q
    · exact mv hZ q
    · exact mvA hZ q
    · exact mv hZ q
    · exact mv hZ q
    · exact mv hZ q
    · exact mv hZ q) hg hd hn hbig hc hl
  subst eT
  exact ⟨a, T', _, X', rfl, ext_of hb, hS', hZ.trans hS'.1, by rw [show (s.setVm T'.vm).vm = T'.vm from rfl, hS'.1.alike.findClass]; exact hown, st⟩
end OwnKit2

section OwnKit3
variable {p : Program} {l : Launch} {e : Env} {R : Room} {s : State} {m : MethodId} {args : Array Value} {below : List Frame} {meth : Method} {c : Code} {T : State} {locs : List Loc} {cells slots : Nat} {Z : State} {a0 : Array Value} {h : Heap}
theorem own_ldC {a : Addr} {k : ClassId} {n j : Int32} {vs : List Value} {d v : Value} (X : Stand p l e R s m args below meth c T locs cells slots) (hx : p.tables.exec = Jvm.exec) (hZ : Z.Warmed39 s.vm) (eT : T.heap = h) (V : Arv Z h a k .char n vs d) (hj : ¬ j < 0 ∧ j < n) (hv : vs.getD j.toNatClampNeg d = v)
    {g : JFrame} (hg : g.method = m) {rest : List Value} (hs : g.stack = .int j :: .ref a :: rest) (hd : decode c.code g.pc = .ok (.caload, 1)) :
    ∀ t, Steps p.tables e below (T.setTop { g with pc := g.pc + 1, stack := v :: rest }) t → Steps p.tables e below (T.setTop g) t := by
  obtain ⟨cl, Ar, -, S, N, H, -⟩ := V
  intro t st
  exact X.caload hx (by rw [eT]; exact Ar.1) (State.isArrayOf_alike hZ.alike Ar.2.1) Ar.2.2 (inb_of S hj) (H.at (inb_of S hj) hv) hg hs hd t st
theorem own_ldB {a : Addr} {k : ClassId} {n j : Int32} {vs : List Value} {d v : Value} (X : Stand p l e R s m args below meth c T locs cells slots) (hx : p.tables.exec = Jvm.exec) (hZ : Z.Warmed39 s.vm) (eT : T.heap = h) (V : Arv Z h a k .byte n vs d) (hj : ¬ j < 0 ∧ j < n) (hv : vs.getD j.toNatClampNeg d = v)
    {g : JFrame} (hg : g.method = m) {rest : List Value} (hs : g.stack = .int j :: .ref a :: rest) (hd : decode c.code g.pc = .ok (.baload, 1)) :
    ∀ t, Steps p.tables e below (T.setTop { g with pc := g.pc + 1, stack := v :: rest }) t → Steps p.tables e below (T.setTop g) t := by
  obtain ⟨cl, Ar, -, S, N, H, -⟩ := V
  intro t st
  exact X.baloadBytes hx (by rw [eT]; exact Ar.1) (State.isArrayOf_alike hZ.alike Ar.2.1) Ar.2.2 (inb_of S hj) (H.at (inb_of S hj) hv) hg hs hd t st
theorem own_stB {a : Addr} {k : ClassId} {n j : Int32} {vs : List Value} {d : Value} {x : Int32} (X : Stand p l e R s m args below meth c T locs cells slots) (hx : p.tables.exec = Jvm.exec) (hZ : Z.Warmed39 s.vm) (eT : T.heap = h) (V : Arv Z h a k .byte n vs d) (hj : ¬ j < 0 ∧ j < n) (i : Nat) (hji : j.toNatClampNeg = i) (hi : i < vs.length)
    {g : JFrame} (hg : g.method = m) {rest : List Value} (hs : g.stack = .int x :: .int j :: .ref a :: rest) (hd : decode c.code g.pc = .ok (.bastore, 1)) :
    ∃ T' h', Stand p l e R s m args below meth c T' (locs ++ [⟨a, j.toNatClampNeg⟩]) cells slots ∧ T'.heap = h' ∧ Wr h h' a j.toNatClampNeg (.int (nar .byte x)) ∧ Arv Z h' a k .byte n (vs.set i (.int (nar .byte x))) d ∧ ∀ t, Steps p.tables e below (T'.setTop { g with pc := g.pc + 1, stack := rest }) t → Steps p.tables e below (T.setTop g) t := by
  obtain ⟨cl, Ar, q, S, N, H, G⟩ := V
  obtain ⟨T', h', X', e', W, st⟩ := stB X hx hZ eT Ar (inb_of S hj) hg hs hd
  exact ⟨T', h', X', e', W, Arv.set Ar q S N H G (fits_nar_byte x) W i hji hi, st⟩
/-- invokestatic of a callee that may intern -/
theorem own_callSW (X : Stand p l e R s m args below meth c T locs cells slots) (hx : p.tables.exec = Jvm.exec) (hZ : Z.Warmed39 s.vm) {own : String} (hown : s.vm.findClass own = some m.cls) {index : Nat} {y : MethodName} {bytes : ByteArray} {maxL : Nat} {ret : Option FieldType}
    (w1 : (Jvm.Cond.methodLink own index y).before a0 Z = true) (w2 : (Jvm.Cond.static y).before a0 Z = true) (w3 : (Jvm.Cond.initialized y.cls).before a0 Z = true) (w4 : (Jvm.Cond.code y bytes maxL ret).before a0 Z = true) (hy : y.cls ≠ "java/lang/invoke/MethodHandle" ∧ y.cls ≠ "java/lang/invoke/VarHandle")
    {rm : Room} {as : Array Value} {Q : Option Value → Heap → List Loc → Prop} (hM : own_CW l Z y bytes maxL ret [] rm as h Q) {W : Nat}
    {g : JFrame} (hg : g.method = m) (hsize : g.locals.size = c.maxLocals) {argsL rest : List Value} (hlen : ∀ sig, parseMethodDescriptor y.desc = some sig → argsL.length = sig.parameters.length)
    (hst : g.stack = argsL.reverse ++ rest) (has : argsL.toArray = as) (hW : 2 * g.monitorRoom + (rest.map fun v => v.category).sum ≤ W) (hd : decode c.code g.pc = .ok (.invokestatic index, 3)) (eT : T.heap = h)
    (hf : rm.frames + 1 ≤ R.frames) (hl : W + (maxL + 11) + rm.locals ≤ R.locals) (hc : cells + rm.cells ≤ R.cells) (hs : slots + rm.slots ≤ R.slots) :
    ∃ v T' L, Stand p l e R (s.setVm T'.vm) m args below meth c T' (locs ++ L) (cells + rm.cells) (slots + rm.slots) ∧ s.Since T'.vm T'.heap.size ∧ h.size ≤ T'.heap.size ∧ Q v T'.heap L ∧ Z.Warmed39 (s.setVm T'.vm).vm ∧ (s.setVm T'.vm).vm.findClass own = some m.cls ∧
      ∀ t, Steps p.tables e below (T'.setTop { g with pc := g.pc + 3, stack := v.toList ++ rest }) t → Steps p.tables e below (T.setTop g) t := by
  obtain ⟨v, vm1, ⟨T1, L1, k1, n1⟩, -, X1, hS, hgr, ⟨Lc, hQ, l1, y1, z1⟩, st⟩ := callSS X hx (y := y) hown (mvT hZ w1) (mvT hZ w2) (mvT hZ w3) (mvT hZ w4) hy (backOfS (W := W) hM hZ w4 w3 hf hl) hg hsize (argsL := argsL) (rest := rest) hlen hst hW hd (fun _ _ => ⟨has, eT, hc, hs⟩)
  dsimp only [Pt.U, Pt.locs, Pt.cells, Pt.slots] at X1 l1 y1 z1 st hQ hS hgr
  subst l1 y1 z1 eT
  exact ⟨v, T1, Lc, X1, hS, hgr, hQ, hZ.trans hS.1, by rw [show (s.setVm T1.vm).vm = T1.vm from rfl, hS.1.alike.findClass]; exact hown, fun _ k => st.trans k⟩
end OwnKit3

theorem own_nn (x : Int32) (h : 0 ≤ x.toInt) : (x.toBitVec.toNat : Int) = x.toInt := by
  have e : x.toInt = x.toBitVec.toInt := rfl
  rw [BitVec.toInt_eq_toNat_cond] at e
  split at e <;> omega
theorem own_shr8 (c : Int32) (h : 0 ≤ c.toInt) : (c >>> ((8 : Int32) &&& 31)).toInt = c.toInt / 256 := by
  show (c >>> ((8 : Int32) &&& 31)).toBitVec.toInt = _
  rw [Int32.toBitVec_shiftRight, show ((8 : Int32) &&& 31).toBitVec.smod 32 = 8#32 from by decide, BitVec.sshiftRight_eq', BitVec.toInt_sshiftRight, Int.shiftRight_eq_div_pow]
  rfl
theorem own_shr0 (c : Int32) : (c >>> ((0 : Int32) &&& 31)) = c := by
  apply Int32.toInt_inj.mp
  show (c >>> ((0 : Int32) &&& 31)).toBitVec.toInt = _
  rw [Int32.toBitVec_shiftRight, show ((0 : Int32) &&& 31).toBitVec.smod 32 = 0#32 from by decide, BitVec.sshiftRight_eq', BitVec.toInt_sshiftRight, Int.shiftRight_eq_div_pow]
  show c.toInt / 1 = _
  omega
theorem own_shl0 (c : Int32) : (c <<< ((0 : Int32) &&& 31)) = c := by
  apply Int32.toBitVec_inj.mp
  rw [Int32.toBitVec_shiftLeft, show ((0 : Int32) &&& 31).toBitVec.smod 32 = 0#32 from by decide]
  simp
theorem own_shl (c : Int32) (b : Int32) (k : Nat) (hb : b.toBitVec.smod 32 = BitVec.ofNat 32 k) (hk : k < 32) (h : 0 ≤ c.toInt) (h2 : c.toInt * 2 ^ k < 2147483648) : (c <<< b).toInt = c.toInt * 2 ^ k := by
  have q := own_nn c h
  have e : (c <<< b).toBitVec.toNat = c.toBitVec.toNat * 2 ^ k := by
    rw [Int32.toBitVec_shiftLeft, hb, BitVec.shiftLeft_eq', BitVec.toNat_shiftLeft, Nat.shiftLeft_eq]
    rw [show (BitVec.ofNat 32 k).toNat = k from by simp; omega]
    apply Nat.mod_eq_of_lt
    have : ((c.toBitVec.toNat * 2 ^ k : Nat) : Int) < 2147483648 := by push_cast; rw [q]; exact h2
    omega
  show (c <<< b).toBitVec.toInt = _
  have : ((c.toBitVec.toNat * 2 ^ k : Nat) : Int) = c.toInt * 2 ^ k := by push_cast; rw [q]
  rw [BitVec.toInt_eq_toNat_cond, e, if_pos (by omega), this]
def own_cx (c : Int32) : Prop := 0 ≤ c.toInt ∧ c.toInt ≤ 65535
abbrev own_lo (c : Int32) : Int32 := nar .byte ((c >>> ((0 : Int32) &&& 31)).toInt8.toInt32)
abbrev own_hi (c : Int32) : Int32 := nar .byte ((c >>> ((8 : Int32) &&& 31)).toInt8.toInt32)
theorem own_i2b2 (x : Int32) : nar .byte (x.toInt8.toInt32) = x.toInt8.toInt32 := by
  have q1 := c_i2b x
  have q2 := c_i2b x.toInt8.toInt32
  apply Int32.toInt_inj.mp
  show (x.toInt8.toInt32).toInt8.toInt32.toInt = _
  omega
theorem own_rt {c : Int32} (h : own_cx c) : nar .char ((((own_lo c) &&& (255 : Int32)) <<< ((0 : Int32) &&& 31) ||| ((own_hi c) &&& (255 : Int32)) <<< ((8 : Int32) &&& 31)).toUInt32.toUInt16.toUInt32.toInt32) = c := by
  obtain ⟨h1, h2⟩ := h
  unfold own_lo own_hi
  rw [own_i2b2, own_i2b2, own_shr0, own_shl0]
  have a1 := c_i2b c
  have a2 := c_i2b (c >>> ((8 : Int32) &&& 31))
  have a3 := own_shr8 c h1
  have b1 := c_mask (c.toInt8.toInt32) 255 8 (by decide) (by decide)
  have b2 := c_mask ((c >>> ((8 : Int32) &&& 31)).toInt8.toInt32) 255 8 (by decide) (by decide)
  rw [show ((2 ^ 8 : Nat) : Int) = 256 from rfl] at b1 b2
  generalize (c >>> ((8 : Int32) &&& 31)).toInt8.toInt32 &&& (255 : Int32) = y at *
  generalize c.toInt8.toInt32 &&& (255 : Int32) = x at *
  have b3 := own_shl y ((8 : Int32) &&& 31) 8 (by decide) (by decide) (by omega) (by omega)
  rw [show ((2 : Int) ^ 8) = 256 from rfl] at b3
  have b4 := c_or' x (y <<< ((8 : Int32) &&& 31)) 8 (by decide) 256 rfl (by omega) (by omega) (by omega)
  have b5 := rng32 (x ||| y <<< ((8 : Int32) &&& 31))
  have b6 := c_i2c (x ||| y <<< ((8 : Int32) &&& 31))
  have b7 := c_i2c ((x ||| y <<< ((8 : Int32) &&& 31)).toUInt32.toUInt16.toUInt32.toInt32)
  apply Int32.toInt_inj.mp
  show (((x ||| y <<< ((8 : Int32) &&& 31)).toUInt32.toUInt16.toUInt32.toInt32).toUInt32.toUInt16.toUInt32.toInt32).toInt = _
  omega

theorem d1_0 : decode jdk_42_method_3_code 0 = .ok (.aload_n 0, 1) := by decide +kernel
theorem d1_1 : decode jdk_42_method_3_code 1 = .ok (.aload_n 1, 1) := by decide +kernel
theorem d1_2 : decode jdk_42_method_3_code 2 = .ok (.iconst 0, 1) := by decide +kernel
theorem d1_3 : decode jdk_42_method_3_code 3 = .ok (.aload_n 1, 1) := by decide +kernel
theorem d1_4 : decode jdk_42_method_3_code 4 = .ok (.arraylength, 1) := by decide +kernel
theorem d1_5 : decode jdk_42_method_3_code 5 = .ok (.aconst_null, 1) := by decide +kernel
theorem d1_6 : decode jdk_42_method_3_code 6 = .ok (.invokespecial 27, 3) := by decide +kernel
theorem d1_9 : decode jdk_42_method_3_code 9 = .ok (.return_, 1) := by decide +kernel

theorem pn_1 : plainFor (⟨"java/lang/String", "<init>", "([C)V"⟩ : MethodName) = true := by first | exact plainFor_of_name (by first | (simp [plainName, overriddenIn]; done) | decide +kernel) | decide +kernel

theorem d2_0 : decode jdk_42_method_149_code 0 = .ok (.aload_n 0, 1) := by decide +kernel
theorem d2_1 : decode jdk_42_method_149_code 1 = .ok (.invokespecial 1, 3) := by decide +kernel
theorem d2_4 : decode jdk_42_method_149_code 4 = .ok (.iload_n 3, 1) := by decide +kernel
theorem d2_5 : decode jdk_42_method_149_code 5 = .ok (.ifCond .ne 22, 3) := by decide +kernel
theorem d2_8 : decode jdk_42_method_149_code 8 = .ok (.aload_n 0, 1) := by decide +kernel
theorem d2_9 : decode jdk_42_method_149_code 9 = .ok (.ldc 7, 2) := by decide +kernel
theorem d2_11 : decode jdk_42_method_149_code 11 = .ok (.getfield 9, 3) := by decide +kernel
theorem d2_14 : decode jdk_42_method_149_code 14 = .ok (.putfield 9, 3) := by decide +kernel
theorem d2_17 : decode jdk_42_method_149_code 17 = .ok (.aload_n 0, 1) := by decide +kernel
theorem d2_18 : decode jdk_42_method_149_code 18 = .ok (.ldc 7, 2) := by decide +kernel
theorem d2_20 : decode jdk_42_method_149_code 20 = .ok (.getfield 15, 3) := by decide +kernel
theorem d2_23 : decode jdk_42_method_149_code 23 = .ok (.putfield 15, 3) := by decide +kernel
theorem d2_26 : decode jdk_42_method_149_code 26 = .ok (.return_, 1) := by decide +kernel
theorem d2_27 : decode jdk_42_method_149_code 27 = .ok (.getstatic 38, 3) := by decide +kernel
theorem d2_30 : decode jdk_42_method_149_code 30 = .ok (.ifCond .eq 28, 3) := by decide +kernel
theorem d2_33 : decode jdk_42_method_149_code 33 = .ok (.aload_n 1, 1) := by decide +kernel
theorem d2_34 : decode jdk_42_method_149_code 34 = .ok (.iload_n 2, 1) := by decide +kernel
theorem d2_35 : decode jdk_42_method_149_code 35 = .ok (.iload_n 3, 1) := by decide +kernel
theorem d2_36 : decode jdk_42_method_149_code 36 = .ok (.invokestatic 177, 3) := by decide +kernel
theorem d2_39 : decode jdk_42_method_149_code 39 = .ok (.astore 5, 2) := by decide +kernel
theorem d2_41 : decode jdk_42_method_149_code 41 = .ok (.aload_n 0, 1) := by decide +kernel
theorem d2_42 : decode jdk_42_method_149_code 42 = .ok (.aload 5, 2) := by decide +kernel
theorem d2_44 : decode jdk_42_method_149_code 44 = .ok (.iload_n 3, 1) := by decide +kernel
theorem d2_45 : decode jdk_42_method_149_code 45 = .ok (.invokestatic 47, 3) := by decide +kernel
theorem d2_48 : decode jdk_42_method_149_code 48 = .ok (.putfield 15, 3) := by decide +kernel
theorem d2_51 : decode jdk_42_method_149_code 51 = .ok (.aload_n 0, 1) := by decide +kernel
theorem d2_52 : decode jdk_42_method_149_code 52 = .ok (.aload 5, 2) := by decide +kernel
theorem d2_54 : decode jdk_42_method_149_code 54 = .ok (.putfield 9, 3) := by decide +kernel
theorem d2_57 : decode jdk_42_method_149_code 57 = .ok (.return_, 1) := by decide +kernel
theorem d2_58 : decode jdk_42_method_149_code 58 = .ok (.aload_n 0, 1) := by decide +kernel
theorem d2_59 : decode jdk_42_method_149_code 59 = .ok (.iconst 1, 1) := by decide +kernel
theorem d2_60 : decode jdk_42_method_149_code 60 = .ok (.putfield 15, 3) := by decide +kernel
theorem d2_63 : decode jdk_42_method_149_code 63 = .ok (.aload_n 0, 1) := by decide +kernel
theorem d2_64 : decode jdk_42_method_149_code 64 = .ok (.aload_n 1, 1) := by decide +kernel
theorem d2_65 : decode jdk_42_method_149_code 65 = .ok (.iload_n 2, 1) := by decide +kernel
theorem d2_66 : decode jdk_42_method_149_code 66 = .ok (.iload_n 3, 1) := by decide +kernel
theorem d2_67 : decode jdk_42_method_149_code 67 = .ok (.invokestatic 180, 3) := by decide +kernel
theorem d2_70 : decode jdk_42_method_149_code 70 = .ok (.putfield 9, 3) := by decide +kernel
theorem d2_73 : decode jdk_42_method_149_code 73 = .ok (.return_, 1) := by decide +kernel

theorem pn_2 : plainFor (⟨"java/lang/String", "<init>", "([CIILjava/lang/Void;)V"⟩ : MethodName) = true := by first | exact plainFor_of_name (by first | (simp [plainName, overriddenIn]; done) | decide +kernel) | decide +kernel

theorem d4_0 : decode jdk_52_method_16_code 0 = .ok (.iload_n 2, 1) := by decide +kernel
theorem d4_1 : decode jdk_52_method_16_code 1 = .ok (.newarray .byte, 2) := by decide +kernel
theorem d4_3 : decode jdk_52_method_16_code 3 = .ok (.astore_n 3, 1) := by decide +kernel
theorem d4_4 : decode jdk_52_method_16_code 4 = .ok (.aload_n 0, 1) := by decide +kernel
theorem d4_5 : decode jdk_52_method_16_code 5 = .ok (.iload_n 1, 1) := by decide +kernel
theorem d4_6 : decode jdk_52_method_16_code 6 = .ok (.aload_n 3, 1) := by decide +kernel
theorem d4_7 : decode jdk_52_method_16_code 7 = .ok (.iconst 0, 1) := by decide +kernel
theorem d4_8 : decode jdk_52_method_16_code 8 = .ok (.iload_n 2, 1) := by decide +kernel
theorem d4_9 : decode jdk_52_method_16_code 9 = .ok (.invokestatic 115, 3) := by decide +kernel
theorem d4_12 : decode jdk_52_method_16_code 12 = .ok (.istore 4, 2) := by decide +kernel
theorem d4_14 : decode jdk_52_method_16_code 14 = .ok (.iload 4, 2) := by decide +kernel
theorem d4_16 : decode jdk_52_method_16_code 16 = .ok (.iload_n 2, 1) := by decide +kernel
theorem d4_17 : decode jdk_52_method_16_code 17 = .ok (.if_icmp .eq 40, 3) := by decide +kernel
theorem d4_20 : decode jdk_52_method_16_code 20 = .ok (.aload_n 0, 1) := by decide +kernel
theorem d4_21 : decode jdk_52_method_16_code 21 = .ok (.iload_n 1, 1) := by decide +kernel
theorem d4_22 : decode jdk_52_method_16_code 22 = .ok (.iload_n 2, 1) := by decide +kernel
theorem d4_23 : decode jdk_52_method_16_code 23 = .ok (.invokestatic 119, 3) := by decide +kernel
theorem d4_26 : decode jdk_52_method_16_code 26 = .ok (.astore 5, 2) := by decide +kernel
theorem d4_28 : decode jdk_52_method_16_code 28 = .ok (.aload 5, 2) := by decide +kernel
theorem d4_30 : decode jdk_52_method_16_code 30 = .ok (.iload 4, 2) := by decide +kernel
theorem d4_32 : decode jdk_52_method_16_code 32 = .ok (.invokestatic 71, 3) := by decide +kernel
theorem d4_35 : decode jdk_52_method_16_code 35 = .ok (.sipush 255, 3) := by decide +kernel
theorem d4_38 : decode jdk_52_method_16_code 38 = .ok (.if_icmp .gt 16, 3) := by decide +kernel
theorem d4_41 : decode jdk_52_method_16_code 41 = .ok (.aload 5, 2) := by decide +kernel
theorem d4_43 : decode jdk_52_method_16_code 43 = .ok (.iconst 0, 1) := by decide +kernel
theorem d4_44 : decode jdk_52_method_16_code 44 = .ok (.aload_n 3, 1) := by decide +kernel
theorem d4_45 : decode jdk_52_method_16_code 45 = .ok (.iconst 0, 1) := by decide +kernel
theorem d4_46 : decode jdk_52_method_16_code 46 = .ok (.iload_n 2, 1) := by decide +kernel
theorem d4_47 : decode jdk_52_method_16_code 47 = .ok (.invokestatic 123, 3) := by decide +kernel
theorem d4_50 : decode jdk_52_method_16_code 50 = .ok (.iload_n 2, 1) := by decide +kernel
theorem d4_51 : decode jdk_52_method_16_code 51 = .ok (.if_icmp .eq 6, 3) := by decide +kernel
theorem d4_54 : decode jdk_52_method_16_code 54 = .ok (.aload 5, 2) := by decide +kernel
theorem d4_56 : decode jdk_52_method_16_code 56 = .ok (.areturn, 1) := by decide +kernel
theorem d4_57 : decode jdk_52_method_16_code 57 = .ok (.aload_n 3, 1) := by decide +kernel
theorem d4_58 : decode jdk_52_method_16_code 58 = .ok (.areturn, 1) := by decide +kernel

theorem pn_4 : plainFor (⟨"java/lang/StringUTF16", "compress", "([CII)[B"⟩ : MethodName) = true := by first | exact plainFor_of_name (by first | (simp [plainName, overriddenIn]; done) | decide +kernel) | decide +kernel

theorem d5_0 : decode jdk_52_method_21_code 0 = .ok (.iconst 0, 1) := by decide +kernel
theorem d5_1 : decode jdk_52_method_21_code 1 = .ok (.istore 5, 2) := by decide +kernel
theorem d5_3 : decode jdk_52_method_21_code 3 = .ok (.iload 5, 2) := by decide +kernel
theorem d5_5 : decode jdk_52_method_21_code 5 = .ok (.iload 4, 2) := by decide +kernel
theorem d5_7 : decode jdk_52_method_21_code 7 = .ok (.if_icmp .ge 37, 3) := by decide +kernel
theorem d5_10 : decode jdk_52_method_21_code 10 = .ok (.aload_n 0, 1) := by decide +kernel
theorem d5_11 : decode jdk_52_method_21_code 11 = .ok (.iload_n 1, 1) := by decide +kernel
theorem d5_12 : decode jdk_52_method_21_code 12 = .ok (.caload, 1) := by decide +kernel
theorem d5_13 : decode jdk_52_method_21_code 13 = .ok (.istore 6, 2) := by decide +kernel
theorem d5_15 : decode jdk_52_method_21_code 15 = .ok (.iload 6, 2) := by decide +kernel
theorem d5_17 : decode jdk_52_method_21_code 17 = .ok (.sipush 255, 3) := by decide +kernel
theorem d5_20 : decode jdk_52_method_21_code 20 = .ok (.if_icmp .le 6, 3) := by decide +kernel
theorem d5_23 : decode jdk_52_method_21_code 23 = .ok (.iload 5, 2) := by decide +kernel
theorem d5_25 : decode jdk_52_method_21_code 25 = .ok (.ireturn, 1) := by decide +kernel
theorem d5_26 : decode jdk_52_method_21_code 26 = .ok (.aload_n 2, 1) := by decide +kernel
theorem d5_27 : decode jdk_52_method_21_code 27 = .ok (.iload_n 3, 1) := by decide +kernel
theorem d5_28 : decode jdk_52_method_21_code 28 = .ok (.iload 6, 2) := by decide +kernel
theorem d5_30 : decode jdk_52_method_21_code 30 = .ok (.i2b, 1) := by decide +kernel
theorem d5_31 : decode jdk_52_method_21_code 31 = .ok (.bastore, 1) := by decide +kernel
theorem d5_32 : decode jdk_52_method_21_code 32 = .ok (.iinc 1 1, 3) := by decide +kernel
theorem d5_35 : decode jdk_52_method_21_code 35 = .ok (.iinc 3 1, 3) := by decide +kernel
theorem d5_38 : decode jdk_52_method_21_code 38 = .ok (.iinc 5 1, 3) := by decide +kernel
theorem d5_41 : decode jdk_52_method_21_code 41 = .ok (.goto (-38), 3) := by decide +kernel
theorem d5_44 : decode jdk_52_method_21_code 44 = .ok (.iload 4, 2) := by decide +kernel
theorem d5_46 : decode jdk_52_method_21_code 46 = .ok (.ireturn, 1) := by decide +kernel

theorem pn_5 : plainFor (⟨"java/lang/StringUTF16", "compress", "([CI[BII)I"⟩ : MethodName) = true := by first | exact plainFor_of_name (by first | (simp [plainName, overriddenIn]; done) | decide +kernel) | decide +kernel

theorem d6_0 : decode jdk_52_method_15_code 0 = .ok (.iload_n 1, 1) := by decide +kernel
theorem d6_1 : decode jdk_52_method_15_code 1 = .ok (.aload_n 0, 1) := by decide +kernel
theorem d6_2 : decode jdk_52_method_15_code 2 = .ok (.arraylength, 1) := by decide +kernel
theorem d6_3 : decode jdk_52_method_15_code 3 = .ok (.isub, 1) := by decide +kernel
theorem d6_4 : decode jdk_52_method_15_code 4 = .ok (.bipush 31, 2) := by decide +kernel
theorem d6_6 : decode jdk_52_method_15_code 6 = .ok (.iushr, 1) := by decide +kernel
theorem d6_7 : decode jdk_52_method_15_code 7 = .ok (.i2b, 1) := by decide +kernel
theorem d6_8 : decode jdk_52_method_15_code 8 = .ok (.ireturn, 1) := by decide +kernel

theorem pn_6 : plainFor (⟨"java/lang/StringUTF16", "coderFromArrayLen", "([BI)B"⟩ : MethodName) = true := by first | exact plainFor_of_name (by first | (simp [plainName, overriddenIn]; done) | decide +kernel) | decide +kernel

theorem d7_0 : decode prog_10_method_2_code 0 = .ok (.aload_n 0, 1) := by decide +kernel
theorem d7_1 : decode prog_10_method_2_code 1 = .ok (.ldc 7, 2) := by decide +kernel
theorem d7_3 : decode prog_10_method_2_code 3 = .ok (.invokestatic 9, 3) := by decide +kernel
theorem d7_6 : decode prog_10_method_2_code 6 = .ok (.pop, 1) := by decide +kernel
theorem d7_7 : decode prog_10_method_2_code 7 = .ok (.aload_n 0, 1) := by decide +kernel
theorem d7_8 : decode prog_10_method_2_code 8 = .ok (.invokevirtual 15, 3) := by decide +kernel
theorem d7_11 : decode prog_10_method_2_code 11 = .ok (.ifCond .eq 17, 3) := by decide +kernel
theorem d7_14 : decode prog_10_method_2_code 14 = .ok (.new 21, 3) := by decide +kernel
theorem d7_17 : decode prog_10_method_2_code 17 = .ok (.dup, 1) := by decide +kernel
theorem d7_18 : decode prog_10_method_2_code 18 = .ok (.aload_n 1, 1) := by decide +kernel
theorem d7_19 : decode prog_10_method_2_code 19 = .ok (.invokedynamic 23, 5) := by decide +kernel
theorem d7_24 : decode prog_10_method_2_code 24 = .ok (.invokespecial 27, 3) := by decide +kernel
theorem d7_27 : decode prog_10_method_2_code 27 = .ok (.athrow, 1) := by decide +kernel
theorem d7_28 : decode prog_10_method_2_code 28 = .ok (.aload_n 0, 1) := by decide +kernel
theorem d7_29 : decode prog_10_method_2_code 29 = .ok (.areturn, 1) := by decide +kernel

theorem pn_7 : plainFor (⟨"com/example/cerrojo/cerrojo/lock/Keys", "checkName", "(Ljava/lang/String;Ljava/lang/String;)Ljava/lang/String;"⟩ : MethodName) = true := by first | exact plainFor_of_name (by first | (simp [plainName, overriddenIn]; done) | decide +kernel) | decide +kernel

theorem d8_0 : decode jdk_31_method_11_code 0 = .ok (.aload_n 0, 1) := by decide +kernel
theorem d8_1 : decode jdk_31_method_11_code 1 = .ok (.ifnonnull 12, 3) := by decide +kernel
theorem d8_4 : decode jdk_31_method_11_code 4 = .ok (.new 84, 3) := by decide +kernel
theorem d8_7 : decode jdk_31_method_11_code 7 = .ok (.dup, 1) := by decide +kernel
theorem d8_8 : decode jdk_31_method_11_code 8 = .ok (.aload_n 1, 1) := by decide +kernel
theorem d8_9 : decode jdk_31_method_11_code 9 = .ok (.invokespecial 87, 3) := by decide +kernel
theorem d8_12 : decode jdk_31_method_11_code 12 = .ok (.athrow, 1) := by decide +kernel
theorem d8_13 : decode jdk_31_method_11_code 13 = .ok (.aload_n 0, 1) := by decide +kernel
theorem d8_14 : decode jdk_31_method_11_code 14 = .ok (.areturn, 1) := by decide +kernel

theorem pn_8 : plainFor (⟨"java/util/Objects", "requireNonNull", "(Ljava/lang/Object;Ljava/lang/String;)Ljava/lang/Object;"⟩ : MethodName) = true := by first | exact plainFor_of_name (by first | (simp [plainName, overriddenIn]; done) | decide +kernel) | decide +kernel

theorem d9_0 : decode jdk_42_method_55_code 0 = .ok (.aload_n 0, 1) := by decide +kernel
theorem d9_1 : decode jdk_42_method_55_code 1 = .ok (.getfield 9, 3) := by decide +kernel
theorem d9_4 : decode jdk_42_method_55_code 4 = .ok (.arraylength, 1) := by decide +kernel
theorem d9_5 : decode jdk_42_method_55_code 5 = .ok (.ifCond .ne 7, 3) := by decide +kernel
theorem d9_8 : decode jdk_42_method_55_code 8 = .ok (.iconst 1, 1) := by decide +kernel
theorem d9_9 : decode jdk_42_method_55_code 9 = .ok (.goto 4, 3) := by decide +kernel
theorem d9_12 : decode jdk_42_method_55_code 12 = .ok (.iconst 0, 1) := by decide +kernel
theorem d9_13 : decode jdk_42_method_55_code 13 = .ok (.ireturn, 1) := by decide +kernel

theorem pn_9 : plainFor (⟨"java/lang/String", "isEmpty", "()Z"⟩ : MethodName) = true := by first | exact plainFor_of_name (by first | (simp [plainName, overriddenIn]; done) | decide +kernel) | decide +kernel

theorem d10_0 : decode jdk_42_method_139_code 0 = .ok (.getstatic 38, 3) := by decide +kernel
theorem d10_3 : decode jdk_42_method_139_code 3 = .ok (.ifCond .eq 23, 3) := by decide +kernel
theorem d10_6 : decode jdk_42_method_139_code 6 = .ok (.iload_n 0, 1) := by decide +kernel
theorem d10_7 : decode jdk_42_method_139_code 7 = .ok (.invokestatic 1015, 3) := by decide +kernel
theorem d10_10 : decode jdk_42_method_139_code 10 = .ok (.ifCond .eq 16, 3) := by decide +kernel
theorem d10_13 : decode jdk_42_method_139_code 13 = .ok (.new 10, 3) := by decide +kernel
theorem d10_16 : decode jdk_42_method_139_code 16 = .ok (.dup, 1) := by decide +kernel
theorem d10_17 : decode jdk_42_method_139_code 17 = .ok (.iload_n 0, 1) := by decide +kernel
theorem d10_18 : decode jdk_42_method_139_code 18 = .ok (.invokestatic 1018, 3) := by decide +kernel
theorem d10_21 : decode jdk_42_method_139_code 21 = .ok (.iconst 0, 1) := by decide +kernel
theorem d10_22 : decode jdk_42_method_139_code 22 = .ok (.invokespecial 209, 3) := by decide +kernel
theorem d10_25 : decode jdk_42_method_139_code 25 = .ok (.areturn, 1) := by decide +kernel
theorem d10_26 : decode jdk_42_method_139_code 26 = .ok (.new 10, 3) := by decide +kernel
theorem d10_29 : decode jdk_42_method_139_code 29 = .ok (.dup, 1) := by decide +kernel
theorem d10_30 : decode jdk_42_method_139_code 30 = .ok (.iload_n 0, 1) := by decide +kernel
theorem d10_31 : decode jdk_42_method_139_code 31 = .ok (.invokestatic 1021, 3) := by decide +kernel
theorem d10_34 : decode jdk_42_method_139_code 34 = .ok (.iconst 1, 1) := by decide +kernel
theorem d10_35 : decode jdk_42_method_139_code 35 = .ok (.invokespecial 209, 3) := by decide +kernel
theorem d10_38 : decode jdk_42_method_139_code 38 = .ok (.areturn, 1) := by decide +kernel

theorem pn_10 : plainFor (⟨"java/lang/String", "valueOf", "(C)Ljava/lang/String;"⟩ : MethodName) = true := by first | exact plainFor_of_name (by first | (simp [plainName, overriddenIn]; done) | decide +kernel) | decide +kernel

theorem d11_0 : decode jdk_43_method_3_code 0 = .ok (.iload_n 0, 1) := by decide +kernel
theorem d11_1 : decode jdk_43_method_3_code 1 = .ok (.sipush 255, 3) := by decide +kernel
theorem d11_4 : decode jdk_43_method_3_code 4 = .ok (.if_icmp .gt 7, 3) := by decide +kernel
theorem d11_7 : decode jdk_43_method_3_code 7 = .ok (.iconst 1, 1) := by decide +kernel
theorem d11_8 : decode jdk_43_method_3_code 8 = .ok (.goto 4, 3) := by decide +kernel
theorem d11_11 : decode jdk_43_method_3_code 11 = .ok (.iconst 0, 1) := by decide +kernel
theorem d11_12 : decode jdk_43_method_3_code 12 = .ok (.ireturn, 1) := by decide +kernel

theorem pn_11 : plainFor (⟨"java/lang/StringLatin1", "canEncode", "(C)Z"⟩ : MethodName) = true := by first | exact plainFor_of_name (by first | (simp [plainName, overriddenIn]; done) | decide +kernel) | decide +kernel

theorem d12_0 : decode jdk_43_method_46_code 0 = .ok (.iconst 1, 1) := by decide +kernel
theorem d12_1 : decode jdk_43_method_46_code 1 = .ok (.newarray .byte, 2) := by decide +kernel
theorem d12_3 : decode jdk_43_method_46_code 3 = .ok (.dup, 1) := by decide +kernel
theorem d12_4 : decode jdk_43_method_46_code 4 = .ok (.iconst 0, 1) := by decide +kernel
theorem d12_5 : decode jdk_43_method_46_code 5 = .ok (.iload_n 0, 1) := by decide +kernel
theorem d12_6 : decode jdk_43_method_46_code 6 = .ok (.i2b, 1) := by decide +kernel
theorem d12_7 : decode jdk_43_method_46_code 7 = .ok (.bastore, 1) := by decide +kernel
theorem d12_8 : decode jdk_43_method_46_code 8 = .ok (.areturn, 1) := by decide +kernel

theorem pn_12 : plainFor (⟨"java/lang/StringLatin1", "toBytes", "(C)[B"⟩ : MethodName) = true := by first | exact plainFor_of_name (by first | (simp [plainName, overriddenIn]; done) | decide +kernel) | decide +kernel

theorem d13_0 : decode jdk_42_method_151_code 0 = .ok (.aload_n 0, 1) := by decide +kernel
theorem d13_1 : decode jdk_42_method_151_code 1 = .ok (.invokespecial 1, 3) := by decide +kernel
theorem d13_4 : decode jdk_42_method_151_code 4 = .ok (.aload_n 0, 1) := by decide +kernel
theorem d13_5 : decode jdk_42_method_151_code 5 = .ok (.aload_n 1, 1) := by decide +kernel
theorem d13_6 : decode jdk_42_method_151_code 6 = .ok (.putfield 9, 3) := by decide +kernel
theorem d13_9 : decode jdk_42_method_151_code 9 = .ok (.aload_n 0, 1) := by decide +kernel
theorem d13_10 : decode jdk_42_method_151_code 10 = .ok (.iload_n 2, 1) := by decide +kernel
theorem d13_11 : decode jdk_42_method_151_code 11 = .ok (.putfield 15, 3) := by decide +kernel
theorem d13_14 : decode jdk_42_method_151_code 14 = .ok (.return_, 1) := by decide +kernel

theorem pn_13 : plainFor (⟨"java/lang/String", "<init>", "([BB)V"⟩ : MethodName) = true := by first | exact plainFor_of_name (by first | (simp [plainName, overriddenIn]; done) | decide +kernel) | decide +kernel

theorem d14_0 : decode jdk_52_method_14_code 0 = .ok (.iload_n 2, 1) := by decide +kernel
theorem d14_1 : decode jdk_52_method_14_code 1 = .ok (.invokestatic 107, 3) := by decide +kernel
theorem d14_4 : decode jdk_52_method_14_code 4 = .ok (.astore_n 3, 1) := by decide +kernel
theorem d14_5 : decode jdk_52_method_14_code 5 = .ok (.iconst 0, 1) := by decide +kernel
theorem d14_6 : decode jdk_52_method_14_code 6 = .ok (.istore 4, 2) := by decide +kernel
theorem d14_8 : decode jdk_52_method_14_code 8 = .ok (.iload 4, 2) := by decide +kernel
theorem d14_10 : decode jdk_52_method_14_code 10 = .ok (.iload_n 2, 1) := by decide +kernel
theorem d14_11 : decode jdk_52_method_14_code 11 = .ok (.if_icmp .ge 21, 3) := by decide +kernel
theorem d14_14 : decode jdk_52_method_14_code 14 = .ok (.aload_n 3, 1) := by decide +kernel
theorem d14_15 : decode jdk_52_method_14_code 15 = .ok (.iload 4, 2) := by decide +kernel
theorem d14_17 : decode jdk_52_method_14_code 17 = .ok (.aload_n 0, 1) := by decide +kernel
theorem d14_18 : decode jdk_52_method_14_code 18 = .ok (.iload_n 1, 1) := by decide +kernel
theorem d14_19 : decode jdk_52_method_14_code 19 = .ok (.caload, 1) := by decide +kernel
theorem d14_20 : decode jdk_52_method_14_code 20 = .ok (.invokestatic 111, 3) := by decide +kernel
theorem d14_23 : decode jdk_52_method_14_code 23 = .ok (.iinc 1 1, 3) := by decide +kernel
theorem d14_26 : decode jdk_52_method_14_code 26 = .ok (.iinc 4 1, 3) := by decide +kernel
theorem d14_29 : decode jdk_52_method_14_code 29 = .ok (.goto (-21), 3) := by decide +kernel
theorem d14_32 : decode jdk_52_method_14_code 32 = .ok (.aload_n 3, 1) := by decide +kernel
theorem d14_33 : decode jdk_52_method_14_code 33 = .ok (.areturn, 1) := by decide +kernel

theorem pn_14 : plainFor (⟨"java/lang/StringUTF16", "toBytes", "([CII)[B"⟩ : MethodName) = true := by first | exact plainFor_of_name (by first | (simp [plainName, overriddenIn]; done) | decide +kernel) | decide +kernel

theorem d15_0 : decode jdk_52_method_2_code 0 = .ok (.iload_n 0, 1) := by decide +kernel
theorem d15_1 : decode jdk_52_method_2_code 1 = .ok (.invokestatic 11, 3) := by decide +kernel
theorem d15_4 : decode jdk_52_method_2_code 4 = .ok (.newarray .byte, 2) := by decide +kernel
theorem d15_6 : decode jdk_52_method_2_code 6 = .ok (.areturn, 1) := by decide +kernel

theorem pn_15 : plainFor (⟨"java/lang/StringUTF16", "newBytesFor", "(I)[B"⟩ : MethodName) = true := by first | exact plainFor_of_name (by first | (simp [plainName, overriddenIn]; done) | decide +kernel) | decide +kernel

theorem d16_0 : decode jdk_52_method_3_code 0 = .ok (.iload_n 0, 1) := by decide +kernel
theorem d16_1 : decode jdk_52_method_3_code 1 = .ok (.ifCond .ge 11, 3) := by decide +kernel
theorem d16_4 : decode jdk_52_method_3_code 4 = .ok (.new 17, 3) := by decide +kernel
theorem d16_7 : decode jdk_52_method_3_code 7 = .ok (.dup, 1) := by decide +kernel
theorem d16_8 : decode jdk_52_method_3_code 8 = .ok (.invokespecial 19, 3) := by decide +kernel
theorem d16_11 : decode jdk_52_method_3_code 11 = .ok (.athrow, 1) := by decide +kernel
theorem d16_12 : decode jdk_52_method_3_code 12 = .ok (.iload_n 0, 1) := by decide +kernel
theorem d16_13 : decode jdk_52_method_3_code 13 = .ok (.ldc 20, 2) := by decide +kernel
theorem d16_15 : decode jdk_52_method_3_code 15 = .ok (.if_icmp .lt 40, 3) := by decide +kernel
theorem d16_18 : decode jdk_52_method_3_code 18 = .ok (.new 21, 3) := by decide +kernel
theorem d16_21 : decode jdk_52_method_3_code 21 = .ok (.dup, 1) := by decide +kernel
theorem d16_22 : decode jdk_52_method_3_code 22 = .ok (.new 23, 3) := by decide +kernel
theorem d16_25 : decode jdk_52_method_3_code 25 = .ok (.dup, 1) := by decide +kernel
theorem d16_26 : decode jdk_52_method_3_code 26 = .ok (.invokespecial 25, 3) := by decide +kernel
theorem d16_29 : decode jdk_52_method_3_code 29 = .ok (.ldc 26, 2) := by decide +kernel
theorem d16_31 : decode jdk_52_method_3_code 31 = .ok (.invokevirtual 28, 3) := by decide +kernel
theorem d16_34 : decode jdk_52_method_3_code 34 = .ok (.iload_n 0, 1) := by decide +kernel
theorem d16_35 : decode jdk_52_method_3_code 35 = .ok (.invokevirtual 32, 3) := by decide +kernel
theorem d16_38 : decode jdk_52_method_3_code 38 = .ok (.ldc 35, 2) := by decide +kernel
theorem d16_40 : decode jdk_52_method_3_code 40 = .ok (.invokevirtual 28, 3) := by decide +kernel
theorem d16_43 : decode jdk_52_method_3_code 43 = .ok (.ldc 20, 2) := by decide +kernel
theorem d16_45 : decode jdk_52_method_3_code 45 = .ok (.invokevirtual 32, 3) := by decide +kernel
theorem d16_48 : decode jdk_52_method_3_code 48 = .ok (.invokevirtual 37, 3) := by decide +kernel
theorem d16_51 : decode jdk_52_method_3_code 51 = .ok (.invokespecial 41, 3) := by decide +kernel
theorem d16_54 : decode jdk_52_method_3_code 54 = .ok (.athrow, 1) := by decide +kernel
theorem d16_55 : decode jdk_52_method_3_code 55 = .ok (.iload_n 0, 1) := by decide +kernel
theorem d16_56 : decode jdk_52_method_3_code 56 = .ok (.iconst 1, 1) := by decide +kernel
theorem d16_57 : decode jdk_52_method_3_code 57 = .ok (.ishl, 1) := by decide +kernel
theorem d16_58 : decode jdk_52_method_3_code 58 = .ok (.ireturn, 1) := by decide +kernel

theorem pn_16 : plainFor (⟨"java/lang/StringUTF16", "newBytesLength", "(I)I"⟩ : MethodName) = true := by first | exact plainFor_of_name (by first | (simp [plainName, overriddenIn]; done) | decide +kernel) | decide +kernel

theorem d17_0 : decode jdk_52_method_4_code 0 = .ok (.getstatic 44, 3) := by decide +kernel
theorem d17_3 : decode jdk_52_method_4_code 3 = .ok (.ifCond .ne 25, 3) := by decide +kernel
theorem d17_6 : decode jdk_52_method_4_code 6 = .ok (.iload_n 1, 1) := by decide +kernel
theorem d17_7 : decode jdk_52_method_4_code 7 = .ok (.ifCond .lt 11, 3) := by decide +kernel
theorem d17_10 : decode jdk_52_method_4_code 10 = .ok (.iload_n 1, 1) := by decide +kernel
theorem d17_11 : decode jdk_52_method_4_code 11 = .ok (.aload_n 0, 1) := by decide +kernel
theorem d17_12 : decode jdk_52_method_4_code 12 = .ok (.invokestatic 48, 3) := by decide +kernel
theorem d17_15 : decode jdk_52_method_4_code 15 = .ok (.if_icmp .lt 13, 3) := by decide +kernel
theorem d17_18 : decode jdk_52_method_4_code 18 = .ok (.new 52, 3) := by decide +kernel
theorem d17_21 : decode jdk_52_method_4_code 21 = .ok (.dup, 1) := by decide +kernel
theorem d17_22 : decode jdk_52_method_4_code 22 = .ok (.ldc 54, 2) := by decide +kernel
theorem d17_24 : decode jdk_52_method_4_code 24 = .ok (.invokespecial 56, 3) := by decide +kernel
theorem d17_27 : decode jdk_52_method_4_code 27 = .ok (.athrow, 1) := by decide +kernel
theorem d17_28 : decode jdk_52_method_4_code 28 = .ok (.iload_n 1, 1) := by decide +kernel
theorem d17_29 : decode jdk_52_method_4_code 29 = .ok (.iconst 1, 1) := by decide +kernel
theorem d17_30 : decode jdk_52_method_4_code 30 = .ok (.ishl, 1) := by decide +kernel
theorem d17_31 : decode jdk_52_method_4_code 31 = .ok (.istore_n 1, 1) := by decide +kernel
theorem d17_32 : decode jdk_52_method_4_code 32 = .ok (.aload_n 0, 1) := by decide +kernel
theorem d17_33 : decode jdk_52_method_4_code 33 = .ok (.iload_n 1, 1) := by decide +kernel
theorem d17_34 : decode jdk_52_method_4_code 34 = .ok (.iinc 1 1, 3) := by decide +kernel
theorem d17_37 : decode jdk_52_method_4_code 37 = .ok (.iload_n 2, 1) := by decide +kernel
theorem d17_38 : decode jdk_52_method_4_code 38 = .ok (.getstatic 59, 3) := by decide +kernel
theorem d17_41 : decode jdk_52_method_4_code 41 = .ok (.ishr, 1) := by decide +kernel
theorem d17_42 : decode jdk_52_method_4_code 42 = .ok (.i2b, 1) := by decide +kernel
theorem d17_43 : decode jdk_52_method_4_code 43 = .ok (.bastore, 1) := by decide +kernel
theorem d17_44 : decode jdk_52_method_4_code 44 = .ok (.aload_n 0, 1) := by decide +kernel
theorem d17_45 : decode jdk_52_method_4_code 45 = .ok (.iload_n 1, 1) := by decide +kernel
theorem d17_46 : decode jdk_52_method_4_code 46 = .ok (.iload_n 2, 1) := by decide +kernel
theorem d17_47 : decode jdk_52_method_4_code 47 = .ok (.getstatic 63, 3) := by decide +kernel
theorem d17_50 : decode jdk_52_method_4_code 50 = .ok (.ishr, 1) := by decide +kernel
theorem d17_51 : decode jdk_52_method_4_code 51 = .ok (.i2b, 1) := by decide +kernel
theorem d17_52 : decode jdk_52_method_4_code 52 = .ok (.bastore, 1) := by decide +kernel
theorem d17_53 : decode jdk_52_method_4_code 53 = .ok (.return_, 1) := by decide +kernel

theorem pn_17 : plainFor (⟨"java/lang/StringUTF16", "putChar", "([BII)V"⟩ : MethodName) = true := by first | exact plainFor_of_name (by first | (simp [plainName, overriddenIn]; done) | decide +kernel) | decide +kernel

theorem d18_0 : decode jdk_52_method_5_code 0 = .ok (.getstatic 44, 3) := by decide +kernel
theorem d18_3 : decode jdk_52_method_5_code 3 = .ok (.ifCond .ne 25, 3) := by decide +kernel
theorem d18_6 : decode jdk_52_method_5_code 6 = .ok (.iload_n 1, 1) := by decide +kernel
theorem d18_7 : decode jdk_52_method_5_code 7 = .ok (.ifCond .lt 11, 3) := by decide +kernel
theorem d18_10 : decode jdk_52_method_5_code 10 = .ok (.iload_n 1, 1) := by decide +kernel
theorem d18_11 : decode jdk_52_method_5_code 11 = .ok (.aload_n 0, 1) := by decide +kernel
theorem d18_12 : decode jdk_52_method_5_code 12 = .ok (.invokestatic 48, 3) := by decide +kernel
theorem d18_15 : decode jdk_52_method_5_code 15 = .ok (.if_icmp .lt 13, 3) := by decide +kernel
theorem d18_18 : decode jdk_52_method_5_code 18 = .ok (.new 52, 3) := by decide +kernel
theorem d18_21 : decode jdk_52_method_5_code 21 = .ok (.dup, 1) := by decide +kernel
theorem d18_22 : decode jdk_52_method_5_code 22 = .ok (.ldc 54, 2) := by decide +kernel
theorem d18_24 : decode jdk_52_method_5_code 24 = .ok (.invokespecial 56, 3) := by decide +kernel
theorem d18_27 : decode jdk_52_method_5_code 27 = .ok (.athrow, 1) := by decide +kernel
theorem d18_28 : decode jdk_52_method_5_code 28 = .ok (.iload_n 1, 1) := by decide +kernel
theorem d18_29 : decode jdk_52_method_5_code 29 = .ok (.iconst 1, 1) := by decide +kernel
theorem d18_30 : decode jdk_52_method_5_code 30 = .ok (.ishl, 1) := by decide +kernel
theorem d18_31 : decode jdk_52_method_5_code 31 = .ok (.istore_n 1, 1) := by decide +kernel
theorem d18_32 : decode jdk_52_method_5_code 32 = .ok (.aload_n 0, 1) := by decide +kernel
theorem d18_33 : decode jdk_52_method_5_code 33 = .ok (.iload_n 1, 1) := by decide +kernel
theorem d18_34 : decode jdk_52_method_5_code 34 = .ok (.iinc 1 1, 3) := by decide +kernel
theorem d18_37 : decode jdk_52_method_5_code 37 = .ok (.baload, 1) := by decide +kernel
theorem d18_38 : decode jdk_52_method_5_code 38 = .ok (.sipush 255, 3) := by decide +kernel
theorem d18_41 : decode jdk_52_method_5_code 41 = .ok (.iand, 1) := by decide +kernel
theorem d18_42 : decode jdk_52_method_5_code 42 = .ok (.getstatic 59, 3) := by decide +kernel
theorem d18_45 : decode jdk_52_method_5_code 45 = .ok (.ishl, 1) := by decide +kernel
theorem d18_46 : decode jdk_52_method_5_code 46 = .ok (.aload_n 0, 1) := by decide +kernel
theorem d18_47 : decode jdk_52_method_5_code 47 = .ok (.iload_n 1, 1) := by decide +kernel
theorem d18_48 : decode jdk_52_method_5_code 48 = .ok (.baload, 1) := by decide +kernel
theorem d18_49 : decode jdk_52_method_5_code 49 = .ok (.sipush 255, 3) := by decide +kernel
theorem d18_52 : decode jdk_52_method_5_code 52 = .ok (.iand, 1) := by decide +kernel
theorem d18_53 : decode jdk_52_method_5_code 53 = .ok (.getstatic 63, 3) := by decide +kernel
theorem d18_56 : decode jdk_52_method_5_code 56 = .ok (.ishl, 1) := by decide +kernel
theorem d18_57 : decode jdk_52_method_5_code 57 = .ok (.ior, 1) := by decide +kernel
theorem d18_58 : decode jdk_52_method_5_code 58 = .ok (.i2c, 1) := by decide +kernel
theorem d18_59 : decode jdk_52_method_5_code 59 = .ok (.ireturn, 1) := by decide +kernel

theorem pn_18 : plainFor (⟨"java/lang/StringUTF16", "getChar", "([BI)C"⟩ : MethodName) = true := by first | exact plainFor_of_name (by first | (simp [plainName, overriddenIn]; done) | decide +kernel) | decide +kernel

theorem d19_0 : decode jdk_52_method_24_code 0 = .ok (.iconst 2, 1) := by decide +kernel
theorem d19_1 : decode jdk_52_method_24_code 1 = .ok (.newarray .byte, 2) := by decide +kernel
theorem d19_3 : decode jdk_52_method_24_code 3 = .ok (.astore_n 1, 1) := by decide +kernel
theorem d19_4 : decode jdk_52_method_24_code 4 = .ok (.aload_n 1, 1) := by decide +kernel
theorem d19_5 : decode jdk_52_method_24_code 5 = .ok (.iconst 0, 1) := by decide +kernel
theorem d19_6 : decode jdk_52_method_24_code 6 = .ok (.iload_n 0, 1) := by decide +kernel
theorem d19_7 : decode jdk_52_method_24_code 7 = .ok (.invokestatic 111, 3) := by decide +kernel
theorem d19_10 : decode jdk_52_method_24_code 10 = .ok (.aload_n 1, 1) := by decide +kernel
theorem d19_11 : decode jdk_52_method_24_code 11 = .ok (.areturn, 1) := by decide +kernel

theorem pn_19 : plainFor (⟨"java/lang/StringUTF16", "toBytes", "(C)[B"⟩ : MethodName) = true := by first | exact plainFor_of_name (by first | (simp [plainName, overriddenIn]; done) | decide +kernel) | decide +kernel

theorem pn_0 : plainFor x = true := by first | exact plainFor_of_name (by first | (simp [plainName, overriddenIn]; done) | decide +kernel) | decide +kernel

theorem pd___Z : parseMethodDescriptor "()Z" = some ⟨[], some .boolean⟩ := by decide +kernel
theorem pd__C_Ljava_lang_String_ : parseMethodDescriptor "(C)Ljava/lang/String;" = some ⟨[.char], some (.object "java/lang/String")⟩ := by decide +kernel
theorem pd__C_Z : parseMethodDescriptor "(C)Z" = some ⟨[.char], some .boolean⟩ := by decide +kernel
theorem pd__C__B : parseMethodDescriptor "(C)[B" = some ⟨[.char], some (.array .byte)⟩ := by decide +kernel
theorem pd__I_I : parseMethodDescriptor "(I)I" = some ⟨[.int], some .int⟩ := by decide +kernel
theorem pd__I__B : parseMethodDescriptor "(I)[B" = some ⟨[.int], some (.array .byte)⟩ := by decide +kernel
theorem pd__Ljava_lang_Object_Ljava_lang_String__Ljava_lang_Object_ : parseMethodDescriptor "(Ljava/lang/Object;Ljava/lang/String;)Ljava/lang/Object;" = some ⟨[(.object "java/lang/Object"), (.object "java/lang/String")], some (.object "java/lang/Object")⟩ := by decide +kernel
theorem pd__Ljava_lang_String_Ljava_lang_String__Ljava_lang_String_ : parseMethodDescriptor "(Ljava/lang/String;Ljava/lang/String;)Ljava/lang/String;" = some ⟨[(.object "java/lang/String"), (.object "java/lang/String")], some (.object "java/lang/String")⟩ := by decide +kernel
theorem pd___BB_V : parseMethodDescriptor "([BB)V" = some ⟨[(.array .byte), .byte], none⟩ := by decide +kernel
theorem pd___BI_B : parseMethodDescriptor "([BI)B" = some ⟨[(.array .byte), .int], some .byte⟩ := by decide +kernel
theorem pd___BI_C : parseMethodDescriptor "([BI)C" = some ⟨[(.array .byte), .int], some .char⟩ := by decide +kernel
theorem pd___BII_V : parseMethodDescriptor "([BII)V" = some ⟨[(.array .byte), .int, .int], none⟩ := by decide +kernel
theorem pd___C_V : parseMethodDescriptor "([C)V" = some ⟨[(.array .char)], none⟩ := by decide +kernel
theorem pd___CII__B : parseMethodDescriptor "([CII)[B" = some ⟨[(.array .char), .int, .int], some (.array .byte)⟩ := by decide +kernel
theorem pd___CIILjava_lang_Void__V : parseMethodDescriptor "([CIILjava/lang/Void;)V" = some ⟨[(.array .char), .int, .int, (.object "java/lang/Void")], none⟩ := by decide +kernel
theorem pd___CI_BII_I : parseMethodDescriptor "([CI[BII)I" = some ⟨[(.array .char), .int, (.array .byte), .int, .int], some .int⟩ := by decide +kernel

def own_Qr (r : Option Value) (h0 : Heap) (n0 : Nat) (v : Option Value) (h : Heap) (L : List Loc) : Prop := v = r ∧ Fr n0 L ∧ h = h0
def own_Q0 (n0 : Nat) (v : Option Value) (h : Heap) (L : List Loc) : Prop := v = some (.int 1) ∧ Fr n0 L
theorem own_ofNat {n : Nat} (h : n < 2147483648) : (Int32.ofNat n).toInt = n := Int32.toInt_ofNat_of_lt h
theorem own_clamp {n : Nat} (h : n < 2147483648) : (Int32.ofNat n).toNatClampNeg = n := by
  have q := own_ofNat h
  simp only [Int32.toNatClampNeg]; omega
theorem own_ge0 {n : Nat} (h : n < 2147483648) : ¬ Int32.ofNat n < 0 := by
  rw [Int32.lt_iff_toInt_lt, own_ofNat h]; show ¬ (n : Int) < 0; omega
theorem own_lt {a b : Nat} (h : a < b) (hb : b < 2147483648) : Int32.ofNat a < Int32.ofNat b := by
  rw [Int32.lt_iff_toInt_lt, own_ofNat hb, own_ofNat (by omega)]; omega
theorem own_nlt {a b : Nat} (h : b ≤ a) (ha : a < 2147483648) : ¬ Int32.ofNat a < Int32.ofNat b := by
  rw [Int32.lt_iff_toInt_lt, own_ofNat ha, own_ofNat (by omega)]; omega
theorem own_inc (n : Nat) : Int32.ofNat n + (1 : Int32) = Int32.ofNat (n + 1) := (Int32.ofNat_add n 1).symm
theorem own_shl1 {n : Nat} (h : n ≤ 100) : Int32.ofNat n <<< ((1 : Int32) &&& 31) = Int32.ofNat (2 * n) := by
  apply Int32.toInt_inj.mp
  have q := own_ofNat (n := n) (by omega)
  rw [own_shl _ _ 1 (by decide) (by decide) (by omega) (by omega), q, own_ofNat (by omega)]; omega
theorem own_ne {a b : Addr} (h : @LT.lt Nat instLTNat a b) : b ≠ a := Nat.ne_of_gt h
theorem own_ni {a b : Addr} (h : a ≠ b) : a ∉ [b] := fun q => h (List.mem_singleton.mp q)
theorem own_i2c {c : Int32} (h : own_cx c) : nar .char c = c := by
  have q := c_i2c c
  obtain ⟨h1, h2⟩ := h
  apply Int32.toInt_inj.mp
  show c.toUInt32.toUInt16.toUInt32.toInt32.toInt = _
  omega
theorem own_cx2 (x : Int32) : own_cx (x.toUInt32.toUInt16.toUInt32.toInt32) := by
  have q := c_i2c x
  exact ⟨by omega, by omega⟩
theorem own_cx0 : own_cx 0 := ⟨by decide, by decide⟩
theorem own_mapd (cs : List Int32) (j : Nat) : (cs.map Value.int).getD j (.int 0) = .int (cs.getD j 0) := by
  simp only [List.getD_eq_getElem?_getD, List.getElem?_map]
  cases cs[j]? <;> rfl
def own_pr (vs : List Value) (i : Nat) (c : Int32) : Prop := vs.getD (2 * i) (.int 0) = .int (own_lo c) ∧ vs.getD (2 * i + 1) (.int 0) = .int (own_hi c)
theorem own_pr_set {vs : List Value} {i j : Nat} {c d : Int32} (hj : 2 * j + 1 < vs.length) (hi : i < j → own_pr vs i c) (hc : i = j → d = c) (hij : i ≤ j) : own_pr ((vs.set (2 * j) (.int (own_lo d))).set (2 * j + 1) (.int (own_hi d))) i c := by
  by_cases q : i = j
  · cases hc q; subst q
    constructor
    · rw [List.getD_eq_getElem?_getD, List.getElem?_set_ne (by omega), List.getElem?_set_self (by omega)]; rfl
    · rw [List.getD_eq_getElem?_getD, List.getElem?_set_self (by simp; omega)]; rfl
  · obtain ⟨h1, h2⟩ := hi (by omega)
    constructor
    · rw [List.getD_eq_getElem?_getD, List.getElem?_set_ne (by omega), List.getElem?_set_ne (by omega), ← List.getD_eq_getElem?_getD]; exact h1
    · rw [List.getD_eq_getElem?_getD, List.getElem?_set_ne (by omega), List.getElem?_set_ne (by omega), ← List.getD_eq_getElem?_getD]; exact h2
theorem own_rem3 (x : Int32) : ∃ k, k ≤ 2 ∧ ((x &&& (2147483647 : Int32)) % (3 : Int32)) = Int32.ofNat k := by
  have q := c_and x 2147483647 (by decide)
  have q2 := (c_irem (x &&& (2147483647 : Int32)) 3 3 rfl).1 q.1
  refine ⟨((x &&& (2147483647 : Int32)) % (3 : Int32)).toInt.toNat, by omega, ?_⟩
  apply Int32.toInt_inj.mp
  rw [own_ofNat (by omega)]; omega
theorem own_n0 {n : Nat} (h : 1 ≤ n) (h2 : n < 2147483648) : ¬ Int32.ofNat n = 0 := by
  intro q
  have q2 := own_ofNat h2
  rw [q] at q2
  have : (0 : Int32).toInt = 0 := rfl
  omega
theorem own_one {k : Nat} : (1 : Int32) + Int32.ofNat k = Int32.ofNat (k + 1) := by rw [Int32.add_comm]; exact own_inc k
/-- a non-empty String, whatever it spells -/
def own_N (Z : State) (h : Heap) (s : Addr) : Prop := ∃ (b : Addr) (kb : ClassId) (z : Nat) (vs : List Value), 1 ≤ z ∧ z ≤ 6 ∧ Exa Z h s "java/lang/String" ∧ Fld Z h s "java/lang/String" "value" "[B" (.ref b) ∧ Arv Z h b kb .byte (Int32.ofNat z) vs (.int 0)
theorem own_N.ext {Z : State} {h h' : Heap} {s : Addr} (N : own_N Z h s) (K : Ext h h') : own_N Z h' s := by
  obtain ⟨b, kb, z, vs, h1, h2, E, F, A⟩ := N
  exact ⟨b, kb, z, vs, h1, h2, E.ext K, F.ext K, A.ext K⟩
theorem own_N.keep {Z : State} {h h' : Heap} {s : Addr} (N : own_N Z h s) (K : Keep h h' []) : own_N Z h' s := by
  obtain ⟨b, kb, z, vs, h1, h2, E, F, A⟩ := N
  exact ⟨b, kb, z, vs, h1, h2, E.keep K, F.keep K (by simp), A.keep K (by simp)⟩
theorem own_keep0 {h h' h2 : Heap} {b : Addr} (E : Keep h h' []) (K : Keep h' h2 [b]) (q : h.size ≤ b) : Keep h h2 [] := E.trans K (fun x hx => Or.inr (by cases List.mem_singleton.mp hx; exact q))
def own_Qp (Z : State) (b : Addr) (kb : ClassId) (z : Nat) (vs : List Value) (h0 : Heap) (n0 : Nat) (v : Option Value) (h : Heap) (L : List Loc) : Prop := v = none ∧ Fr n0 L ∧ Keep h0 h [b] ∧ Arv Z h b kb .byte (Int32.ofNat z) vs (.int 0)
set_option maxRecDepth 65536 in
set_option maxHeartbeats 4000000 in
theorem rmPut (l : Launch) (Z : State) (a0 : Array Value) (hw : ∀ d ∈ tables_1, d.before a0 Z = true) (ws : List Jvm.Cond) (h0 : Heap) (n0 : Nat) (zc : Int32) (O1 : Sta Z Z.heap "java/lang/String" "COMPACT_STRINGS" "Z" (.int zc)) (hzc : ¬ zc = 0) (O2 : Sta Z Z.heap "java/lang/StringUTF16" "$assertionsDisabled" "Z" (.int 1)) (O3 : Sta Z Z.heap "java/lang/StringUTF16" "HI_BYTE_SHIFT" "I" (.int 0)) (O4 : Sta Z Z.heap "java/lang/StringUTF16" "LO_BYTE_SHIFT" "I" (.int 8)) (Od : Old Z n0 h0) (b : Addr) (kb : ClassId) (z j : Nat) (vs : List Value) (A : Arv Z h0 b kb .byte (Int32.ofNat z) vs (.int 0)) (hz : z ≤ 6) (hj : 2 * j + 1 < z) (hl : vs.length = z) (ch : Int32) (gb : n0 ≤ b) :
    own_C l Z (⟨"java/lang/StringUTF16", "putChar", "([BII)V"⟩ : MethodName) jdk_52_method_4_code 3 none ws ({ frames := 0, cells := 0, slots := 0, locals := 0 } : Room) #[(.ref b), (.int (Int32.ofNat j)), (.int ch)] h0 (own_Qp Z b kb z ((vs.set (2 * j) (.int (own_lo ch))).set (2 * j + 1) (.int (own_hi ch))) h0 n0) := by
  refine own_body (ls := #[.val (.ref b), .val (.int (Int32.ofNat j)), .val (.int ch)]) pn_17 (fun m => by first | (simp [entryFrame, mkF, argsToLocals, Value.category]; done) | rfl) ?_
  intro p e s m below meth c T0 hZ hx hby hml hown hnm hret hlk X0 e0
  replace hml : c.maxLocals = 3 := hml
  have N0 := Fr.nil n0
  obtain ⟨T1, X1, e1, st1⟩ := getS X0 hx hZ hown (host := "") (hw _ (List.mem_of_getElem? (i := 76) rfl)) Via.refl e0 (O2.ext Od.2) (g := (mkF m 0 #[.val (.ref b), .val (.int (Int32.ofNat j)), .val (.int ch)] [])) rfl (hb hby d17_0)
  refine own_go st1 ?_
  show own_R p.tables e below _ T1 (mkF m 3 #[.val (.ref b), .val (.int (Int32.ofNat j)), .val (.int ch)] [(.int (1 : Int32))])
  refine own_go (fun _ => XS.ifYes X1.here hx rfl (pc0 := 3) (pc' := 28) rfl (hb hby d17_3) rfl ((if0 _ _).trans (feq (by decide : ¬ ((1 : Int32) = (0 : Int32)))).2) (by decide) (by decide)) ?_
  show own_R p.tables e below _ T1 (mkF m 28 #[.val (.ref b), .val (.int (Int32.ofNat j)), .val (.int ch)] [])
  refine own_go (fun _ => XS.iloadN X1.here hx rfl (hb hby d17_28) rfl ) ?_
  show own_R p.tables e below _ T1 (mkF m 29 #[.val (.ref b), .val (.int (Int32.ofNat j)), .val (.int ch)] [(.int (Int32.ofNat j))])
  refine own_go (fun _ => XS.iconst X1.here hx rfl (hb hby d17_29)) ?_
  show own_R p.tables e below _ T1 (mkF m 30 #[.val (.ref b), .val (.int (Int32.ofNat j)), .val (.int ch)] [(.int (1 : Int32)), (.int (Int32.ofNat j))])
  refine own_go (fun _ => XS.ishl X1.here hx rfl (hb hby d17_30) rfl) ?_
  show own_R p.tables e below _ T1 (mkF m 31 #[.val (.ref b), .val (.int (Int32.ofNat j)), .val (.int ch)] [(.int ((Int32.ofNat j) <<< ((1 : Int32) &&& 31)))])
  rw [own_shl1 (by omega)]
  show own_R p.tables e below _ T1 (mkF m 31 #[.val (.ref b), .val (.int (Int32.ofNat j)), .val (.int ch)] [(.int (Int32.ofNat (2 * j)))])
  refine own_go (fun _ => XS.istoreN X1.here hx rfl (hb hby d17_31) rfl (l' := #[.val (.ref b), .val (.int (Int32.ofNat (2 * j))), .val (.int ch)]) rfl) ?_
  show own_R p.tables e below _ T1 (mkF m 32 #[.val (.ref b), .val (.int (Int32.ofNat (2 * j))), .val (.int ch)] [])
  refine own_go (fun _ => XS.aloadN X1.here hx rfl (hb hby d17_32) rfl rfl) ?_
  show own_R p.tables e below _ T1 (mkF m 33 #[.val (.ref b), .val (.int (Int32.ofNat (2 * j))), .val (.int ch)] [(.ref b)])
  refine own_go (fun _ => XS.iloadN X1.here hx rfl (hb hby d17_33) rfl ) ?_
  show own_R p.tables e below _ T1 (mkF m 34 #[.val (.ref b), .val (.int (Int32.ofNat (2 * j))), .val (.int ch)] [(.int (Int32.ofNat (2 * j))), (.ref b)])
  refine own_go (fun _ => XS.iinc X1.here hx rfl (hb hby d17_34) rfl (l' := #[.val (.ref b), .val (.int ((Int32.ofNat (2 * j)) + (1 : Int32))), .val (.int ch)]) rfl) ?_
  show own_R p.tables e below _ T1 (mkF m 37 #[.val (.ref b), .val (.int ((Int32.ofNat (2 * j)) + (1 : Int32))), .val (.int ch)] [(.int (Int32.ofNat (2 * j))), (.ref b)])
  rw [own_inc (2 * j)]
  show own_R p.tables e below _ T1 (mkF m 37 #[.val (.ref b), .val (.int (Int32.ofNat (2 * j + 1))), .val (.int ch)] [(.int (Int32.ofNat (2 * j))), (.ref b)])
  refine own_go (fun _ => XS.iloadN X1.here hx rfl (hb hby d17_37) rfl ) ?_
  show own_R p.tables e below _ T1 (mkF m 38 #[.val (.ref b), .val (.int (Int32.ofNat (2 * j + 1))), .val (.int ch)] [(.int ch), (.int (Int32.ofNat (2 * j))), (.ref b)])
  obtain ⟨T2, X2, e2, st2⟩ := getS X1 hx hZ hown (host := "") (hw _ (List.mem_of_getElem? (i := 77) rfl)) Via.refl e1 (O3.ext Od.2) (g := (mkF m 38 #[.val (.ref b), .val (.int (Int32.ofNat (2 * j + 1))), .val (.int ch)] [(.int ch), (.int (Int32.ofNat (2 * j))), (.ref b)])) rfl (hb hby d17_38)
  refine own_go st2 ?_
  show own_R p.tables e below _ T2 (mkF m 41 #[.val (.ref b), .val (.int (Int32.ofNat (2 * j + 1))), .val (.int ch)] [(.int (0 : Int32)), (.int ch), (.int (Int32.ofNat (2 * j))), (.ref b)])
  refine own_go (fun _ => XS.ishr X2.here hx rfl (hb hby d17_41) rfl) ?_
  show own_R p.tables e below _ T2 (mkF m 42 #[.val (.ref b), .val (.int (Int32.ofNat (2 * j + 1))), .val (.int ch)] [(.int (ch >>> ((0 : Int32) &&& 31))), (.int (Int32.ofNat (2 * j))), (.ref b)])
  refine own_go (fun _ => XS.i2b X2.here hx rfl (hb hby d17_42) rfl) ?_
  show own_R p.tables e below _ T2 (mkF m 43 #[.val (.ref b), .val (.int (Int32.ofNat (2 * j + 1))), .val (.int ch)] [(.int ((ch >>> ((0 : Int32) &&& 31)).toInt8.toInt32)), (.int (Int32.ofNat (2 * j))), (.ref b)])
  obtain ⟨T3, h3, X3, e3, W3, A3, st3⟩ := own_stB X2 hx hZ e2 A (j := (Int32.ofNat (2 * j))) ⟨own_ge0 (by omega), own_lt (by omega) (by omega)⟩ (2 * j) (own_clamp (by omega)) (by omega) (g := (mkF m 43 #[.val (.ref b), .val (.int (Int32.ofNat (2 * j + 1))), .val (.int ch)] [(.int ((ch >>> ((0 : Int32) &&& 31)).toInt8.toInt32)), (.int (Int32.ofNat (2 * j))), (.ref b)])) rfl rfl (hb hby d17_43)
  refine own_go st3 ?_
  show own_R p.tables e below _ T3 (mkF m 44 #[.val (.ref b), .val (.int (Int32.ofNat (2 * j + 1))), .val (.int ch)] [])
  have N3 := Fr.snoc X3 N0 gb
  have Od3 := Od.keep (Keep.of_wr W3) (fun x hx => by cases List.mem_singleton.mp hx; exact gb)
  refine own_go (fun _ => XS.aloadN X3.here hx rfl (hb hby d17_44) rfl rfl) ?_
  show own_R p.tables e below _ T3 (mkF m 45 #[.val (.ref b), .val (.int (Int32.ofNat (2 * j + 1))), .val (.int ch)] [(.ref b)])
  refine own_go (fun _ => XS.iloadN X3.here hx rfl (hb hby d17_45) rfl ) ?_
  show own_R p.tables e below _ T3 (mkF m 46 #[.val (.ref b), .val (.int (Int32.ofNat (2 * j + 1))), .val (.int ch)] [(.int (Int32.ofNat (2 * j + 1))), (.ref b)])
  refine own_go (fun _ => XS.iloadN X3.here hx rfl (hb hby d17_46) rfl ) ?_
  show own_R p.tables e below _ T3 (mkF m 47 #[.val (.ref b), .val (.int (Int32.ofNat (2 * j + 1))), .val (.int ch)] [(.int ch), (.int (Int32.ofNat (2 * j + 1))), (.ref b)])
  obtain ⟨T4, X4, e4, st4⟩ := getS X3 hx hZ hown (host := "") (hw _ (List.mem_of_getElem? (i := 78) rfl)) Via.refl e3 (O4.ext Od3.2) (g := (mkF m 47 #[.val (.ref b), .val (.int (Int32.ofNat (2 * j + 1))), .val (.int ch)] [(.int ch), (.int (Int32.ofNat (2 * j + 1))), (.ref b)])) rfl (hb hby d17_47)
  refine own_go st4 ?_
  show own_R p.tables e below _ T4 (mkF m 50 #[.val (.ref b), .val (.int (Int32.ofNat (2 * j + 1))), .val (.int ch)] [(.int (8 : Int32)), (.int ch), (.int (Int32.ofNat (2 * j + 1))), (.ref b)])
  refine own_go (fun _ => XS.ishr X4.here hx rfl (hb hby d17_50) rfl) ?_
  show own_R p.tables e below _ T4 (mkF m 51 #[.val (.ref b), .val (.int (Int32.ofNat (2 * j + 1))), .val (.int ch)] [(.int (ch >>> ((8 : Int32) &&& 31))), (.int (Int32.ofNat (2 * j + 1))), (.ref b)])
  refine own_go (fun _ => XS.i2b X4.here hx rfl (hb hby d17_51) rfl) ?_
  show own_R p.tables e below _ T4 (mkF m 52 #[.val (.ref b), .val (.int (Int32.ofNat (2 * j + 1))), .val (.int ch)] [(.int ((ch >>> ((8 : Int32) &&& 31)).toInt8.toInt32)), (.int (Int32.ofNat (2 * j + 1))), (.ref b)])
  obtain ⟨T5, h5, X5, e5, W5, A5, st5⟩ := own_stB X4 hx hZ e4 A3 (j := (Int32.ofNat (2 * j + 1))) ⟨own_ge0 (by omega), own_lt (by omega) (by omega)⟩ (2 * j + 1) (own_clamp (by omega)) (by simp; omega) (g := (mkF m 52 #[.val (.ref b), .val (.int (Int32.ofNat (2 * j + 1))), .val (.int ch)] [(.int ((ch >>> ((8 : Int32) &&& 31)).toInt8.toInt32)), (.int (Int32.ofNat (2 * j + 1))), (.ref b)])) rfl rfl (hb hby d17_52)
  refine own_go st5 ?_
  show own_R p.tables e below _ T5 (mkF m 53 #[.val (.ref b), .val (.int (Int32.ofNat (2 * j + 1))), .val (.int ch)] [])
  have N5 := Fr.snoc X5 N3 gb
  exact own_end X5 none (fun _ => rfl) hlk (fun fs hr => X5.returnOut hx hret (hb hby d17_53) hr) (by show own_Qp Z b kb z _ h0 n0 _ T5.heap _; rw [e5]; exact ⟨rfl, N5, (Keep.of_wr W3).wr W5 (Or.inl (List.mem_singleton.mpr rfl)), A5⟩) (by decide) (by decide)
set_option maxRecDepth 65536 in
set_option maxHeartbeats 4000000 in
theorem rmGet (l : Launch) (Z : State) (a0 : Array Value) (hw : ∀ d ∈ tables_1, d.before a0 Z = true) (ws : List Jvm.Cond) (h0 : Heap) (n0 : Nat) (zc : Int32) (O1 : Sta Z Z.heap "java/lang/String" "COMPACT_STRINGS" "Z" (.int zc)) (hzc : ¬ zc = 0) (O2 : Sta Z Z.heap "java/lang/StringUTF16" "$assertionsDisabled" "Z" (.int 1)) (O3 : Sta Z Z.heap "java/lang/StringUTF16" "HI_BYTE_SHIFT" "I" (.int 0)) (O4 : Sta Z Z.heap "java/lang/StringUTF16" "LO_BYTE_SHIFT" "I" (.int 8)) (Od : Old Z n0 h0) (b : Addr) (kb : ClassId) (z j : Nat) (vs : List Value) (A : Arv Z h0 b kb .byte (Int32.ofNat z) vs (.int 0)) (hz : z ≤ 6) (hj : 2 * j + 1 < z) (hl : vs.length = z) (lo hi : Int32) (p1 : vs.getD (2 * j) (.int 0) = .int lo) (p2 : vs.getD (2 * j + 1) (.int 0) = .int hi) :
    own_C l Z (⟨"java/lang/StringUTF16", "getChar", "([BI)C"⟩ : MethodName) jdk_52_method_5_code 2 (some .char) ws ({ frames := 0, cells := 0, slots := 0, locals := 0 } : Room) #[(.ref b), (.int (Int32.ofNat j))] h0 (own_Qr (some (.int (nar .char ((((lo &&& (255 : Int32)) <<< ((0 : Int32) &&& 31)) ||| ((hi &&& (255 : Int32)) <<< ((8 : Int32) &&& 31))).toUInt32.toUInt16.toUInt32.toInt32)))) h0 n0) := by
  refine own_body (ls := #[.val (.ref b), .val (.int (Int32.ofNat j))]) pn_18 (fun m => by first | (simp [entryFrame, mkF, argsToLocals, Value.category]; done) | rfl) ?_
  intro p e s m below meth c T0 hZ hx hby hml hown hnm hret hlk X0 e0
  replace hml : c.maxLocals = 2 := hml
  have N0 := Fr.nil n0
  obtain ⟨T1, X1, e1, st1⟩ := getS X0 hx hZ hown (host := "") (hw _ (List.mem_of_getElem? (i := 76) rfl)) Via.refl e0 (O2.ext Od.2) (g := (mkF m 0 #[.val (.ref b), .val (.int (Int32.ofNat j))] [])) rfl (hb hby d18_0)
  refine own_go st1 ?_
  show own_R p.tables e below _ T1 (mkF m 3 #[.val (.ref b), .val (.int (Int32.ofNat j))] [(.int (1 : Int32))])
  refine own_go (fun _ => XS.ifYes X1.here hx rfl (pc0 := 3) (pc' := 28) rfl (hb hby d18_3) rfl ((if0 _ _).trans (feq (by decide : ¬ ((1 : Int32) = (0 : Int32)))).2) (by decide) (by decide)) ?_
  show own_R p.tables e below _ T1 (mkF m 28 #[.val (.ref b), .val (.int (Int32.ofNat j))] [])
  refine own_go (fun _ => XS.iloadN X1.here hx rfl (hb hby d18_28) rfl ) ?_
  show own_R p.tables e below _ T1 (mkF m 29 #[.val (.ref b), .val (.int (Int32.ofNat j))] [(.int (Int32.ofNat j))])
  refine own_go (fun _ => XS.iconst X1.here hx rfl (hb hby d18_29)) ?_
  show own_R p.tables e below _ T1 (mkF m 30 #[.val (.ref b), .val (.int (Int32.ofNat j))] [(.int (1 : Int32)), (.int (Int32.ofNat j))])
  refine own_go (fun _ => XS.ishl X1.here hx rfl (hb hby d18_30) rfl) ?_
  show own_R p.tables e below _ T1 (mkF m 31 #[.val (.ref b), .val (.int (Int32.ofNat j))] [(.int ((Int32.ofNat j) <<< ((1 : Int32) &&& 31)))])
  rw [own_shl1 (by omega)]
  show own_R p.tables e below _ T1 (mkF m 31 #[.val (.ref b), .val (.int (Int32.ofNat j))] [(.int (Int32.ofNat (2 * j)))])
  refine own_go (fun _ => XS.istoreN X1.here hx rfl (hb hby d18_31) rfl (l' := #[.val (.ref b), .val (.int (Int32.ofNat (2 * j)))]) rfl) ?_
  show own_R p.tables e below _ T1 (mkF m 32 #[.val (.ref b), .val (.int (Int32.ofNat (2 * j)))] [])
  refine own_go (fun _ => XS.aloadN X1.here hx rfl (hb hby d18_32) rfl rfl) ?_
  show own_R p.tables e below _ T1 (mkF m 33 #[.val (.ref b), .val (.int (Int32.ofNat (2 * j)))] [(.ref b)])
  refine own_go (fun _ => XS.iloadN X1.here hx rfl (hb hby d18_33) rfl ) ?_
  show own_R p.tables e below _ T1 (mkF m 34 #[.val (.ref b), .val (.int (Int32.ofNat (2 * j)))] [(.int (Int32.ofNat (2 * j))), (.ref b)])
  refine own_go (fun _ => XS.iinc X1.here hx rfl (hb hby d18_34) rfl (l' := #[.val (.ref b), .val (.int ((Int32.ofNat (2 * j)) + (1 : Int32)))]) rfl) ?_
  show own_R p.tables e below _ T1 (mkF m 37 #[.val (.ref b), .val (.int ((Int32.ofNat (2 * j)) + (1 : Int32)))] [(.int (Int32.ofNat (2 * j))), (.ref b)])
  rw [own_inc (2 * j)]
  show own_R p.tables e below _ T1 (mkF m 37 #[.val (.ref b), .val (.int (Int32.ofNat (2 * j + 1)))] [(.int (Int32.ofNat (2 * j))), (.ref b)])
  refine own_go (own_ldB X1 hx hZ e1 A (j := (Int32.ofNat (2 * j))) ⟨own_ge0 (by omega), own_lt (by omega) (by omega)⟩ (v := (.int lo)) (by rw [own_clamp (by omega)]; exact p1) (g := (mkF m 37 #[.val (.ref b), .val (.int (Int32.ofNat (2 * j + 1)))] [(.int (Int32.ofNat (2 * j))), (.ref b)])) rfl rfl (hb hby d18_37)) ?_
  show own_R p.tables e below _ T1 (mkF m 38 #[.val (.ref b), .val (.int (Int32.ofNat (2 * j + 1)))] [(.int lo)])
  refine own_go (fun _ => XS.sipush X1.here hx rfl (hb hby d18_38)) ?_
  show own_R p.tables e below _ T1 (mkF m 41 #[.val (.ref b), .val (.int (Int32.ofNat (2 * j + 1)))] [(.int (255 : Int32)), (.int lo)])
  refine own_go (fun _ => XS.iand X1.here hx rfl (hb hby d18_41) rfl) ?_
  show own_R p.tables e below _ T1 (mkF m 42 #[.val (.ref b), .val (.int (Int32.ofNat (2 * j + 1)))] [(.int (lo &&& (255 : Int32)))])
  obtain ⟨T2, X2, e2, st2⟩ := getS X1 hx hZ hown (host := "") (hw _ (List.mem_of_getElem? (i := 77) rfl)) Via.refl e1 (O3.ext Od.2) (g := (mkF m 42 #[.val (.ref b), .val (.int (Int32.ofNat (2 * j + 1)))] [(.int (lo &&& (255 : Int32)))])) rfl (hb hby d18_42)
  refine own_go st2 ?_
  show own_R p.tables e below _ T2 (mkF m 45 #[.val (.ref b), .val (.int (Int32.ofNat (2 * j + 1)))] [(.int (0 : Int32)), (.int (lo &&& (255 : Int32)))])
  refine own_go (fun _ => XS.ishl X2.here hx rfl (hb hby d18_45) rfl) ?_
  show own_R p.tables e below _ T2 (mkF m 46 #[.val (.ref b), .val (.int (Int32.ofNat (2 * j + 1)))] [(.int ((lo &&& (255 : Int32)) <<< ((0 : Int32) &&& 31)))])
  refine own_go (fun _ => XS.aloadN X2.here hx rfl (hb hby d18_46) rfl rfl) ?_
  show own_R p.tables e below _ T2 (mkF m 47 #[.val (.ref b), .val (.int (Int32.ofNat (2 * j + 1)))] [(.ref b), (.int ((lo &&& (255 : Int32)) <<< ((0 : Int32) &&& 31)))])
  refine own_go (fun _ => XS.iloadN X2.here hx rfl (hb hby d18_47) rfl ) ?_
  show own_R p.tables e below _ T2 (mkF m 48 #[.val (.ref b), .val (.int (Int32.ofNat (2 * j + 1)))] [(.int (Int32.ofNat (2 * j + 1))), (.ref b), (.int ((lo &&& (255 : Int32)) <<< ((0 : Int32) &&& 31)))])
  refine own_go (own_ldB X2 hx hZ e2 A (j := (Int32.ofNat (2 * j + 1))) ⟨own_ge0 (by omega), own_lt (by omega) (by omega)⟩ (v := (.int hi)) (by rw [own_clamp (by omega)]; exact p2) (g := (mkF m 48 #[.val (.ref b), .val (.int (Int32.ofNat (2 * j + 1)))] [(.int (Int32.ofNat (2 * j + 1))), (.ref b), (.int ((lo &&& (255 : Int32)) <<< ((0 : Int32) &&& 31)))])) rfl rfl (hb hby d18_48)) ?_
  show own_R p.tables e below _ T2 (mkF m 49 #[.val (.ref b), .val (.int (Int32.ofNat (2 * j + 1)))] [(.int hi), (.int ((lo &&& (255 : Int32)) <<< ((0 : Int32) &&& 31)))])
  refine own_go (fun _ => XS.sipush X2.here hx rfl (hb hby d18_49)) ?_
  show own_R p.tables e below _ T2 (mkF m 52 #[.val (.ref b), .val (.int (Int32.ofNat (2 * j + 1)))] [(.int (255 : Int32)), (.int hi), (.int ((lo &&& (255 : Int32)) <<< ((0 : Int32) &&& 31)))])
  refine own_go (fun _ => XS.iand X2.here hx rfl (hb hby d18_52) rfl) ?_
  show own_R p.tables e below _ T2 (mkF m 53 #[.val (.ref b), .val (.int (Int32.ofNat (2 * j + 1)))] [(.int (hi &&& (255 : Int32))), (.int ((lo &&& (255 : Int32)) <<< ((0 : Int32) &&& 31)))])
  obtain ⟨T3, X3, e3, st3⟩ := getS X2 hx hZ hown (host := "") (hw _ (List.mem_of_getElem? (i := 78) rfl)) Via.refl e2 (O4.ext Od.2) (g := (mkF m 53 #[.val (.ref b), .val (.int (Int32.ofNat (2 * j + 1)))] [(.int (hi &&& (255 : Int32))), (.int ((lo &&& (255 : Int32)) <<< ((0 : Int32) &&& 31)))])) rfl (hb hby d18_53)
  refine own_go st3 ?_
  show own_R p.tables e below _ T3 (mkF m 56 #[.val (.ref b), .val (.int (Int32.ofNat (2 * j + 1)))] [(.int (8 : Int32)), (.int (hi &&& (255 : Int32))), (.int ((lo &&& (255 : Int32)) <<< ((0 : Int32) &&& 31)))])
  refine own_go (fun _ => XS.ishl X3.here hx rfl (hb hby d18_56) rfl) ?_
  show own_R p.tables e below _ T3 (mkF m 57 #[.val (.ref b), .val (.int (Int32.ofNat (2 * j + 1)))] [(.int ((hi &&& (255 : Int32)) <<< ((8 : Int32) &&& 31))), (.int ((lo &&& (255 : Int32)) <<< ((0 : Int32) &&& 31)))])
  refine own_go (fun _ => XS.ior X3.here hx rfl (hb hby d18_57) rfl) ?_
  show own_R p.tables e below _ T3 (mkF m 58 #[.val (.ref b), .val (.int (Int32.ofNat (2 * j + 1)))] [(.int (((lo &&& (255 : Int32)) <<< ((0 : Int32) &&& 31)) ||| ((hi &&& (255 : Int32)) <<< ((8 : Int32) &&& 31))))])
  refine own_go (fun _ => XS.i2c X3.here hx rfl (hb hby d18_58) rfl) ?_
  show own_R p.tables e below _ T3 (mkF m 59 #[.val (.ref b), .val (.int (Int32.ofNat (2 * j + 1)))] [(.int ((((lo &&& (255 : Int32)) <<< ((0 : Int32) &&& 31)) ||| ((hi &&& (255 : Int32)) <<< ((8 : Int32) &&& 31))).toUInt32.toUInt16.toUInt32.toInt32))])
  exact own_end X3 (some (.int (nar .char ((((lo &&& (255 : Int32)) <<< ((0 : Int32) &&& 31)) ||| ((hi &&& (255 : Int32)) <<< ((8 : Int32) &&& 31))).toUInt32.toUInt16.toUInt32.toInt32)))) (fun h => by rw [hret] at h; cases h) hlk (fun fs hr => retN X3 hx (t := .char) hret (by simp) (hb hby d18_59) hr) ⟨rfl, N0, e3⟩ (by decide) (by decide)
set_option maxRecDepth 65536 in
set_option maxHeartbeats 4000000 in
theorem rmNBL (l : Launch) (Z : State) (a0 : Array Value) (hw : ∀ d ∈ tables_1, d.before a0 Z = true) (ws : List Jvm.Cond) (h0 : Heap) (n0 : Nat) (n : Nat) (hn : n ≤ 3) :
    own_C l Z (⟨"java/lang/StringUTF16", "newBytesLength", "(I)I"⟩ : MethodName) jdk_52_method_3_code 1 (some .int) ws ({ frames := 0, cells := 0, slots := 0, locals := 0 } : Room) #[(.int (Int32.ofNat n))] h0 (own_Qr (some (.int (Int32.ofNat (2 * n)))) h0 n0) := by
  refine own_body (ls := #[.val (.int (Int32.ofNat n))]) pn_16 (fun m => by first | (simp [entryFrame, mkF, argsToLocals, Value.category]; done) | rfl) ?_
  intro p e s m below meth c T0 hZ hx hby hml hown hnm hret hlk X0 e0
  replace hml : c.maxLocals = 1 := hml
  have N0 := Fr.nil n0
  refine own_go (fun _ => XS.iloadN X0.here hx rfl (hb hby d16_0) rfl ) ?_
  show own_R p.tables e below _ T0 (mkF m 1 #[.val (.int (Int32.ofNat n))] [(.int (Int32.ofNat n))])
  refine own_go (fun _ => XS.ifYes X0.here hx rfl (pc0 := 1) (pc' := 12) rfl (hb hby d16_1) rfl ((if0 _ _).trans (flt (own_ge0 (by omega) : ¬ ((Int32.ofNat n) < (0 : Int32)))).2.1) (by decide) (by decide)) ?_
  show own_R p.tables e below _ T0 (mkF m 12 #[.val (.int (Int32.ofNat n))] [])
  refine own_go (fun _ => XS.iloadN X0.here hx rfl (hb hby d16_12) rfl ) ?_
  show own_R p.tables e below _ T0 (mkF m 13 #[.val (.int (Int32.ofNat n))] [(.int (Int32.ofNat n))])
  refine own_go (X0.ldcInt hx hown (mvT hZ (hw _ (List.mem_of_getElem? (i := 72) rfl))) (g := (mkF m 13 #[.val (.int (Int32.ofNat n))] [(.int (Int32.ofNat n))])) rfl (hb hby d16_13)) ?_
  show own_R p.tables e below _ T0 (mkF m 15 #[.val (.int (Int32.ofNat n))] [(.int (1073741823 : Int32)), (.int (Int32.ofNat n))])
  refine own_go (fun _ => XS.icmpYes X0.here hx rfl (pc0 := 15) (pc' := 55) rfl (hb hby d16_15) rfl (tlt (own_lt (b := 1073741823) (by omega) (by decide) : (Int32.ofNat n) < (1073741823 : Int32))).1 (by decide) (by decide)) ?_
  show own_R p.tables e below _ T0 (mkF m 55 #[.val (.int (Int32.ofNat n))] [])
  refine own_go (fun _ => XS.iloadN X0.here hx rfl (hb hby d16_55) rfl ) ?_
  show own_R p.tables e below _ T0 (mkF m 56 #[.val (.int (Int32.ofNat n))] [(.int (Int32.ofNat n))])
  refine own_go (fun _ => XS.iconst X0.here hx rfl (hb hby d16_56)) ?_
  show own_R p.tables e below _ T0 (mkF m 57 #[.val (.int (Int32.ofNat n))] [(.int (1 : Int32)), (.int (Int32.ofNat n))])
  refine own_go (fun _ => XS.ishl X0.here hx rfl (hb hby d16_57) rfl) ?_
  show own_R p.tables e below _ T0 (mkF m 58 #[.val (.int (Int32.ofNat n))] [(.int ((Int32.ofNat n) <<< ((1 : Int32) &&& 31)))])
  rw [own_shl1 (by omega)]
  show own_R p.tables e below _ T0 (mkF m 58 #[.val (.int (Int32.ofNat n))] [(.int (Int32.ofNat (2 * n)))])
  exact own_end X0 (some (.int (Int32.ofNat (2 * n)))) (fun h => by rw [hret] at h; cases h) hlk (fun fs hr => own_retI X0 hx hret (hb hby d16_58) hr) ⟨rfl, N0, e0⟩ (by decide) (by decide)
def own_Qf (Z : State) (n : Nat) (h0 : Heap) (n0 : Nat) (v : Option Value) (h : Heap) (L : List Loc) : Prop := ∃ (b : Addr) (kb : ClassId), v = some (.ref b) ∧ Fr n0 L ∧ Ext h0 h ∧ b = h0.size ∧ Arv Z h b kb .byte (Int32.ofNat (2 * n)) (List.replicate (2 * n) (.int 0)) (.int 0)
set_option maxRecDepth 65536 in
set_option maxHeartbeats 4000000 in
theorem rmNBF (l : Launch) (Z : State) (a0 : Array Value) (hw : ∀ d ∈ tables_1, d.before a0 Z = true) (ws : List Jvm.Cond) (h0 : Heap) (n0 : Nat) (n : Nat) (hn : n ≤ 3) :
    own_C l Z (⟨"java/lang/StringUTF16", "newBytesFor", "(I)[B"⟩ : MethodName) jdk_52_method_2_code 1 (some (.array .byte)) ws ({ frames := 1, cells := 1, slots := 6, locals := 12 } : Room) #[(.int (Int32.ofNat n))] h0 (own_Qf Z n h0 n0) := by
  refine own_body (ls := #[.val (.int (Int32.ofNat n))]) pn_15 (fun m => by first | (simp [entryFrame, mkF, argsToLocals, Value.category]; done) | rfl) ?_
  intro p e s m below meth c T0 hZ hx hby hml hown hnm hret hlk X0 e0
  replace hml : c.maxLocals = 1 := hml
  have N0 := Fr.nil n0
  refine own_go (fun _ => XS.iloadN X0.here hx rfl (hb hby d15_0) rfl ) ?_
  show own_R p.tables e below _ T0 (mkF m 1 #[.val (.int (Int32.ofNat n))] [(.int (Int32.ofNat n))])
  obtain ⟨v1, T1, L1, X1, Q1, st1⟩ := own_callS X0 hx hZ hown (y := (⟨"java/lang/StringUTF16", "newBytesLength", "(I)I"⟩ : MethodName)) (hw _ (List.mem_of_getElem? (i := 69) rfl)) (hw _ (List.mem_of_getElem? (i := 70) rfl)) (hw _ (List.mem_of_getElem? (i := 19) rfl)) (hw _ (List.mem_of_getElem? (i := 71) rfl)) (by decide) (rmNBL l Z a0 hw [] h0 n0 n hn) (W := 0) (g := (mkF m 1 #[.val (.int (Int32.ofNat n))] [(.int (Int32.ofNat n))])) rfl (by rw [hml]; rfl) (argsL := [(.int (Int32.ofNat n))]) (rest := []) (lenOf pd__I_I rfl) rfl rfl (by show 2 * 0 + _ ≤ _; exact Nat.le_of_eq rfl) (hb hby d15_1) e0 (by decide) (by decide) (by decide) (by decide)
  obtain ⟨rfl, N1q, e1⟩ := Q1
  have N1 := Fr.app N0 N1q
  refine own_go st1 ?_
  show own_R p.tables e below _ T1 (mkF m 4 #[.val (.int (Int32.ofNat n))] [(.int (Int32.ofNat (2 * n)))])
  obtain ⟨T2, h2, k2, X2, e2, E2, A2, st2⟩ := newP X1 hx hZ (hw _ (List.mem_of_getElem? (i := 21) rfl)) e1 (g := (mkF m 4 #[.val (.int (Int32.ofNat n))] [(.int (Int32.ofNat (2 * n)))])) rfl (hb hby d15_4) rfl (own_ge0 (by omega)) (cap := 6) (by rw [own_clamp (by omega)]; omega) (by decide) (by decide) (by decide)
  obtain ⟨a2, g2⟩ : ∃ z, z = h0.size := ⟨_, rfl⟩
  rw [← g2] at A2 st2
  refine own_go st2 ?_
  show own_R p.tables e below _ T2 (mkF m 6 #[.val (.int (Int32.ofNat n))] [(.ref a2)])
  have A3 : Arv Z h2 a2 k2 .byte (Int32.ofNat (2 * n)) (List.replicate (2 * n) (.int 0)) (.int 0) := (Arv.new A2 (own_ge0 (by omega))).pad (fun i => by rw [List.getD_eq_getElem?_getD, List.getElem?_replicate]; split <;> rfl)
  exact own_end X2 (some (.ref a2)) (fun h => by rw [hret] at h; cases h) hlk (fun fs hr => own_retA X2 hx hret rfl rfl (hb hby d15_6) hr) (by show own_Qf Z n h0 n0 _ T2.heap _; rw [e2]; exact ⟨a2, k2, rfl, N1, E2, g2, A3⟩) (by decide) (by decide)
def own_Qt (Z : State) (n : Nat) (cs : List Int32) (h0 : Heap) (n0 : Nat) (v : Option Value) (h : Heap) (L : List Loc) : Prop := ∃ (b : Addr) (kb : ClassId) (vs : List Value), v = some (.ref b) ∧ Fr n0 L ∧ Keep h0 h [] ∧ h0.size ≤ b ∧ vs.length = 2 * n ∧ Arv Z h b kb .byte (Int32.ofNat (2 * n)) vs (.int 0) ∧ ∀ i, i < n → own_pr vs i (cs.getD i 0)
set_option maxRecDepth 65536 in
set_option maxHeartbeats 8000000 in
theorem rmTB (l : Launch) (Z : State) (a0 : Array Value) (hw : ∀ d ∈ tables_1, d.before a0 Z = true) (ws : List Jvm.Cond) (h0 : Heap) (n0 : Nat) (zc : Int32) (O1 : Sta Z Z.heap "java/lang/String" "COMPACT_STRINGS" "Z" (.int zc)) (hzc : ¬ zc = 0) (O2 : Sta Z Z.heap "java/lang/StringUTF16" "$assertionsDisabled" "Z" (.int 1)) (O3 : Sta Z Z.heap "java/lang/StringUTF16" "HI_BYTE_SHIFT" "I" (.int 0)) (O4 : Sta Z Z.heap "java/lang/StringUTF16" "LO_BYTE_SHIFT" "I" (.int 8)) (Od : Old Z n0 h0) (a : Addr) (ka : ClassId) (n : Nat) (cs : List Int32) (Ac : Arv Z h0 a ka .char (Int32.ofNat n) (cs.map Value.int) (.int 0)) (hn : n ≤ 3) (Z0 : n0 ≤ h0.size)  :
    own_C l Z (⟨"java/lang/StringUTF16", "toBytes", "([CII)[B"⟩ : MethodName) jdk_52_method_14_code 5 (some (.array .byte)) ws ({ frames := 2, cells := 1, slots := 6, locals := 24 } : Room) #[(.ref a), (.int (0 : Int32)), (.int (Int32.ofNat n))] h0 (own_Qt Z n cs h0 n0) := by
  refine own_body (ls := #[.val (.ref a), .val (.int (0 : Int32)), .val (.int (Int32.ofNat n)), .unset, .unset]) pn_14 (fun m => by first | (simp [entryFrame, mkF, argsToLocals, Value.category]; done) | rfl) ?_
  intro p e s m below meth c T0 hZ hx hby hml hown hnm hret hlk X0 e0
  replace hml : c.maxLocals = 5 := hml
  have N0 := Fr.nil n0
  refine own_go (fun _ => XS.iloadN X0.here hx rfl (hb hby d14_0) rfl ) ?_
  show own_R p.tables e below _ T0 (mkF m 1 #[.val (.ref a), .val (.int (0 : Int32)), .val (.int (Int32.ofNat n)), .unset, .unset] [(.int (Int32.ofNat n))])
  obtain ⟨v1, T1, L1, X1, Q1, st1⟩ := own_callS X0 hx hZ hown (y := (⟨"java/lang/StringUTF16", "newBytesFor", "(I)[B"⟩ : MethodName)) (hw _ (List.mem_of_getElem? (i := 66) rfl)) (hw _ (List.mem_of_getElem? (i := 67) rfl)) (hw _ (List.mem_of_getElem? (i := 19) rfl)) (hw _ (List.mem_of_getElem? (i := 68) rfl)) (by decide) (rmNBF l Z a0 hw [] h0 n0 n hn) (W := 0) (g := (mkF m 1 #[.val (.ref a), .val (.int (0 : Int32)), .val (.int (Int32.ofNat n)), .unset, .unset] [(.int (Int32.ofNat n))])) rfl (by rw [hml]; rfl) (argsL := [(.int (Int32.ofNat n))]) (rest := []) (lenOf pd__I__B rfl) rfl rfl (by show 2 * 0 + _ ≤ _; exact Nat.le_of_eq rfl) (hb hby d14_1) e0 (by decide) (by decide) (by decide) (by decide)
  obtain ⟨b, kb, rfl, N1q, E1, gb, A1⟩ := Q1
  have N1 := Fr.app N0 N1q
  have Od1 := Od.ext E1
  have la : a < h0.size := Ac.lt
  have nab : a ≠ b := Ne.symm (own_ne (Nat.lt_of_lt_of_le la (Nat.le_of_eq gb.symm)))
  have gb0 : n0 ≤ b := Nat.le_trans Z0 (Nat.le_of_eq gb.symm)
  refine own_go st1 ?_
  show own_R p.tables e below _ T1 (mkF m 4 #[.val (.ref a), .val (.int (0 : Int32)), .val (.int (Int32.ofNat n)), .unset, .unset] [(.ref b)])
  obtain ⟨h1, e1⟩ : ∃ z, T1.heap = z := ⟨_, rfl⟩
  rw [e1] at A1 E1 Od1
  have Ac1 := Ac.ext E1
  refine own_go (fun _ => XS.astoreN X1.here hx rfl (hb hby d14_4) rfl rfl (l' := #[.val (.ref a), .val (.int (0 : Int32)), .val (.int (Int32.ofNat n)), .val (.ref b), .unset]) rfl) ?_
  show own_R p.tables e below _ T1 (mkF m 5 #[.val (.ref a), .val (.int (0 : Int32)), .val (.int (Int32.ofNat n)), .val (.ref b), .unset] [])
  refine own_go (fun _ => XS.iconst X1.here hx rfl (hb hby d14_5)) ?_
  show own_R p.tables e below _ T1 (mkF m 6 #[.val (.ref a), .val (.int (0 : Int32)), .val (.int (Int32.ofNat n)), .val (.ref b), .unset] [(.int (0 : Int32))])
  refine own_go (fun _ => XS.istore X1.here hx rfl (hb hby d14_6) rfl (l' := #[.val (.ref a), .val (.int (0 : Int32)), .val (.int (Int32.ofNat n)), .val (.ref b), .val (.int (0 : Int32))]) rfl) ?_
  show own_R p.tables e below _ T1 (mkF m 8 #[.val (.ref a), .val (.int (0 : Int32)), .val (.int (Int32.ofNat n)), .val (.ref b), .val (.int (0 : Int32))] [])
  have J : ∀ (d j : Nat), j + d = n → ∀ (T : State) (hT : Heap) (lc : List Loc) (vs : List Value), Stand p l e ({ frames := 2, cells := 1, slots := 6, locals := 24 } : Room) s m #[(.ref a), (.int (0 : Int32)), (.int (Int32.ofNat n))] below meth c T lc 1 6 → T.heap = hT → Fr n0 lc → Keep h1 hT [b] → Old Z n0 hT → vs.length = 2 * n → Arv Z hT b kb .byte (Int32.ofNat (2 * n)) vs (.int 0) → (∀ i, i < j → own_pr vs i (cs.getD i 0)) → own_R p.tables e below (own_E s below (own_Qt Z n cs h0 n0) (({ frames := 2, cells := 1, slots := 6, locals := 24 } : Room)).cells (({ frames := 2, cells := 1, slots := 6, locals := 24 } : Room)).slots) T (mkF m 8 #[.val (.ref a), .val (.int (Int32.ofNat j)), .val (.int (Int32.ofNat n)), .val (.ref b), .val (.int (Int32.ofNat j))] []) := by
    intro d
    induction d with
    | zero =>
    intro j hj T hT lc vs X eh NL KT OT hl AT hp
    obtain rfl : j = n := by omega
    refine own_go (fun _ => XS.iload X.here hx rfl (hb hby d14_8) rfl ) ?_
    show own_R p.tables e below _ T (mkF m 10 #[.val (.ref a), .val (.int (Int32.ofNat j)), .val (.int (Int32.ofNat j)), .val (.ref b), .val (.int (Int32.ofNat j))] [(.int (Int32.ofNat j))])
    refine own_go (fun _ => XS.iloadN X.here hx rfl (hb hby d14_10) rfl ) ?_
    show own_R p.tables e below _ T (mkF m 11 #[.val (.ref a), .val (.int (Int32.ofNat j)), .val (.int (Int32.ofNat j)), .val (.ref b), .val (.int (Int32.ofNat j))] [(.int (Int32.ofNat j)), (.int (Int32.ofNat j))])
    refine own_go (fun _ => XS.icmpYes X.here hx rfl (pc0 := 11) (pc' := 32) rfl (hb hby d14_11) rfl (flt (own_nlt (Nat.le_refl _) (by omega) : ¬ ((Int32.ofNat j) < (Int32.ofNat j)))).2.1 (by decide) (by decide)) ?_
    show own_R p.tables e below _ T (mkF m 32 #[.val (.ref a), .val (.int (Int32.ofNat j)), .val (.int (Int32.ofNat j)), .val (.ref b), .val (.int (Int32.ofNat j))] [])
    refine own_go (fun _ => XS.aloadN X.here hx rfl (hb hby d14_32) rfl rfl) ?_
    show own_R p.tables e below _ T (mkF m 33 #[.val (.ref a), .val (.int (Int32.ofNat j)), .val (.int (Int32.ofNat j)), .val (.ref b), .val (.int (Int32.ofNat j))] [(.ref b)])
    have KK : Keep h0 hT [] := own_keep0 ((Keep.refl h0 []).ext E1) KT (Nat.le_of_eq gb.symm)
    exact own_end X (some (.ref b)) (fun h => by rw [hret] at h; cases h) hlk (fun fs hr => own_retA X hx hret rfl rfl (hb hby d14_33) hr) (by show own_Qt Z j cs h0 n0 _ T.heap _; rw [eh]; exact ⟨b, kb, vs, rfl, NL, KK, Nat.le_of_eq gb.symm, hl, AT, hp⟩) (by decide) (by decide)
    | succ d ih =>
    intro j hj T hT lc vs X eh NL KT OT hl AT hp
    refine own_go (fun _ => XS.iload X.here hx rfl (hb hby d14_8) rfl ) ?_
    show own_R p.tables e below _ T (mkF m 10 #[.val (.ref a), .val (.int (Int32.ofNat j)), .val (.int (Int32.ofNat n)), .val (.ref b), .val (.int (Int32.ofNat j))] [(.int (Int32.ofNat j))])
    refine own_go (fun _ => XS.iloadN X.here hx rfl (hb hby d14_10) rfl ) ?_
    show own_R p.tables e below _ T (mkF m 11 #[.val (.ref a), .val (.int (Int32.ofNat j)), .val (.int (Int32.ofNat n)), .val (.ref b), .val (.int (Int32.ofNat j))] [(.int (Int32.ofNat n)), (.int (Int32.ofNat j))])
    refine own_go (fun _ => XS.icmpNo X.here hx rfl (hb hby d14_11) rfl (tlt (own_lt (by omega) (by omega) : (Int32.ofNat j) < (Int32.ofNat n))).2.1) ?_
    show own_R p.tables e below _ T (mkF m 14 #[.val (.ref a), .val (.int (Int32.ofNat j)), .val (.int (Int32.ofNat n)), .val (.ref b), .val (.int (Int32.ofNat j))] [])
    refine own_go (fun _ => XS.aloadN X.here hx rfl (hb hby d14_14) rfl rfl) ?_
    show own_R p.tables e below _ T (mkF m 15 #[.val (.ref a), .val (.int (Int32.ofNat j)), .val (.int (Int32.ofNat n)), .val (.ref b), .val (.int (Int32.ofNat j))] [(.ref b)])
    refine own_go (fun _ => XS.iload X.here hx rfl (hb hby d14_15) rfl ) ?_
    show own_R p.tables e below _ T (mkF m 17 #[.val (.ref a), .val (.int (Int32.ofNat j)), .val (.int (Int32.ofNat n)), .val (.ref b), .val (.int (Int32.ofNat j))] [(.int (Int32.ofNat j)), (.ref b)])
    refine own_go (fun _ => XS.aloadN X.here hx rfl (hb hby d14_17) rfl rfl) ?_
    show own_R p.tables e below _ T (mkF m 18 #[.val (.ref a), .val (.int (Int32.ofNat j)), .val (.int (Int32.ofNat n)), .val (.ref b), .val (.int (Int32.ofNat j))] [(.ref a), (.int (Int32.ofNat j)), (.ref b)])
    refine own_go (fun _ => XS.iloadN X.here hx rfl (hb hby d14_18) rfl ) ?_
    show own_R p.tables e below _ T (mkF m 19 #[.val (.ref a), .val (.int (Int32.ofNat j)), .val (.int (Int32.ofNat n)), .val (.ref b), .val (.int (Int32.ofNat j))] [(.int (Int32.ofNat j)), (.ref a), (.int (Int32.ofNat j)), (.ref b)])
    refine own_go (own_ldC X hx hZ eh (Ac1.keep KT (own_ni nab)) (j := (Int32.ofNat j)) ⟨own_ge0 (by omega), own_lt (by omega) (by omega)⟩ (v := (.int (cs.getD j 0))) (by rw [own_clamp (by omega)]; exact own_mapd cs j) (g := (mkF m 19 #[.val (.ref a), .val (.int (Int32.ofNat j)), .val (.int (Int32.ofNat n)), .val (.ref b), .val (.int (Int32.ofNat j))] [(.int (Int32.ofNat j)), (.ref a), (.int (Int32.ofNat j)), (.ref b)])) rfl rfl (hb hby d14_19)) ?_
    show own_R p.tables e below _ T (mkF m 20 #[.val (.ref a), .val (.int (Int32.ofNat j)), .val (.int (Int32.ofNat n)), .val (.ref b), .val (.int (Int32.ofNat j))] [(.int (cs.getD j 0)), (.int (Int32.ofNat j)), (.ref b)])
    obtain ⟨v2, T2, L2, X2, Q2, st2⟩ := own_callS X hx hZ hown (y := (⟨"java/lang/StringUTF16", "putChar", "([BII)V"⟩ : MethodName)) (hw _ (List.mem_of_getElem? (i := 73) rfl)) (hw _ (List.mem_of_getElem? (i := 74) rfl)) (hw _ (List.mem_of_getElem? (i := 19) rfl)) (hw _ (List.mem_of_getElem? (i := 75) rfl)) (by decide) (rmPut l Z a0 hw [] hT n0 zc O1 hzc O2 O3 O4  OT b kb (2 * n) j vs AT (by omega) (by omega) hl (cs.getD j 0) gb0) (W := 0) (g := (mkF m 20 #[.val (.ref a), .val (.int (Int32.ofNat j)), .val (.int (Int32.ofNat n)), .val (.ref b), .val (.int (Int32.ofNat j))] [(.int (cs.getD j 0)), (.int (Int32.ofNat j)), (.ref b)])) rfl (by rw [hml]; rfl) (argsL := [(.ref b), (.int (Int32.ofNat j)), (.int (cs.getD j 0))]) (rest := []) (lenOf pd___BII_V rfl) rfl rfl (by show 2 * 0 + _ ≤ _; exact Nat.le_of_eq rfl) (hb hby d14_20) eh (by decide) (by decide) (by decide) (by decide)
    obtain ⟨rfl, N2q, K2, A2⟩ := Q2
    have N2 := Fr.app NL N2q
    refine own_go st2 ?_
    show own_R p.tables e below _ T2 (mkF m 23 #[.val (.ref a), .val (.int (Int32.ofNat j)), .val (.int (Int32.ofNat n)), .val (.ref b), .val (.int (Int32.ofNat j))] [])
    refine own_go (fun _ => XS.iinc X2.here hx rfl (hb hby d14_23) rfl (l' := #[.val (.ref a), .val (.int ((Int32.ofNat j) + (1 : Int32))), .val (.int (Int32.ofNat n)), .val (.ref b), .val (.int (Int32.ofNat j))]) rfl) ?_
    show own_R p.tables e below _ T2 (mkF m 26 #[.val (.ref a), .val (.int ((Int32.ofNat j) + (1 : Int32))), .val (.int (Int32.ofNat n)), .val (.ref b), .val (.int (Int32.ofNat j))] [])
    refine own_go (fun _ => XS.iinc X2.here hx rfl (hb hby d14_26) rfl (l' := #[.val (.ref a), .val (.int ((Int32.ofNat j) + (1 : Int32))), .val (.int (Int32.ofNat n)), .val (.ref b), .val (.int ((Int32.ofNat j) + (1 : Int32)))]) rfl) ?_
    show own_R p.tables e below _ T2 (mkF m 29 #[.val (.ref a), .val (.int ((Int32.ofNat j) + (1 : Int32))), .val (.int (Int32.ofNat n)), .val (.ref b), .val (.int ((Int32.ofNat j) + (1 : Int32)))] [])
    rw [own_inc j]
    show own_R p.tables e below _ T2 (mkF m 29 #[.val (.ref a), .val (.int (Int32.ofNat (j + 1))), .val (.int (Int32.ofNat n)), .val (.ref b), .val (.int (Int32.ofNat (j + 1)))] [])
    refine own_go (fun _ => XS.goto X2.here hx rfl (pc0 := 29) (pc' := 8) rfl (hb hby d14_29) (by decide) (by decide)) ?_
    show own_R p.tables e below _ T2 (mkF m 8 #[.val (.ref a), .val (.int (Int32.ofNat (j + 1))), .val (.int (Int32.ofNat n)), .val (.ref b), .val (.int (Int32.ofNat (j + 1)))] [])
    exact ih (j + 1) (by omega) T2 _ _ _ X2 rfl N2 (KT.trans K2 (fun x hx => Or.inl hx)) (OT.keep K2 (fun x hx => by cases List.mem_singleton.mp hx; exact gb0)) (by simp; omega) A2 (fun i hi => own_pr_set (by omega) (fun q => hp i q) (fun q => by rw [q]) (by omega))
  exact J n 0 (by omega) T1 h1 _ _ X1 e1 N1 (Keep.refl _ _) Od1 (by simp) A1 (fun i hi => absurd hi (Nat.not_lt_zero _))
def own_Q5 (Z : State) (b : Addr) (kb : ClassId) (n : Nat) (cs : List Int32) (h0 : Heap) (n0 : Nat) (v : Option Value) (h : Heap) (L : List Loc) : Prop := ∃ (r : Nat) (vs : List Value), v = some (.int (Int32.ofNat r)) ∧ Fr n0 L ∧ Keep h0 h [b] ∧ r ≤ n ∧ (r < n → (255 : Int32) < cs.getD r 0) ∧ vs.length = n ∧ Arv Z h b kb .byte (Int32.ofNat n) vs (.int 0)
set_option maxRecDepth 65536 in
set_option maxHeartbeats 8000000 in
theorem rmC5 (l : Launch) (Z : State) (a0 : Array Value) (hw : ∀ d ∈ tables_1, d.before a0 Z = true) (ws : List Jvm.Cond) (h0 : Heap) (n0 : Nat) (a : Addr) (ka : ClassId) (n : Nat) (cs : List Int32) (Ac : Arv Z h0 a ka .char (Int32.ofNat n) (cs.map Value.int) (.int 0)) (hn : n ≤ 3) (Z0 : n0 ≤ h0.size) (b : Addr) (kb : ClassId) (vs0 : List Value) (A0 : Arv Z h0 b kb .byte (Int32.ofNat n) vs0 (.int 0)) (hl0 : vs0.length = n) (nab : a ≠ b) (gb : n0 ≤ b) :
    own_C l Z (⟨"java/lang/StringUTF16", "compress", "([CI[BII)I"⟩ : MethodName) jdk_52_method_21_code 7 (some .int) ws ({ frames := 0, cells := 0, slots := 0, locals := 0 } : Room) #[(.ref a), (.int (0 : Int32)), (.ref b), (.int (0 : Int32)), (.int (Int32.ofNat n))] h0 (own_Q5 Z b kb n cs h0 n0) := by
  refine own_body (ls := #[.val (.ref a), .val (.int (0 : Int32)), .val (.ref b), .val (.int (0 : Int32)), .val (.int (Int32.ofNat n)), .unset, .unset]) pn_5 (fun m => by first | (simp [entryFrame, mkF, argsToLocals, Value.category]; done) | rfl) ?_
  intro p e s m below meth c T0 hZ hx hby hml hown hnm hret hlk X0 e0
  replace hml : c.maxLocals = 7 := hml
  have N0 := Fr.nil n0
  refine own_go (fun _ => XS.iconst X0.here hx rfl (hb hby d5_0)) ?_
  show own_R p.tables e below _ T0 (mkF m 1 #[.val (.ref a), .val (.int (0 : Int32)), .val (.ref b), .val (.int (0 : Int32)), .val (.int (Int32.ofNat n)), .unset, .unset] [(.int (0 : Int32))])
  refine own_go (fun _ => XS.istore X0.here hx rfl (hb hby d5_1) rfl (l' := #[.val (.ref a), .val (.int (0 : Int32)), .val (.ref b), .val (.int (0 : Int32)), .val (.int (Int32.ofNat n)), .val (.int (0 : Int32)), .unset]) rfl) ?_
  show own_R p.tables e below _ T0 (mkF m 3 #[.val (.ref a), .val (.int (0 : Int32)), .val (.ref b), .val (.int (0 : Int32)), .val (.int (Int32.ofNat n)), .val (.int (0 : Int32)), .unset] [])
  have J : ∀ (d j : Nat), j + d = n → ∀ (sl : Slot) (hsl : sl = .unset ∨ ∃ x, sl = .val (.int x)) (T : State) (hT : Heap) (lc : List Loc) (vs : List Value), Stand p l e ({ frames := 0, cells := 0, slots := 0, locals := 0 } : Room) s m #[(.ref a), (.int (0 : Int32)), (.ref b), (.int (0 : Int32)), (.int (Int32.ofNat n))] below meth c T lc 0 0 → T.heap = hT → Fr n0 lc → Keep h0 hT [b] → vs.length = n → Arv Z hT b kb .byte (Int32.ofNat n) vs (.int 0) → own_R p.tables e below (own_E s below (own_Q5 Z b kb n cs h0 n0) (({ frames := 0, cells := 0, slots := 0, locals := 0 } : Room)).cells (({ frames := 0, cells := 0, slots := 0, locals := 0 } : Room)).slots) T (mkF m 3 #[.val (.ref a), .val (.int (Int32.ofNat j)), .val (.ref b), .val (.int (Int32.ofNat j)), .val (.int (Int32.ofNat n)), .val (.int (Int32.ofNat j)), sl] []) := by
    intro d
    induction d with
    | zero =>
    intro j hj sl hsl T hT lc vs X eh NL KT hl AT
    obtain rfl : j = n := by omega
    refine own_go (fun _ => XS.iload X.here hx rfl (hb hby d5_3) rfl ) ?_
    show own_R p.tables e below _ T (mkF m 5 #[.val (.ref a), .val (.int (Int32.ofNat j)), .val (.ref b), .val (.int (Int32.ofNat j)), .val (.int (Int32.ofNat j)), .val (.int (Int32.ofNat j)), sl] [(.int (Int32.ofNat j))])
    refine own_go (fun _ => XS.iload X.here hx rfl (hb hby d5_5) rfl ) ?_
    show own_R p.tables e below _ T (mkF m 7 #[.val (.ref a), .val (.int (Int32.ofNat j)), .val (.ref b), .val (.int (Int32.ofNat j)), .val (.int (Int32.ofNat j)), .val (.int (Int32.ofNat j)), sl] [(.int (Int32.ofNat j)), (.int (Int32.ofNat j))])
    refine own_go (fun _ => XS.icmpYes X.here hx rfl (pc0 := 7) (pc' := 44) rfl (hb hby d5_7) rfl (flt (own_nlt (Nat.le_refl _) (by omega) : ¬ ((Int32.ofNat j) < (Int32.ofNat j)))).2.1 (by decide) (by decide)) ?_
    show own_R p.tables e below _ T (mkF m 44 #[.val (.ref a), .val (.int (Int32.ofNat j)), .val (.ref b), .val (.int (Int32.ofNat j)), .val (.int (Int32.ofNat j)), .val (.int (Int32.ofNat j)), sl] [])
    refine own_go (fun _ => XS.iload X.here hx rfl (hb hby d5_44) rfl ) ?_
    show own_R p.tables e below _ T (mkF m 46 #[.val (.ref a), .val (.int (Int32.ofNat j)), .val (.ref b), .val (.int (Int32.ofNat j)), .val (.int (Int32.ofNat j)), .val (.int (Int32.ofNat j)), sl] [(.int (Int32.ofNat j))])
    exact own_end X (some (.int (Int32.ofNat j))) (fun h => by rw [hret] at h; cases h) hlk (fun fs hr => own_retI X hx hret (hb hby d5_46) hr) (by show own_Q5 Z b kb j cs h0 n0 _ T.heap _; rw [eh]; exact ⟨j, vs, rfl, NL, KT, Nat.le_refl _, fun q => absurd q (Nat.lt_irrefl _), hl, AT⟩) (by decide) (by decide)
    | succ d ih =>
    intro j hj sl hsl T hT lc vs X eh NL KT hl AT
    refine own_go (fun _ => XS.iload X.here hx rfl (hb hby d5_3) rfl ) ?_
    show own_R p.tables e below _ T (mkF m 5 #[.val (.ref a), .val (.int (Int32.ofNat j)), .val (.ref b), .val (.int (Int32.ofNat j)), .val (.int (Int32.ofNat n)), .val (.int (Int32.ofNat j)), sl] [(.int (Int32.ofNat j))])
    refine own_go (fun _ => XS.iload X.here hx rfl (hb hby d5_5) rfl ) ?_
    show own_R p.tables e below _ T (mkF m 7 #[.val (.ref a), .val (.int (Int32.ofNat j)), .val (.ref b), .val (.int (Int32.ofNat j)), .val (.int (Int32.ofNat n)), .val (.int (Int32.ofNat j)), sl] [(.int (Int32.ofNat n)), (.int (Int32.ofNat j))])
    refine own_go (fun _ => XS.icmpNo X.here hx rfl (hb hby d5_7) rfl (tlt (own_lt (by omega) (by omega) : (Int32.ofNat j) < (Int32.ofNat n))).2.1) ?_
    show own_R p.tables e below _ T (mkF m 10 #[.val (.ref a), .val (.int (Int32.ofNat j)), .val (.ref b), .val (.int (Int32.ofNat j)), .val (.int (Int32.ofNat n)), .val (.int (Int32.ofNat j)), sl] [])
    refine own_go (fun _ => XS.aloadN X.here hx rfl (hb hby d5_10) rfl rfl) ?_
    show own_R p.tables e below _ T (mkF m 11 #[.val (.ref a), .val (.int (Int32.ofNat j)), .val (.ref b), .val (.int (Int32.ofNat j)), .val (.int (Int32.ofNat n)), .val (.int (Int32.ofNat j)), sl] [(.ref a)])
    refine own_go (fun _ => XS.iloadN X.here hx rfl (hb hby d5_11) rfl ) ?_
    show own_R p.tables e below _ T (mkF m 12 #[.val (.ref a), .val (.int (Int32.ofNat j)), .val (.ref b), .val (.int (Int32.ofNat j)), .val (.int (Int32.ofNat n)), .val (.int (Int32.ofNat j)), sl] [(.int (Int32.ofNat j)), (.ref a)])
    refine own_go (own_ldC X hx hZ eh (Ac.keep KT (own_ni nab)) (j := (Int32.ofNat j)) ⟨own_ge0 (by omega), own_lt (by omega) (by omega)⟩ (v := (.int (cs.getD j 0))) (by rw [own_clamp (by omega)]; exact own_mapd cs j) (g := (mkF m 12 #[.val (.ref a), .val (.int (Int32.ofNat j)), .val (.ref b), .val (.int (Int32.ofNat j)), .val (.int (Int32.ofNat n)), .val (.int (Int32.ofNat j)), sl] [(.int (Int32.ofNat j)), (.ref a)])) rfl rfl (hb hby d5_12)) ?_
    show own_R p.tables e below _ T (mkF m 13 #[.val (.ref a), .val (.int (Int32.ofNat j)), .val (.ref b), .val (.int (Int32.ofNat j)), .val (.int (Int32.ofNat n)), .val (.int (Int32.ofNat j)), sl] [(.int (cs.getD j 0))])
    refine own_go (fun _ => XS.istore X.here hx rfl (hb hby d5_13) rfl (l' := #[.val (.ref a), .val (.int (Int32.ofNat j)), .val (.ref b), .val (.int (Int32.ofNat j)), .val (.int (Int32.ofNat n)), .val (.int (Int32.ofNat j)), .val (.int (cs.getD j 0))]) (by rcases hsl with rfl | ⟨x, rfl⟩ <;> rfl)) ?_
    show own_R p.tables e below _ T (mkF m 15 #[.val (.ref a), .val (.int (Int32.ofNat j)), .val (.ref b), .val (.int (Int32.ofNat j)), .val (.int (Int32.ofNat n)), .val (.int (Int32.ofNat j)), .val (.int (cs.getD j 0))] [])
    refine own_go (fun _ => XS.iload X.here hx rfl (hb hby d5_15) rfl ) ?_
    show own_R p.tables e below _ T (mkF m 17 #[.val (.ref a), .val (.int (Int32.ofNat j)), .val (.ref b), .val (.int (Int32.ofNat j)), .val (.int (Int32.ofNat n)), .val (.int (Int32.ofNat j)), .val (.int (cs.getD j 0))] [(.int (cs.getD j 0))])
    refine own_go (fun _ => XS.sipush X.here hx rfl (hb hby d5_17)) ?_
    show own_R p.tables e below _ T (mkF m 20 #[.val (.ref a), .val (.int (Int32.ofNat j)), .val (.ref b), .val (.int (Int32.ofNat j)), .val (.int (Int32.ofNat n)), .val (.int (Int32.ofNat j)), .val (.int (cs.getD j 0))] [(.int (255 : Int32)), (.int (cs.getD j 0))])
    by_cases hc : (255 : Int32) < (cs.getD j 0)
    · show own_R p.tables e below _ T (mkF m 20 #[.val (.ref a), .val (.int (Int32.ofNat j)), .val (.ref b), .val (.int (Int32.ofNat j)), .val (.int (Int32.ofNat n)), .val (.int (Int32.ofNat j)), .val (.int (cs.getD j 0))] [(.int (255 : Int32)), (.int (cs.getD j 0))])
      refine own_go (fun _ => XS.icmpNo X.here hx rfl (hb hby d5_20) rfl (tlt hc).2.2.2) ?_
      show own_R p.tables e below _ T (mkF m 23 #[.val (.ref a), .val (.int (Int32.ofNat j)), .val (.ref b), .val (.int (Int32.ofNat j)), .val (.int (Int32.ofNat n)), .val (.int (Int32.ofNat j)), .val (.int (cs.getD j 0))] [])
      refine own_go (fun _ => XS.iload X.here hx rfl (hb hby d5_23) rfl ) ?_
      show own_R p.tables e below _ T (mkF m 25 #[.val (.ref a), .val (.int (Int32.ofNat j)), .val (.ref b), .val (.int (Int32.ofNat j)), .val (.int (Int32.ofNat n)), .val (.int (Int32.ofNat j)), .val (.int (cs.getD j 0))] [(.int (Int32.ofNat j))])
      exact own_end X (some (.int (Int32.ofNat j))) (fun h => by rw [hret] at h; cases h) hlk (fun fs hr => own_retI X hx hret (hb hby d5_25) hr) (by show own_Q5 Z b kb n cs h0 n0 _ T.heap _; rw [eh]; exact ⟨j, vs, rfl, NL, KT, by omega, fun _ => hc, hl, AT⟩) (by decide) (by decide)
    · show own_R p.tables e below _ T (mkF m 20 #[.val (.ref a), .val (.int (Int32.ofNat j)), .val (.ref b), .val (.int (Int32.ofNat j)), .val (.int (Int32.ofNat n)), .val (.int (Int32.ofNat j)), .val (.int (cs.getD j 0))] [(.int (255 : Int32)), (.int (cs.getD j 0))])
      refine own_go (fun _ => XS.icmpYes X.here hx rfl (pc0 := 20) (pc' := 26) rfl (hb hby d5_20) rfl (flt hc).2.2.2 (by decide) (by decide)) ?_
      show own_R p.tables e below _ T (mkF m 26 #[.val (.ref a), .val (.int (Int32.ofNat j)), .val (.ref b), .val (.int (Int32.ofNat j)), .val (.int (Int32.ofNat n)), .val (.int (Int32.ofNat j)), .val (.int (cs.getD j 0))] [])
      refine own_go (fun _ => XS.aloadN X.here hx rfl (hb hby d5_26) rfl rfl) ?_
      show own_R p.tables e below _ T (mkF m 27 #[.val (.ref a), .val (.int (Int32.ofNat j)), .val (.ref b), .val (.int (Int32.ofNat j)), .val (.int (Int32.ofNat n)), .val (.int (Int32.ofNat j)), .val (.int (cs.getD j 0))] [(.ref b)])
      refine own_go (fun _ => XS.iloadN X.here hx rfl (hb hby d5_27) rfl ) ?_
      show own_R p.tables e below _ T (mkF m 28 #[.val (.ref a), .val (.int (Int32.ofNat j)), .val (.ref b), .val (.int (Int32.ofNat j)), .val (.int (Int32.ofNat n)), .val (.int (Int32.ofNat j)), .val (.int (cs.getD j 0))] [(.int (Int32.ofNat j)), (.ref b)])
      refine own_go (fun _ => XS.iload X.here hx rfl (hb hby d5_28) rfl ) ?_
      show own_R p.tables e below _ T (mkF m 30 #[.val (.ref a), .val (.int (Int32.ofNat j)), .val (.ref b), .val (.int (Int32.ofNat j)), .val (.int (Int32.ofNat n)), .val (.int (Int32.ofNat j)), .val (.int (cs.getD j 0))] [(.int (cs.getD j 0)), (.int (Int32.ofNat j)), (.ref b)])
      refine own_go (fun _ => XS.i2b X.here hx rfl (hb hby d5_30) rfl) ?_
      show own_R p.tables e below _ T (mkF m 31 #[.val (.ref a), .val (.int (Int32.ofNat j)), .val (.ref b), .val (.int (Int32.ofNat j)), .val (.int (Int32.ofNat n)), .val (.int (Int32.ofNat j)), .val (.int (cs.getD j 0))] [(.int ((cs.getD j 0).toInt8.toInt32)), (.int (Int32.ofNat j)), (.ref b)])
      obtain ⟨T1, h1, X1, e1, W1, A1, st1⟩ := own_stB X hx hZ eh AT (j := (Int32.ofNat j)) ⟨own_ge0 (by omega), own_lt (by omega) (by omega)⟩ j (own_clamp (by omega)) (by omega) (g := (mkF m 31 #[.val (.ref a), .val (.int (Int32.ofNat j)), .val (.ref b), .val (.int (Int32.ofNat j)), .val (.int (Int32.ofNat n)), .val (.int (Int32.ofNat j)), .val (.int (cs.getD j 0))] [(.int ((cs.getD j 0).toInt8.toInt32)), (.int (Int32.ofNat j)), (.ref b)])) rfl rfl (hb hby d5_31)
      refine own_go st1 ?_
      show own_R p.tables e below _ T1 (mkF m 32 #[.val (.ref a), .val (.int (Int32.ofNat j)), .val (.ref b), .val (.int (Int32.ofNat j)), .val (.int (Int32.ofNat n)), .val (.int (Int32.ofNat j)), .val (.int (cs.getD j 0))] [])
      have N1 := Fr.snoc X1 NL gb
      refine own_go (fun _ => XS.iinc X1.here hx rfl (hb hby d5_32) rfl (l' := #[.val (.ref a), .val (.int ((Int32.ofNat j) + (1 : Int32))), .val (.ref b), .val (.int (Int32.ofNat j)), .val (.int (Int32.ofNat n)), .val (.int (Int32.ofNat j)), .val (.int (cs.getD j 0))]) rfl) ?_
      show own_R p.tables e below _ T1 (mkF m 35 #[.val (.ref a), .val (.int ((Int32.ofNat j) + (1 : Int32))), .val (.ref b), .val (.int (Int32.ofNat j)), .val (.int (Int32.ofNat n)), .val (.int (Int32.ofNat j)), .val (.int (cs.getD j 0))] [])
      refine own_go (fun _ => XS.iinc X1.here hx rfl (hb hby d5_35) rfl (l' := #[.val (.ref a), .val (.int ((Int32.ofNat j) + (1 : Int32))), .val (.ref b), .val (.int ((Int32.ofNat j) + (1 : Int32))), .val (.int (Int32.ofNat n)), .val (.int (Int32.ofNat j)), .val (.int (cs.getD j 0))]) rfl) ?_
      show own_R p.tables e below _ T1 (mkF m 38 #[.val (.ref a), .val (.int ((Int32.ofNat j) + (1 : Int32))), .val (.ref b), .val (.int ((Int32.ofNat j) + (1 : Int32))), .val (.int (Int32.ofNat n)), .val (.int (Int32.ofNat j)), .val (.int (cs.getD j 0))] [])
      refine own_go (fun _ => XS.iinc X1.here hx rfl (hb hby d5_38) rfl (l' := #[.val (.ref a), .val (.int ((Int32.ofNat j) + (1 : Int32))), .val (.ref b), .val (.int ((Int32.ofNat j) + (1 : Int32))), .val (.int (Int32.ofNat n)), .val (.int ((Int32.ofNat j) + (1 : Int32))), .val (.int (cs.getD j 0))]) rfl) ?_
      show own_R p.tables e below _ T1 (mkF m 41 #[.val (.ref a), .val (.int ((Int32.ofNat j) + (1 : Int32))), .val (.ref b), .val (.int ((Int32.ofNat j) + (1 : Int32))), .val (.int (Int32.ofNat n)), .val (.int ((Int32.ofNat j) + (1 : Int32))), .val (.int (cs.getD j 0))] [])
      rw [own_inc j]
      show own_R p.tables e below _ T1 (mkF m 41 #[.val (.ref a), .val (.int (Int32.ofNat (j + 1))), .val (.ref b), .val (.int (Int32.ofNat (j + 1))), .val (.int (Int32.ofNat n)), .val (.int (Int32.ofNat (j + 1))), .val (.int (cs.getD j 0))] [])
      refine own_go (fun _ => XS.goto X1.here hx rfl (pc0 := 41) (pc' := 3) rfl (hb hby d5_41) (by decide) (by decide)) ?_
      show own_R p.tables e below _ T1 (mkF m 3 #[.val (.ref a), .val (.int (Int32.ofNat (j + 1))), .val (.ref b), .val (.int (Int32.ofNat (j + 1))), .val (.int (Int32.ofNat n)), .val (.int (Int32.ofNat (j + 1))), .val (.int (cs.getD j 0))] [])
      exact ih (j + 1) (by omega) _ (Or.inr ⟨_, rfl⟩) T1 h1 _ _ X1 e1 N1 (KT.wr W1 (Or.inl (List.mem_singleton.mpr rfl))) (by simp; omega) A1
  exact J n 0 (by omega) _ (Or.inl rfl) T0 h0 _ _ X0 e0 N0 (Keep.refl _ _) hl0 A0
def own_Q3 (Z : State) (h0 : Heap) (n0 : Nat) (v : Option Value) (h : Heap) (L : List Loc) : Prop := ∃ (b : Addr) (kb : ClassId) (z : Nat) (vs : List Value), v = some (.ref b) ∧ Fr n0 L ∧ Keep h0 h [] ∧ h0.size ≤ b ∧ 1 ≤ z ∧ z ≤ 6 ∧ Arv Z h b kb .byte (Int32.ofNat z) vs (.int 0)
set_option maxRecDepth 65536 in
set_option maxHeartbeats 8000000 in
theorem rmC3 (l : Launch) (Z : State) (a0 : Array Value) (hw : ∀ d ∈ tables_1, d.before a0 Z = true) (ws : List Jvm.Cond) (h0 : Heap) (n0 : Nat) (zc : Int32) (O1 : Sta Z Z.heap "java/lang/String" "COMPACT_STRINGS" "Z" (.int zc)) (hzc : ¬ zc = 0) (O2 : Sta Z Z.heap "java/lang/StringUTF16" "$assertionsDisabled" "Z" (.int 1)) (O3 : Sta Z Z.heap "java/lang/StringUTF16" "HI_BYTE_SHIFT" "I" (.int 0)) (O4 : Sta Z Z.heap "java/lang/StringUTF16" "LO_BYTE_SHIFT" "I" (.int 8)) (Od : Old Z n0 h0) (a : Addr) (ka : ClassId) (n : Nat) (cs : List Int32) (Ac : Arv Z h0 a ka .char (Int32.ofNat n) (cs.map Value.int) (.int 0)) (hn : n ≤ 3) (Z0 : n0 ≤ h0.size) (h1n : 1 ≤ n) (hcs : ∀ i, own_cx (cs.getD i 0)) :
    own_C l Z (⟨"java/lang/StringUTF16", "compress", "([CII)[B"⟩ : MethodName) jdk_52_method_16_code 6 (some (.array .byte)) ws ({ frames := 3, cells := 2, slots := 9, locals := 40 } : Room) #[(.ref a), (.int (0 : Int32)), (.int (Int32.ofNat n))] h0 (own_Q3 Z h0 n0) := by
  refine own_body (ls := #[.val (.ref a), .val (.int (0 : Int32)), .val (.int (Int32.ofNat n)), .unset, .unset, .unset]) pn_4 (fun m => by first | (simp [entryFrame, mkF, argsToLocals, Value.category]; done) | rfl) ?_
  intro p e s m below meth c T0 hZ hx hby hml hown hnm hret hlk X0 e0
  replace hml : c.maxLocals = 6 := hml
  have N0 := Fr.nil n0
  refine own_go (fun _ => XS.iloadN X0.here hx rfl (hb hby d4_0) rfl ) ?_
  show own_R p.tables e below _ T0 (mkF m 1 #[.val (.ref a), .val (.int (0 : Int32)), .val (.int (Int32.ofNat n)), .unset, .unset, .unset] [(.int (Int32.ofNat n))])
  obtain ⟨T1, h1, k1, X1, e1, E1, A1, st1⟩ := newP X0 hx hZ (hw _ (List.mem_of_getElem? (i := 21) rfl)) e0 (g := (mkF m 1 #[.val (.ref a), .val (.int (0 : Int32)), .val (.int (Int32.ofNat n)), .unset, .unset, .unset] [(.int (Int32.ofNat n))])) rfl (hb hby d4_1) rfl (own_ge0 (by omega)) (cap := 3) (by rw [own_clamp (by omega)]; omega) (by decide) (by decide) (by decide)
  obtain ⟨a1, g1⟩ : ∃ z, z = h0.size := ⟨_, rfl⟩
  rw [← g1] at A1 st1
  refine own_go st1 ?_
  show own_R p.tables e below _ T1 (mkF m 3 #[.val (.ref a), .val (.int (0 : Int32)), .val (.int (Int32.ofNat n)), .unset, .unset, .unset] [(.ref a1)])
  have Av : Arv Z h1 a1 k1 .byte (Int32.ofNat n) (List.replicate n (.int 0)) (.int 0) := (Arv.new A1 (own_ge0 (by omega))).pad (fun i => by rw [List.getD_eq_getElem?_getD, List.getElem?_replicate]; split <;> rfl)
  have la : a < h0.size := Ac.lt
  have na1 : a ≠ a1 := Ne.symm (own_ne (Nat.lt_of_lt_of_le la (Nat.le_of_eq g1.symm)))
  have Od1 := Od.ext E1
  have Z1 : n0 ≤ h1.size := Nat.le_trans Z0 E1.1
  have gn1 : n0 ≤ a1 := by omega
  refine own_go (fun _ => XS.astoreN X1.here hx rfl (hb hby d4_3) rfl rfl (l' := #[.val (.ref a), .val (.int (0 : Int32)), .val (.int (Int32.ofNat n)), .val (.ref a1), .unset, .unset]) rfl) ?_
  show own_R p.tables e below _ T1 (mkF m 4 #[.val (.ref a), .val (.int (0 : Int32)), .val (.int (Int32.ofNat n)), .val (.ref a1), .unset, .unset] [])
  refine own_go (fun _ => XS.aloadN X1.here hx rfl (hb hby d4_4) rfl rfl) ?_
  show own_R p.tables e below _ T1 (mkF m 5 #[.val (.ref a), .val (.int (0 : Int32)), .val (.int (Int32.ofNat n)), .val (.ref a1), .unset, .unset] [(.ref a)])
  refine own_go (fun _ => XS.iloadN X1.here hx rfl (hb hby d4_5) rfl ) ?_
  show own_R p.tables e below _ T1 (mkF m 6 #[.val (.ref a), .val (.int (0 : Int32)), .val (.int (Int32.ofNat n)), .val (.ref a1), .unset, .unset] [(.int (0 : Int32)), (.ref a)])
  refine own_go (fun _ => XS.aloadN X1.here hx rfl (hb hby d4_6) rfl rfl) ?_
  show own_R p.tables e below _ T1 (mkF m 7 #[.val (.ref a), .val (.int (0 : Int32)), .val (.int (Int32.ofNat n)), .val (.ref a1), .unset, .unset] [(.ref a1), (.int (0 : Int32)), (.ref a)])
  refine own_go (fun _ => XS.iconst X1.here hx rfl (hb hby d4_7)) ?_
  show own_R p.tables e below _ T1 (mkF m 8 #[.val (.ref a), .val (.int (0 : Int32)), .val (.int (Int32.ofNat n)), .val (.ref a1), .unset, .unset] [(.int (0 : Int32)), (.ref a1), (.int (0 : Int32)), (.ref a)])
  refine own_go (fun _ => XS.iloadN X1.here hx rfl (hb hby d4_8) rfl ) ?_
  show own_R p.tables e below _ T1 (mkF m 9 #[.val (.ref a), .val (.int (0 : Int32)), .val (.int (Int32.ofNat n)), .val (.ref a1), .unset, .unset] [(.int (Int32.ofNat n)), (.int (0 : Int32)), (.ref a1), (.int (0 : Int32)), (.ref a)])
  obtain ⟨v2, T2, L2, X2, Q2, st2⟩ := own_callS X1 hx hZ hown (y := (⟨"java/lang/StringUTF16", "compress", "([CI[BII)I"⟩ : MethodName)) (hw _ (List.mem_of_getElem? (i := 22) rfl)) (hw _ (List.mem_of_getElem? (i := 23) rfl)) (hw _ (List.mem_of_getElem? (i := 19) rfl)) (hw _ (List.mem_of_getElem? (i := 24) rfl)) (by decide) (rmC5 l Z a0 hw [] h1 n0 a ka n cs (Ac.ext E1) hn Z1 a1 k1 _ Av (by simp) na1 gn1) (W := 0) (g := (mkF m 9 #[.val (.ref a), .val (.int (0 : Int32)), .val (.int (Int32.ofNat n)), .val (.ref a1), .unset, .unset] [(.int (Int32.ofNat n)), (.int (0 : Int32)), (.ref a1), (.int (0 : Int32)), (.ref a)])) rfl (by rw [hml]; rfl) (argsL := [(.ref a), (.int (0 : Int32)), (.ref a1), (.int (0 : Int32)), (.int (Int32.ofNat n))]) (rest := []) (lenOf pd___CI_BII_I rfl) rfl rfl (by show 2 * 0 + _ ≤ _; exact Nat.le_of_eq rfl) (hb hby d4_9) e1 (by decide) (by decide) (by decide) (by decide)
  obtain ⟨r, vs, rfl, N2q, K2, hr, hr2, hl, A2⟩ := Q2
  have N2 := Fr.app N0 N2q
  have KK : Keep h0 T2.heap [] := own_keep0 ((Keep.refl h0 []).ext E1) K2 (by omega)
  have Od2 := Od1.keep K2 (fun x hx => by cases List.mem_singleton.mp hx; exact gn1)
  have Ac2 := (Ac.ext E1).keep K2 (own_ni na1)
  have Z2 : n0 ≤ T2.heap.size := Nat.le_trans Z1 K2.1
  refine own_go st2 ?_
  show own_R p.tables e below _ T2 (mkF m 12 #[.val (.ref a), .val (.int (0 : Int32)), .val (.int (Int32.ofNat n)), .val (.ref a1), .unset, .unset] [(.int (Int32.ofNat r))])
  refine own_go (fun _ => XS.istore X2.here hx rfl (hb hby d4_12) rfl (l' := #[.val (.ref a), .val (.int (0 : Int32)), .val (.int (Int32.ofNat n)), .val (.ref a1), .val (.int (Int32.ofNat r)), .unset]) rfl) ?_
  show own_R p.tables e below _ T2 (mkF m 14 #[.val (.ref a), .val (.int (0 : Int32)), .val (.int (Int32.ofNat n)), .val (.ref a1), .val (.int (Int32.ofNat r)), .unset] [])
  refine own_go (fun _ => XS.iload X2.here hx rfl (hb hby d4_14) rfl ) ?_
  show own_R p.tables e below _ T2 (mkF m 16 #[.val (.ref a), .val (.int (0 : Int32)), .val (.int (Int32.ofNat n)), .val (.ref a1), .val (.int (Int32.ofNat r)), .unset] [(.int (Int32.ofNat r))])
  refine own_go (fun _ => XS.iloadN X2.here hx rfl (hb hby d4_16) rfl ) ?_
  show own_R p.tables e below _ T2 (mkF m 17 #[.val (.ref a), .val (.int (0 : Int32)), .val (.int (Int32.ofNat n)), .val (.ref a1), .val (.int (Int32.ofNat r)), .unset] [(.int (Int32.ofNat n)), (.int (Int32.ofNat r))])
  by_cases hq : (Int32.ofNat r) = (Int32.ofNat n)
  · show own_R p.tables e below _ T2 (mkF m 17 #[.val (.ref a), .val (.int (0 : Int32)), .val (.int (Int32.ofNat n)), .val (.ref a1), .val (.int (Int32.ofNat r)), .unset] [(.int (Int32.ofNat n)), (.int (Int32.ofNat r))])
    refine own_go (fun _ => XS.icmpYes X2.here hx rfl (pc0 := 17) (pc' := 57) rfl (hb hby d4_17) rfl (teq hq).1 (by decide) (by decide)) ?_
    show own_R p.tables e below _ T2 (mkF m 57 #[.val (.ref a), .val (.int (0 : Int32)), .val (.int (Int32.ofNat n)), .val (.ref a1), .val (.int (Int32.ofNat r)), .unset] [])
    refine own_go (fun _ => XS.aloadN X2.here hx rfl (hb hby d4_57) rfl rfl) ?_
    show own_R p.tables e below _ T2 (mkF m 58 #[.val (.ref a), .val (.int (0 : Int32)), .val (.int (Int32.ofNat n)), .val (.ref a1), .val (.int (Int32.ofNat r)), .unset] [(.ref a1)])
    exact own_end X2 (some (.ref a1)) (fun h => by rw [hret] at h; cases h) hlk (fun fs hr => own_retA X2 hx hret rfl rfl (hb hby d4_58) hr) ⟨a1, k1, n, vs, rfl, N2, KK, by omega, h1n, by omega, A2⟩ (by decide) (by decide)
  · show own_R p.tables e below _ T2 (mkF m 17 #[.val (.ref a), .val (.int (0 : Int32)), .val (.int (Int32.ofNat n)), .val (.ref a1), .val (.int (Int32.ofNat r)), .unset] [(.int (Int32.ofNat n)), (.int (Int32.ofNat r))])
    refine own_go (fun _ => XS.icmpNo X2.here hx rfl (hb hby d4_17) rfl (feq hq).1) ?_
    show own_R p.tables e below _ T2 (mkF m 20 #[.val (.ref a), .val (.int (0 : Int32)), .val (.int (Int32.ofNat n)), .val (.ref a1), .val (.int (Int32.ofNat r)), .unset] [])
    have hrn : r < n := Nat.lt_of_le_of_ne hr (fun q => hq (by rw [q]))
    refine own_go (fun _ => XS.aloadN X2.here hx rfl (hb hby d4_20) rfl rfl) ?_
    show own_R p.tables e below _ T2 (mkF m 21 #[.val (.ref a), .val (.int (0 : Int32)), .val (.int (Int32.ofNat n)), .val (.ref a1), .val (.int (Int32.ofNat r)), .unset] [(.ref a)])
    refine own_go (fun _ => XS.iloadN X2.here hx rfl (hb hby d4_21) rfl ) ?_
    show own_R p.tables e below _ T2 (mkF m 22 #[.val (.ref a), .val (.int (0 : Int32)), .val (.int (Int32.ofNat n)), .val (.ref a1), .val (.int (Int32.ofNat r)), .unset] [(.int (0 : Int32)), (.ref a)])
    refine own_go (fun _ => XS.iloadN X2.here hx rfl (hb hby d4_22) rfl ) ?_
    show own_R p.tables e below _ T2 (mkF m 23 #[.val (.ref a), .val (.int (0 : Int32)), .val (.int (Int32.ofNat n)), .val (.ref a1), .val (.int (Int32.ofNat r)), .unset] [(.int (Int32.ofNat n)), (.int (0 : Int32)), (.ref a)])
    obtain ⟨v3, T3, L3, X3, Q3, st3⟩ := own_callS X2 hx hZ hown (y := (⟨"java/lang/StringUTF16", "toBytes", "([CII)[B"⟩ : MethodName)) (hw _ (List.mem_of_getElem? (i := 63) rfl)) (hw _ (List.mem_of_getElem? (i := 64) rfl)) (hw _ (List.mem_of_getElem? (i := 19) rfl)) (hw _ (List.mem_of_getElem? (i := 65) rfl)) (by decide) (rmTB l Z a0 hw [] T2.heap n0 zc O1 hzc O2 O3 O4  Od2 a ka n cs Ac2 hn Z2) (W := 0) (g := (mkF m 23 #[.val (.ref a), .val (.int (0 : Int32)), .val (.int (Int32.ofNat n)), .val (.ref a1), .val (.int (Int32.ofNat r)), .unset] [(.int (Int32.ofNat n)), (.int (0 : Int32)), (.ref a)])) rfl (by rw [hml]; rfl) (argsL := [(.ref a), (.int (0 : Int32)), (.int (Int32.ofNat n))]) (rest := []) (lenOf pd___CII__B rfl) rfl rfl (by show 2 * 0 + _ ≤ _; exact Nat.le_of_eq rfl) (hb hby d4_23) rfl (by decide) (by decide) (by decide) (by decide)
    obtain ⟨bb, kb, vt, rfl, N3q, K3, g3, hlt, A3, hpr⟩ := Q3
    have N3 := Fr.app N2 N3q
    have Od3 := Od2.keep K3 (fun x hx => by simp at hx)
    refine own_go st3 ?_
    show own_R p.tables e below _ T3 (mkF m 26 #[.val (.ref a), .val (.int (0 : Int32)), .val (.int (Int32.ofNat n)), .val (.ref a1), .val (.int (Int32.ofNat r)), .unset] [(.ref bb)])
    refine own_go (fun _ => XS.astore X3.here hx rfl (hb hby d4_26) rfl rfl (l' := #[.val (.ref a), .val (.int (0 : Int32)), .val (.int (Int32.ofNat n)), .val (.ref a1), .val (.int (Int32.ofNat r)), .val (.ref bb)]) rfl) ?_
    show own_R p.tables e below _ T3 (mkF m 28 #[.val (.ref a), .val (.int (0 : Int32)), .val (.int (Int32.ofNat n)), .val (.ref a1), .val (.int (Int32.ofNat r)), .val (.ref bb)] [])
    refine own_go (fun _ => XS.aload X3.here hx rfl (hb hby d4_28) rfl rfl) ?_
    show own_R p.tables e below _ T3 (mkF m 30 #[.val (.ref a), .val (.int (0 : Int32)), .val (.int (Int32.ofNat n)), .val (.ref a1), .val (.int (Int32.ofNat r)), .val (.ref bb)] [(.ref bb)])
    refine own_go (fun _ => XS.iload X3.here hx rfl (hb hby d4_30) rfl ) ?_
    show own_R p.tables e below _ T3 (mkF m 32 #[.val (.ref a), .val (.int (0 : Int32)), .val (.int (Int32.ofNat n)), .val (.ref a1), .val (.int (Int32.ofNat r)), .val (.ref bb)] [(.int (Int32.ofNat r)), (.ref bb)])
    obtain ⟨v4, T4, L4, X4, Q4, st4⟩ := own_callS X3 hx hZ hown (y := (⟨"java/lang/StringUTF16", "getChar", "([BI)C"⟩ : MethodName)) (hw _ (List.mem_of_getElem? (i := 79) rfl)) (hw _ (List.mem_of_getElem? (i := 80) rfl)) (hw _ (List.mem_of_getElem? (i := 19) rfl)) (hw _ (List.mem_of_getElem? (i := 81) rfl)) (by decide) (rmGet l Z a0 hw [] T3.heap n0 zc O1 hzc O2 O3 O4  Od3 bb kb (2 * n) r vt A3 (by omega) (by omega) hlt _ _ (hpr r hrn).1 (hpr r hrn).2) (W := 0) (g := (mkF m 32 #[.val (.ref a), .val (.int (0 : Int32)), .val (.int (Int32.ofNat n)), .val (.ref a1), .val (.int (Int32.ofNat r)), .val (.ref bb)] [(.int (Int32.ofNat r)), (.ref bb)])) rfl (by rw [hml]; rfl) (argsL := [(.ref bb), (.int (Int32.ofNat r))]) (rest := []) (lenOf pd___BI_C rfl) rfl rfl (by show 2 * 0 + _ ≤ _; exact Nat.le_of_eq rfl) (hb hby d4_32) rfl (by decide) (by decide) (by decide) (by decide)
    obtain ⟨rfl, N4q, e4⟩ := Q4
    have N4 := Fr.app N3 N4q
    rw [own_rt (hcs r)] at st4
    refine own_go st4 ?_
    show own_R p.tables e below _ T4 (mkF m 35 #[.val (.ref a), .val (.int (0 : Int32)), .val (.int (Int32.ofNat n)), .val (.ref a1), .val (.int (Int32.ofNat r)), .val (.ref bb)] [(.int (cs.getD r 0))])
    refine own_go (fun _ => XS.sipush X4.here hx rfl (hb hby d4_35)) ?_
    show own_R p.tables e below _ T4 (mkF m 38 #[.val (.ref a), .val (.int (0 : Int32)), .val (.int (Int32.ofNat n)), .val (.ref a1), .val (.int (Int32.ofNat r)), .val (.ref bb)] [(.int (255 : Int32)), (.int (cs.getD r 0))])
    refine own_go (fun _ => XS.icmpYes X4.here hx rfl (pc0 := 38) (pc' := 54) rfl (hb hby d4_38) rfl (tlt (hr2 hrn : (255 : Int32) < (cs.getD r 0))).2.2.1 (by decide) (by decide)) ?_
    show own_R p.tables e below _ T4 (mkF m 54 #[.val (.ref a), .val (.int (0 : Int32)), .val (.int (Int32.ofNat n)), .val (.ref a1), .val (.int (Int32.ofNat r)), .val (.ref bb)] [])
    refine own_go (fun _ => XS.aload X4.here hx rfl (hb hby d4_54) rfl rfl) ?_
    show own_R p.tables e below _ T4 (mkF m 56 #[.val (.ref a), .val (.int (0 : Int32)), .val (.int (Int32.ofNat n)), .val (.ref a1), .val (.int (Int32.ofNat r)), .val (.ref bb)] [(.ref bb)])
    exact own_end X4 (some (.ref bb)) (fun h => by rw [hret] at h; cases h) hlk (fun fs hr => own_retA X4 hx hret rfl rfl (hb hby d4_56) hr) (by show own_Q3 Z h0 n0 _ T4.heap _; rw [e4]; exact ⟨bb, kb, 2 * n, vt, rfl, N4, KK.trans K3 (fun x hx => by simp at hx), Nat.le_trans KK.1 g3, by omega, by omega, A3⟩) (by decide) (by decide)
def own_Qc (h0 : Heap) (n0 : Nat) (v : Option Value) (h : Heap) (L : List Loc) : Prop := ∃ x : Int32, v = some (.int (nar .byte x)) ∧ Fr n0 L ∧ h = h0
set_option maxRecDepth 65536 in
set_option maxHeartbeats 4000000 in
theorem rmCF (l : Launch) (Z : State) (a0 : Array Value) (hw : ∀ d ∈ tables_1, d.before a0 Z = true) (ws : List Jvm.Cond) (h0 : Heap) (n0 : Nat) (b : Addr) (kb : ClassId) (z : Int32) (vs : List Value) (A : Arv Z h0 b kb .byte z vs (.int 0)) (n : Int32) :
    own_C l Z (⟨"java/lang/StringUTF16", "coderFromArrayLen", "([BI)B"⟩ : MethodName) jdk_52_method_15_code 2 (some .byte) ws ({ frames := 0, cells := 0, slots := 0, locals := 0 } : Room) #[(.ref b), (.int n)] h0 (own_Qc h0 n0) := by
  refine own_body (ls := #[.val (.ref b), .val (.int n)]) pn_6 (fun m => by first | (simp [entryFrame, mkF, argsToLocals, Value.category]; done) | rfl) ?_
  intro p e s m below meth c T0 hZ hx hby hml hown hnm hret hlk X0 e0
  replace hml : c.maxLocals = 2 := hml
  have N0 := Fr.nil n0
  refine own_go (fun _ => XS.iloadN X0.here hx rfl (hb hby d6_0) rfl ) ?_
  show own_R p.tables e below _ T0 (mkF m 1 #[.val (.ref b), .val (.int n)] [(.int n)])
  refine own_go (fun _ => XS.aloadN X0.here hx rfl (hb hby d6_1) rfl rfl) ?_
  show own_R p.tables e below _ T0 (mkF m 2 #[.val (.ref b), .val (.int n)] [(.ref b), (.int n)])
  refine own_go (own_len X0 hx hZ e0 A (g := (mkF m 2 #[.val (.ref b), .val (.int n)] [(.ref b), (.int n)])) rfl rfl (hb hby d6_2)) ?_
  show own_R p.tables e below _ T0 (mkF m 3 #[.val (.ref b), .val (.int n)] [(.int z), (.int n)])
  refine own_go (fun _ => XS.isub X0.here hx rfl (hb hby d6_3) rfl) ?_
  show own_R p.tables e below _ T0 (mkF m 4 #[.val (.ref b), .val (.int n)] [(.int (n - z))])
  refine own_go (fun _ => XS.bipush X0.here hx rfl (hb hby d6_4)) ?_
  show own_R p.tables e below _ T0 (mkF m 6 #[.val (.ref b), .val (.int n)] [(.int (31 : Int32)), (.int (n - z))])
  refine own_go (fun _ => XS.iushr X0.here hx rfl (hb hby d6_6) rfl) ?_
  show own_R p.tables e below _ T0 (mkF m 7 #[.val (.ref b), .val (.int n)] [(.int (((n - z).toUInt32 >>> ((31 : Int32) &&& 31).toUInt32).toInt32))])
  refine own_go (fun _ => XS.i2b X0.here hx rfl (hb hby d6_7) rfl) ?_
  show own_R p.tables e below _ T0 (mkF m 8 #[.val (.ref b), .val (.int n)] [(.int ((((n - z).toUInt32 >>> ((31 : Int32) &&& 31).toUInt32).toInt32).toInt8.toInt32))])
  exact own_end X0 (some (.int (nar .byte ((((n - z).toUInt32 >>> ((31 : Int32) &&& 31).toUInt32).toInt32).toInt8.toInt32)))) (fun h => by rw [hret] at h; cases h) hlk (fun fs hr => retN X0 hx (t := .byte) hret (by simp) (hb hby d6_8) hr) ⟨_, rfl, N0, e0⟩ (by decide) (by decide)
def own_Qi (Z : State) (s : Addr) (h0 : Heap) (n0 : Nat) (v : Option Value) (h : Heap) (L : List Loc) : Prop := v = none ∧ Fr n0 L ∧ Keep h0 h [s] ∧ own_N Z h s
set_option maxRecDepth 65536 in
set_option maxHeartbeats 8000000 in
theorem rmI4 (l : Launch) (Z : State) (a0 : Array Value) (hw : ∀ d ∈ tables_1, d.before a0 Z = true) (ws : List Jvm.Cond) (h0 : Heap) (n0 : Nat) (zc : Int32) (O1 : Sta Z Z.heap "java/lang/String" "COMPACT_STRINGS" "Z" (.int zc)) (hzc : ¬ zc = 0) (O2 : Sta Z Z.heap "java/lang/StringUTF16" "$assertionsDisabled" "Z" (.int 1)) (O3 : Sta Z Z.heap "java/lang/StringUTF16" "HI_BYTE_SHIFT" "I" (.int 0)) (O4 : Sta Z Z.heap "java/lang/StringUTF16" "LO_BYTE_SHIFT" "I" (.int 8)) (Od : Old Z n0 h0) (a : Addr) (ka : ClassId) (n : Nat) (cs : List Int32) (Ac : Arv Z h0 a ka .char (Int32.ofNat n) (cs.map Value.int) (.int 0)) (hn : n ≤ 3) (Z0 : n0 ≤ h0.size) (sa : Addr) (gs : n0 ≤ sa) (E : Exa Z h0 sa "java/lang/String") (Fv : Fld Z h0 sa "java/lang/String" "value" "[B" .null) (Fc : Fld Z h0 sa "java/lang/String" "coder" "B" (.int 0)) (nsa : a ≠ sa) (h1n : 1 ≤ n) (hcs : ∀ i, own_cx (cs.getD i 0)) :
    own_C l Z (⟨"java/lang/String", "<init>", "([CIILjava/lang/Void;)V"⟩ : MethodName) jdk_42_method_149_code 6 none ws ({ frames := 4, cells := 2, slots := 9, locals := 60 } : Room) #[(.ref sa), (.ref a), (.int (0 : Int32)), (.int (Int32.ofNat n)), .null] h0 (own_Qi Z sa h0 n0) := by
  refine own_body (ls := #[.val (.ref sa), .val (.ref a), .val (.int (0 : Int32)), .val (.int (Int32.ofNat n)), .val .null, .unset]) pn_2 (fun m => by first | (simp [entryFrame, mkF, argsToLocals, Value.category]; done) | rfl) ?_
  intro p e s m below meth c T0 hZ hx hby hml hown hnm hret hlk X0 e0
  replace hml : c.maxLocals = 6 := hml
  have N0 := Fr.nil n0
  refine own_go (fun _ => XS.aloadN X0.here hx rfl (hb hby d2_0) rfl rfl) ?_
  show own_R p.tables e below _ T0 (mkF m 1 #[.val (.ref sa), .val (.ref a), .val (.int (0 : Int32)), .val (.int (Int32.ofNat n)), .val .null, .unset] [(.ref sa)])
  obtain ⟨T1, X1, e1, st1⟩ := initO X0 hx hZ hown (hw _ (List.mem_of_getElem? (i := 13) rfl)) (hw _ (List.mem_of_getElem? (i := 14) rfl)) (hw _ (List.mem_of_getElem? (i := 15) rfl)) e0 (g := (mkF m 1 #[.val (.ref sa), .val (.ref a), .val (.int (0 : Int32)), .val (.int (Int32.ofNat n)), .val .null, .unset] [(.ref sa)])) rfl (by rw [hml]; rfl) rfl (hb hby d2_1) (by decide) (W := 0) (by show 2 * 0 + _ ≤ _; exact Nat.le_of_eq rfl) (by decide)
  refine own_go st1 ?_
  show own_R p.tables e below _ T1 (mkF m 4 #[.val (.ref sa), .val (.ref a), .val (.int (0 : Int32)), .val (.int (Int32.ofNat n)), .val .null, .unset] [])
  refine own_go (fun _ => XS.iloadN X1.here hx rfl (hb hby d2_4) rfl ) ?_
  show own_R p.tables e below _ T1 (mkF m 5 #[.val (.ref sa), .val (.ref a), .val (.int (0 : Int32)), .val (.int (Int32.ofNat n)), .val .null, .unset] [(.int (Int32.ofNat n))])
  refine own_go (fun _ => XS.ifYes X1.here hx rfl (pc0 := 5) (pc' := 27) rfl (hb hby d2_5) rfl ((if0 _ _).trans (feq (own_n0 (by omega) (by omega) : ¬ ((Int32.ofNat n) = (0 : Int32)))).2) (by decide) (by decide)) ?_
  show own_R p.tables e below _ T1 (mkF m 27 #[.val (.ref sa), .val (.ref a), .val (.int (0 : Int32)), .val (.int (Int32.ofNat n)), .val .null, .unset] [])
  obtain ⟨T2, X2, e2, st2⟩ := getS X1 hx hZ hown (host := "") (hw _ (List.mem_of_getElem? (i := 16) rfl)) Via.refl e1 (O1.ext Od.2) (g := (mkF m 27 #[.val (.ref sa), .val (.ref a), .val (.int (0 : Int32)), .val (.int (Int32.ofNat n)), .val .null, .unset] [])) rfl (hb hby d2_27)
  refine own_go st2 ?_
  show own_R p.tables e below _ T2 (mkF m 30 #[.val (.ref sa), .val (.ref a), .val (.int (0 : Int32)), .val (.int (Int32.ofNat n)), .val .null, .unset] [(.int zc)])
  refine own_go (fun _ => XS.ifNo X2.here hx rfl (hb hby d2_30) rfl ((if0 _ _).trans (feq hzc).1)) ?_
  show own_R p.tables e below _ T2 (mkF m 33 #[.val (.ref sa), .val (.ref a), .val (.int (0 : Int32)), .val (.int (Int32.ofNat n)), .val .null, .unset] [])
  refine own_go (fun _ => XS.aloadN X2.here hx rfl (hb hby d2_33) rfl rfl) ?_
  show own_R p.tables e below _ T2 (mkF m 34 #[.val (.ref sa), .val (.ref a), .val (.int (0 : Int32)), .val (.int (Int32.ofNat n)), .val .null, .unset] [(.ref a)])
  refine own_go (fun _ => XS.iloadN X2.here hx rfl (hb hby d2_34) rfl ) ?_
  show own_R p.tables e below _ T2 (mkF m 35 #[.val (.ref sa), .val (.ref a), .val (.int (0 : Int32)), .val (.int (Int32.ofNat n)), .val .null, .unset] [(.int (0 : Int32)), (.ref a)])
  refine own_go (fun _ => XS.iloadN X2.here hx rfl (hb hby d2_35) rfl ) ?_
  show own_R p.tables e below _ T2 (mkF m 36 #[.val (.ref sa), .val (.ref a), .val (.int (0 : Int32)), .val (.int (Int32.ofNat n)), .val .null, .unset] [(.int (Int32.ofNat n)), (.int (0 : Int32)), (.ref a)])
  obtain ⟨v3, T3, L3, X3, Q3, st3⟩ := own_callS X2 hx hZ hown (y := (⟨"java/lang/StringUTF16", "compress", "([CII)[B"⟩ : MethodName)) (hw _ (List.mem_of_getElem? (i := 17) rfl)) (hw _ (List.mem_of_getElem? (i := 18) rfl)) (hw _ (List.mem_of_getElem? (i := 19) rfl)) (hw _ (List.mem_of_getElem? (i := 20) rfl)) (by decide) (rmC3 l Z a0 hw [] h0 n0 zc O1 hzc O2 O3 O4  Od a ka n cs Ac hn Z0 h1n hcs) (W := 0) (g := (mkF m 36 #[.val (.ref sa), .val (.ref a), .val (.int (0 : Int32)), .val (.int (Int32.ofNat n)), .val .null, .unset] [(.int (Int32.ofNat n)), (.int (0 : Int32)), (.ref a)])) rfl (by rw [hml]; rfl) (argsL := [(.ref a), (.int (0 : Int32)), (.int (Int32.ofNat n))]) (rest := []) (lenOf pd___CII__B rfl) rfl rfl (by show 2 * 0 + _ ≤ _; exact Nat.le_of_eq rfl) (hb hby d2_36) e2 (by decide) (by decide) (by decide) (by decide)
  obtain ⟨b, kb, z, vs, rfl, N3q, K3, gb, hz1, hz2, A3⟩ := Q3
  have N3 := Fr.app N0 N3q
  have nbs : b ≠ sa := own_ne (Nat.lt_of_lt_of_le E.lt gb)
  refine own_go st3 ?_
  show own_R p.tables e below _ T3 (mkF m 39 #[.val (.ref sa), .val (.ref a), .val (.int (0 : Int32)), .val (.int (Int32.ofNat n)), .val .null, .unset] [(.ref b)])
  refine own_go (fun _ => XS.astore X3.here hx rfl (hb hby d2_39) rfl rfl (l' := #[.val (.ref sa), .val (.ref a), .val (.int (0 : Int32)), .val (.int (Int32.ofNat n)), .val .null, .val (.ref b)]) rfl) ?_
  show own_R p.tables e below _ T3 (mkF m 41 #[.val (.ref sa), .val (.ref a), .val (.int (0 : Int32)), .val (.int (Int32.ofNat n)), .val .null, .val (.ref b)] [])
  refine own_go (fun _ => XS.aloadN X3.here hx rfl (hb hby d2_41) rfl rfl) ?_
  show own_R p.tables e below _ T3 (mkF m 42 #[.val (.ref sa), .val (.ref a), .val (.int (0 : Int32)), .val (.int (Int32.ofNat n)), .val .null, .val (.ref b)] [(.ref sa)])
  refine own_go (fun _ => XS.aload X3.here hx rfl (hb hby d2_42) rfl rfl) ?_
  show own_R p.tables e below _ T3 (mkF m 44 #[.val (.ref sa), .val (.ref a), .val (.int (0 : Int32)), .val (.int (Int32.ofNat n)), .val .null, .val (.ref b)] [(.ref b), (.ref sa)])
  refine own_go (fun _ => XS.iloadN X3.here hx rfl (hb hby d2_44) rfl ) ?_
  show own_R p.tables e below _ T3 (mkF m 45 #[.val (.ref sa), .val (.ref a), .val (.int (0 : Int32)), .val (.int (Int32.ofNat n)), .val .null, .val (.ref b)] [(.int (Int32.ofNat n)), (.ref b), (.ref sa)])
  obtain ⟨v4, T4, L4, X4, Q4, st4⟩ := own_callS X3 hx hZ hown (y := (⟨"java/lang/StringUTF16", "coderFromArrayLen", "([BI)B"⟩ : MethodName)) (hw _ (List.mem_of_getElem? (i := 25) rfl)) (hw _ (List.mem_of_getElem? (i := 26) rfl)) (hw _ (List.mem_of_getElem? (i := 19) rfl)) (hw _ (List.mem_of_getElem? (i := 27) rfl)) (by decide) (rmCF l Z a0 hw [] T3.heap n0 b kb (Int32.ofNat z) vs A3 (Int32.ofNat n)) (W := 1) (g := (mkF m 45 #[.val (.ref sa), .val (.ref a), .val (.int (0 : Int32)), .val (.int (Int32.ofNat n)), .val .null, .val (.ref b)] [(.int (Int32.ofNat n)), (.ref b), (.ref sa)])) rfl (by rw [hml]; rfl) (argsL := [(.ref b), (.int (Int32.ofNat n))]) (rest := [(.ref sa)]) (lenOf pd___BI_B rfl) rfl rfl (by show 2 * 0 + _ ≤ _; exact Nat.le_of_eq rfl) (hb hby d2_45) rfl (by decide) (by decide) (by decide) (by decide)
  obtain ⟨xc, rfl, N4q, e4⟩ := Q4
  have N4 := Fr.app N3 N4q
  refine own_go st4 ?_
  show own_R p.tables e below _ T4 (mkF m 48 #[.val (.ref sa), .val (.ref a), .val (.int (0 : Int32)), .val (.int (Int32.ofNat n)), .val .null, .val (.ref b)] [(.int (nar .byte xc)), (.ref sa)])
  replace E := E.keep K3
  replace Fv := Fv.keep K3 (by simp)
  replace Fc := Fc.keep K3 (by simp)
  obtain ⟨T5, h5, X5, e5, W5, st5⟩ := putFN X4 hx hZ hown (hw _ (List.mem_of_getElem? (i := 28) rfl)) Via.refl e4 Fc E (Or.inr ⟨(hw _ (List.mem_of_getElem? (i := 29) rfl)), rfl, hnm⟩) (hw _ (List.mem_of_getElem? (i := 4) rfl)) (ty := .byte) (v := (.int (nar .byte xc))) (v' := (.int ((nar .byte xc)).toInt8.toInt32)) (by decide) rfl (fits_nar_byte _) (g := (mkF m 48 #[.val (.ref sa), .val (.ref a), .val (.int (0 : Int32)), .val (.int (Int32.ofNat n)), .val .null, .val (.ref b)] [(.int (nar .byte xc)), (.ref sa)])) rfl rfl (hb hby d2_48)
  refine own_go st5 ?_
  show own_R p.tables e below _ T5 (mkF m 51 #[.val (.ref sa), .val (.ref a), .val (.int (0 : Int32)), .val (.int (Int32.ofNat n)), .val .null, .val (.ref b)] [])
  have N5 := Fr.snoc X5 N4 gs
  refine own_go (fun _ => XS.aloadN X5.here hx rfl (hb hby d2_51) rfl rfl) ?_
  show own_R p.tables e below _ T5 (mkF m 52 #[.val (.ref sa), .val (.ref a), .val (.int (0 : Int32)), .val (.int (Int32.ofNat n)), .val .null, .val (.ref b)] [(.ref sa)])
  refine own_go (fun _ => XS.aload X5.here hx rfl (hb hby d2_52) rfl rfl) ?_
  show own_R p.tables e below _ T5 (mkF m 54 #[.val (.ref sa), .val (.ref a), .val (.int (0 : Int32)), .val (.int (Int32.ofNat n)), .val .null, .val (.ref b)] [(.ref b), (.ref sa)])
  obtain ⟨T6, h6, X6, e6, W6, st6⟩ := putF X5 hx hZ hown (host := "") (Or.inl (hw _ (List.mem_of_getElem? (i := 30) rfl))) Via.refl e5 (Fv.other W5 (Or.inr (slot_ne (Or.inr (hw _ (List.mem_of_getElem? (i := 31) rfl))) (Or.inr (hw _ (List.mem_of_getElem? (i := 29) rfl))) (by decide) (t := (.array .byte)) (t' := .byte) (by decide) (by decide)))) (E.wr W5) (Or.inr ⟨(hw _ (List.mem_of_getElem? (i := 31) rfl)), rfl, hnm⟩) (hw _ (List.mem_of_getElem? (i := 4) rfl)) (ty := (.array .byte)) (by decide) rfl rfl (g := (mkF m 54 #[.val (.ref sa), .val (.ref a), .val (.int (0 : Int32)), .val (.int (Int32.ofNat n)), .val .null, .val (.ref b)] [(.ref b), (.ref sa)])) rfl rfl (hb hby d2_54)
  refine own_go st6 ?_
  show own_R p.tables e below _ T6 (mkF m 57 #[.val (.ref sa), .val (.ref a), .val (.int (0 : Int32)), .val (.int (Int32.ofNat n)), .val .null, .val (.ref b)] [])
  have N6 := Fr.snoc X6 N5 gs
  have KK : Keep h0 h6 [sa] := (((Keep.refl h0 [sa]).trans K3 (fun x hx => by simp at hx)).wr W5 (Or.inl (by simp))).wr W6 (Or.inl (by simp))
  exact own_end X6 none (fun _ => rfl) hlk (fun fs hr => X6.returnOut hx hret (hb hby d2_57) hr) (by show own_Qi Z sa h0 n0 _ T6.heap _; rw [e6]; exact ⟨rfl, N6, KK, b, kb, z, vs, hz1, hz2, (E.wr W5).wr W6, (Fv.other W5 (Or.inr (slot_ne (Or.inr (hw _ (List.mem_of_getElem? (i := 31) rfl))) (Or.inr (hw _ (List.mem_of_getElem? (i := 29) rfl))) (by decide) (t := (.array .byte)) (t' := .byte) (by decide) (by decide)))).same W6, (A3.other W5 nbs).other W6 nbs⟩) (by decide) (by decide)
set_option maxRecDepth 65536 in
set_option maxHeartbeats 4000000 in
theorem rmI1 (l : Launch) (Z : State) (a0 : Array Value) (hw : ∀ d ∈ tables_1, d.before a0 Z = true) (ws : List Jvm.Cond) (h0 : Heap) (n0 : Nat) (zc : Int32) (O1 : Sta Z Z.heap "java/lang/String" "COMPACT_STRINGS" "Z" (.int zc)) (hzc : ¬ zc = 0) (O2 : Sta Z Z.heap "java/lang/StringUTF16" "$assertionsDisabled" "Z" (.int 1)) (O3 : Sta Z Z.heap "java/lang/StringUTF16" "HI_BYTE_SHIFT" "I" (.int 0)) (O4 : Sta Z Z.heap "java/lang/StringUTF16" "LO_BYTE_SHIFT" "I" (.int 8)) (Od : Old Z n0 h0) (a : Addr) (ka : ClassId) (n : Nat) (cs : List Int32) (Ac : Arv Z h0 a ka .char (Int32.ofNat n) (cs.map Value.int) (.int 0)) (hn : n ≤ 3) (Z0 : n0 ≤ h0.size) (sa : Addr) (gs : n0 ≤ sa) (E : Exa Z h0 sa "java/lang/String") (Fv : Fld Z h0 sa "java/lang/String" "value" "[B" .null) (Fc : Fld Z h0 sa "java/lang/String" "coder" "B" (.int 0)) (nsa : a ≠ sa) (h1n : 1 ≤ n) (hcs : ∀ i, own_cx (cs.getD i 0)) :
    own_C l Z (⟨"java/lang/String", "<init>", "([C)V"⟩ : MethodName) jdk_42_method_3_code 2 none ws ({ frames := 5, cells := 2, slots := 9, locals := 77 } : Room) #[(.ref sa), (.ref a)] h0 (own_Qi Z sa h0 n0) := by
  refine own_body (ls := #[.val (.ref sa), .val (.ref a)]) pn_1 (fun m => by first | (simp [entryFrame, mkF, argsToLocals, Value.category]; done) | rfl) ?_
  intro p e s m below meth c T0 hZ hx hby hml hown hnm hret hlk X0 e0
  replace hml : c.maxLocals = 2 := hml
  have N0 := Fr.nil n0
  refine own_go (fun _ => XS.aloadN X0.here hx rfl (hb hby d1_0) rfl rfl) ?_
  show own_R p.tables e below _ T0 (mkF m 1 #[.val (.ref sa), .val (.ref a)] [(.ref sa)])
  refine own_go (fun _ => XS.aloadN X0.here hx rfl (hb hby d1_1) rfl rfl) ?_
  show own_R p.tables e below _ T0 (mkF m 2 #[.val (.ref sa), .val (.ref a)] [(.ref a), (.ref sa)])
  refine own_go (fun _ => XS.iconst X0.here hx rfl (hb hby d1_2)) ?_
  show own_R p.tables e below _ T0 (mkF m 3 #[.val (.ref sa), .val (.ref a)] [(.int (0 : Int32)), (.ref a), (.ref sa)])
  refine own_go (fun _ => XS.aloadN X0.here hx rfl (hb hby d1_3) rfl rfl) ?_
  show own_R p.tables e below _ T0 (mkF m 4 #[.val (.ref sa), .val (.ref a)] [(.ref a), (.int (0 : Int32)), (.ref a), (.ref sa)])
  refine own_go (own_len X0 hx hZ e0 Ac (g := (mkF m 4 #[.val (.ref sa), .val (.ref a)] [(.ref a), (.int (0 : Int32)), (.ref a), (.ref sa)])) rfl rfl (hb hby d1_4)) ?_
  show own_R p.tables e below _ T0 (mkF m 5 #[.val (.ref sa), .val (.ref a)] [(.int (Int32.ofNat n)), (.int (0 : Int32)), (.ref a), (.ref sa)])
  refine own_go (fun _ => XS.aconstNull X0.here hx rfl (hb hby d1_5)) ?_
  show own_R p.tables e below _ T0 (mkF m 6 #[.val (.ref sa), .val (.ref a)] [.null, (.int (Int32.ofNat n)), (.int (0 : Int32)), (.ref a), (.ref sa)])
  obtain ⟨v1, T1, L1, X1, Q1, st1⟩ := own_callI X0 hx hZ hown (y := (⟨"java/lang/String", "<init>", "([CIILjava/lang/Void;)V"⟩ : MethodName)) rfl (hw _ (List.mem_of_getElem? (i := 9) rfl)) (hw _ (List.mem_of_getElem? (i := 10) rfl)) (hw _ (List.mem_of_getElem? (i := 12) rfl)) (hw _ (List.mem_of_getElem? (i := 5) rfl)) (by decide) (rmI4 l Z a0 hw [] h0 n0 zc O1 hzc O2 O3 O4  Od a ka n cs Ac hn Z0 sa gs E Fv Fc nsa h1n hcs) (W := 0) (g := (mkF m 6 #[.val (.ref sa), .val (.ref a)] [.null, (.int (Int32.ofNat n)), (.int (0 : Int32)), (.ref a), (.ref sa)])) rfl (by rw [hml]; rfl) (a := sa) (argsL := [(.ref a), (.int (0 : Int32)), (.int (Int32.ofNat n)), .null]) (rest := []) (lenOf pd___CIILjava_lang_Void__V rfl) rfl rfl (by show 2 * 0 + _ ≤ _; exact Nat.le_of_eq rfl) (hb hby d1_6) e0 (by decide) (by decide) (by decide) (by decide)
  obtain ⟨rfl, N1q, K1, M1⟩ := Q1
  have N1 := Fr.app N0 N1q
  refine own_go st1 ?_
  show own_R p.tables e below _ T1 (mkF m 9 #[.val (.ref sa), .val (.ref a)] [])
  exact own_end X1 none (fun _ => rfl) hlk (fun fs hr => X1.returnOut hx hret (hb hby d1_9) hr) ⟨rfl, N1, K1, M1⟩ (by decide) (by decide)
def own_Qa (Z : State) (h0 : Heap) (n0 : Nat) (v : Option Value) (h : Heap) (L : List Loc) : Prop := ∃ (b : Addr) (kb : ClassId) (z : Int32) (vs : List Value), v = some (.ref b) ∧ Fr n0 L ∧ Keep h0 h [] ∧ h0.size ≤ b
set_option maxRecDepth 65536 in
set_option maxHeartbeats 4000000 in
theorem rmCE (l : Launch) (Z : State) (a0 : Array Value) (hw : ∀ d ∈ tables_1, d.before a0 Z = true) (ws : List Jvm.Cond) (h0 : Heap) (n0 : Nat) (ch : Int32) :
    own_C l Z (⟨"java/lang/StringLatin1", "canEncode", "(C)Z"⟩ : MethodName) jdk_43_method_3_code 1 (some .boolean) ws ({ frames := 0, cells := 0, slots := 0, locals := 0 } : Room) #[(.int ch)] h0 (own_Qr (some (.int (if (255 : Int32) < ch then 0 else 1))) h0 n0) := by
  refine own_body (ls := #[.val (.int ch)]) pn_11 (fun m => by first | (simp [entryFrame, mkF, argsToLocals, Value.category]; done) | rfl) ?_
  intro p e s m below meth c T0 hZ hx hby hml hown hnm hret hlk X0 e0
  replace hml : c.maxLocals = 1 := hml
  have N0 := Fr.nil n0
  refine own_go (fun _ => XS.iloadN X0.here hx rfl (hb hby d11_0) rfl ) ?_
  show own_R p.tables e below _ T0 (mkF m 1 #[.val (.int ch)] [(.int ch)])
  refine own_go (fun _ => XS.sipush X0.here hx rfl (hb hby d11_1)) ?_
  show own_R p.tables e below _ T0 (mkF m 4 #[.val (.int ch)] [(.int (255 : Int32)), (.int ch)])
  by_cases hq : (255 : Int32) < ch
  · show own_R p.tables e below _ T0 (mkF m 4 #[.val (.int ch)] [(.int (255 : Int32)), (.int ch)])
    refine own_go (fun _ => XS.icmpYes X0.here hx rfl (pc0 := 4) (pc' := 11) rfl (hb hby d11_4) rfl (tlt hq).2.2.1 (by decide) (by decide)) ?_
    show own_R p.tables e below _ T0 (mkF m 11 #[.val (.int ch)] [])
    refine own_go (fun _ => XS.iconst X0.here hx rfl (hb hby d11_11)) ?_
    show own_R p.tables e below _ T0 (mkF m 12 #[.val (.int ch)] [(.int (0 : Int32))])
    exact own_end X0 (some (.int (nar .boolean (0 : Int32)))) (fun h => by rw [hret] at h; cases h) hlk (fun fs hr => retN X0 hx (t := .boolean) hret (by simp) (hb hby d11_12) hr) ⟨by rw [if_pos hq]; rfl, N0, e0⟩ (by decide) (by decide)
  · show own_R p.tables e below _ T0 (mkF m 4 #[.val (.int ch)] [(.int (255 : Int32)), (.int ch)])
    refine own_go (fun _ => XS.icmpNo X0.here hx rfl (hb hby d11_4) rfl (flt hq).2.2.1) ?_
    show own_R p.tables e below _ T0 (mkF m 7 #[.val (.int ch)] [])
    refine own_go (fun _ => XS.iconst X0.here hx rfl (hb hby d11_7)) ?_
    show own_R p.tables e below _ T0 (mkF m 8 #[.val (.int ch)] [(.int (1 : Int32))])
    refine own_go (fun _ => XS.goto X0.here hx rfl (pc0 := 8) (pc' := 12) rfl (hb hby d11_8) (by decide) (by decide)) ?_
    show own_R p.tables e below _ T0 (mkF m 12 #[.val (.int ch)] [(.int (1 : Int32))])
    exact own_end X0 (some (.int (nar .boolean (1 : Int32)))) (fun h => by rw [hret] at h; cases h) hlk (fun fs hr => retN X0 hx (t := .boolean) hret (by simp) (hb hby d11_12) hr) ⟨by rw [if_neg hq]; rfl, N0, e0⟩ (by decide) (by decide)
set_option maxRecDepth 65536 in
set_option maxHeartbeats 4000000 in
theorem rmL1 (l : Launch) (Z : State) (a0 : Array Value) (hw : ∀ d ∈ tables_1, d.before a0 Z = true) (ws : List Jvm.Cond) (h0 : Heap) (n0 : Nat) (ch : Int32) (Z0 : n0 ≤ h0.size) :
    own_C l Z (⟨"java/lang/StringLatin1", "toBytes", "(C)[B"⟩ : MethodName) jdk_43_method_46_code 1 (some (.array .byte)) ws ({ frames := 0, cells := 1, slots := 1, locals := 0 } : Room) #[(.int ch)] h0 (own_Qa Z h0 n0) := by
  refine own_body (ls := #[.val (.int ch)]) pn_12 (fun m => by first | (simp [entryFrame, mkF, argsToLocals, Value.category]; done) | rfl) ?_
  intro p e s m below meth c T0 hZ hx hby hml hown hnm hret hlk X0 e0
  replace hml : c.maxLocals = 1 := hml
  have N0 := Fr.nil n0
  refine own_go (fun _ => XS.iconst X0.here hx rfl (hb hby d12_0)) ?_
  show own_R p.tables e below _ T0 (mkF m 1 #[.val (.int ch)] [(.int (1 : Int32))])
  obtain ⟨T1, h1, k1, X1, e1, E1, A1, st1⟩ := newP X0 hx hZ (hw _ (List.mem_of_getElem? (i := 21) rfl)) e0 (g := (mkF m 1 #[.val (.int ch)] [(.int (1 : Int32))])) rfl (hb hby d12_1) rfl (by decide) (cap := 1) (by decide) (by decide) (by decide) (by decide)
  obtain ⟨a1, g1⟩ : ∃ z, z = h0.size := ⟨_, rfl⟩
  rw [← g1] at A1 st1
  refine own_go st1 ?_
  show own_R p.tables e below _ T1 (mkF m 3 #[.val (.int ch)] [(.ref a1)])
  refine own_go (fun _ => XS.dup X1.here hx rfl (hb hby d12_3) rfl rfl) ?_
  show own_R p.tables e below _ T1 (mkF m 4 #[.val (.int ch)] [(.ref a1), (.ref a1)])
  refine own_go (fun _ => XS.iconst X1.here hx rfl (hb hby d12_4)) ?_
  show own_R p.tables e below _ T1 (mkF m 5 #[.val (.int ch)] [(.int (0 : Int32)), (.ref a1), (.ref a1)])
  refine own_go (fun _ => XS.iloadN X1.here hx rfl (hb hby d12_5) rfl ) ?_
  show own_R p.tables e below _ T1 (mkF m 6 #[.val (.int ch)] [(.int ch), (.int (0 : Int32)), (.ref a1), (.ref a1)])
  refine own_go (fun _ => XS.i2b X1.here hx rfl (hb hby d12_6) rfl) ?_
  show own_R p.tables e below _ T1 (mkF m 7 #[.val (.int ch)] [(.int (ch.toInt8.toInt32)), (.int (0 : Int32)), (.ref a1), (.ref a1)])
  have Av : Arv Z h1 a1 k1 .byte (Int32.ofNat 1) [.int 0] (.int 0) := (Arv.new A1 (by decide)).pad (fun i => by rcases i with _ | i <;> rfl)
  obtain ⟨T2, h2, X2, e2, W2, A2, st2⟩ := own_stB X1 hx hZ e1 Av (j := (0 : Int32)) ⟨by decide, by decide⟩ 0 rfl (by decide) (g := (mkF m 7 #[.val (.int ch)] [(.int (ch.toInt8.toInt32)), (.int (0 : Int32)), (.ref a1), (.ref a1)])) rfl rfl (hb hby d12_7)
  refine own_go st2 ?_
  show own_R p.tables e below _ T2 (mkF m 8 #[.val (.int ch)] [(.ref a1)])
  have N2 := Fr.snoc X2 N0 (by omega : n0 ≤ a1)
  exact own_end X2 (some (.ref a1)) (fun h => by rw [hret] at h; cases h) hlk (fun fs hr => own_retA X2 hx hret rfl rfl (hb hby d12_8) hr) (by show own_Qa Z h0 n0 _ T2.heap _; rw [e2]; exact ⟨a1, k1, 1, [], rfl, N2, own_keep0 ((Keep.refl h0 []).ext E1) (Keep.of_wr W2) (by omega), by omega⟩) (by decide) (by decide)
set_option maxRecDepth 65536 in
set_option maxHeartbeats 4000000 in
theorem rmT1 (l : Launch) (Z : State) (a0 : Array Value) (hw : ∀ d ∈ tables_1, d.before a0 Z = true) (ws : List Jvm.Cond) (h0 : Heap) (n0 : Nat) (zc : Int32) (O1 : Sta Z Z.heap "java/lang/String" "COMPACT_STRINGS" "Z" (.int zc)) (hzc : ¬ zc = 0) (O2 : Sta Z Z.heap "java/lang/StringUTF16" "$assertionsDisabled" "Z" (.int 1)) (O3 : Sta Z Z.heap "java/lang/StringUTF16" "HI_BYTE_SHIFT" "I" (.int 0)) (O4 : Sta Z Z.heap "java/lang/StringUTF16" "LO_BYTE_SHIFT" "I" (.int 8)) (Od : Old Z n0 h0) (ch : Int32) (Z0 : n0 ≤ h0.size) :
    own_C l Z (⟨"java/lang/StringUTF16", "toBytes", "(C)[B"⟩ : MethodName) jdk_52_method_24_code 2 (some (.array .byte)) ws ({ frames := 1, cells := 1, slots := 2, locals := 14 } : Room) #[(.int ch)] h0 (own_Qa Z h0 n0) := by
  refine own_body (ls := #[.val (.int ch), .unset]) pn_19 (fun m => by first | (simp [entryFrame, mkF, argsToLocals, Value.category]; done) | rfl) ?_
  intro p e s m below meth c T0 hZ hx hby hml hown hnm hret hlk X0 e0
  replace hml : c.maxLocals = 2 := hml
  have N0 := Fr.nil n0
  refine own_go (fun _ => XS.iconst X0.here hx rfl (hb hby d19_0)) ?_
  show own_R p.tables e below _ T0 (mkF m 1 #[.val (.int ch), .unset] [(.int (2 : Int32))])
  obtain ⟨T1, h1, k1, X1, e1, E1, A1, st1⟩ := newP X0 hx hZ (hw _ (List.mem_of_getElem? (i := 21) rfl)) e0 (g := (mkF m 1 #[.val (.int ch), .unset] [(.int (2 : Int32))])) rfl (hb hby d19_1) rfl (by decide) (cap := 2) (by decide) (by decide) (by decide) (by decide)
  obtain ⟨a1, g1⟩ : ∃ z, z = h0.size := ⟨_, rfl⟩
  rw [← g1] at A1 st1
  refine own_go st1 ?_
  show own_R p.tables e below _ T1 (mkF m 3 #[.val (.int ch), .unset] [(.ref a1)])
  refine own_go (fun _ => XS.astoreN X1.here hx rfl (hb hby d19_3) rfl rfl (l' := #[.val (.int ch), .val (.ref a1)]) rfl) ?_
  show own_R p.tables e below _ T1 (mkF m 4 #[.val (.int ch), .val (.ref a1)] [])
  refine own_go (fun _ => XS.aloadN X1.here hx rfl (hb hby d19_4) rfl rfl) ?_
  show own_R p.tables e below _ T1 (mkF m 5 #[.val (.int ch), .val (.ref a1)] [(.ref a1)])
  refine own_go (fun _ => XS.iconst X1.here hx rfl (hb hby d19_5)) ?_
  show own_R p.tables e below _ T1 (mkF m 6 #[.val (.int ch), .val (.ref a1)] [(.int (0 : Int32)), (.ref a1)])
  refine own_go (fun _ => XS.iloadN X1.here hx rfl (hb hby d19_6) rfl ) ?_
  show own_R p.tables e below _ T1 (mkF m 7 #[.val (.int ch), .val (.ref a1)] [(.int ch), (.int (0 : Int32)), (.ref a1)])
  have Av : Arv Z h1 a1 k1 .byte (Int32.ofNat 2) [.int 0, .int 0] (.int 0) := (Arv.new A1 (by decide)).pad (fun i => by rcases i with _ | _ | i <;> rfl)
  obtain ⟨v2, T2, L2, X2, Q2, st2⟩ := own_callS X1 hx hZ hown (y := (⟨"java/lang/StringUTF16", "putChar", "([BII)V"⟩ : MethodName)) (hw _ (List.mem_of_getElem? (i := 73) rfl)) (hw _ (List.mem_of_getElem? (i := 74) rfl)) (hw _ (List.mem_of_getElem? (i := 19) rfl)) (hw _ (List.mem_of_getElem? (i := 75) rfl)) (by decide) (rmPut l Z a0 hw [] h1 n0 zc O1 hzc O2 O3 O4  (Od.ext E1) a1 k1 2 0 _ Av (by decide) (by decide) rfl ch (by omega)) (W := 0) (g := (mkF m 7 #[.val (.int ch), .val (.ref a1)] [(.int ch), (.int (0 : Int32)), (.ref a1)])) rfl (by rw [hml]; rfl) (argsL := [(.ref a1), (.int (0 : Int32)), (.int ch)]) (rest := []) (lenOf pd___BII_V rfl) rfl rfl (by show 2 * 0 + _ ≤ _; exact Nat.le_of_eq rfl) (hb hby d19_7) e1 (by decide) (by decide) (by decide) (by decide)
  obtain ⟨rfl, N2q, K2, A2⟩ := Q2
  have N2 := Fr.app N0 N2q
  refine own_go st2 ?_
  show own_R p.tables e below _ T2 (mkF m 10 #[.val (.int ch), .val (.ref a1)] [])
  refine own_go (fun _ => XS.aloadN X2.here hx rfl (hb hby d19_10) rfl rfl) ?_
  show own_R p.tables e below _ T2 (mkF m 11 #[.val (.int ch), .val (.ref a1)] [(.ref a1)])
  exact own_end X2 (some (.ref a1)) (fun h => by rw [hret] at h; cases h) hlk (fun fs hr => own_retA X2 hx hret rfl rfl (hb hby d19_11) hr) ⟨a1, k1, 1, [], rfl, N2, own_keep0 ((Keep.refl h0 []).ext E1) K2 (by omega), by omega⟩ (by decide) (by decide)
def own_Qk (sa : Addr) (h0 : Heap) (n0 : Nat) (v : Option Value) (h : Heap) (L : List Loc) : Prop := v = none ∧ Fr n0 L ∧ Keep h0 h [sa]
set_option maxRecDepth 65536 in
set_option maxHeartbeats 4000000 in
theorem rmBB (l : Launch) (Z : State) (a0 : Array Value) (hw : ∀ d ∈ tables_1, d.before a0 Z = true) (ws : List Jvm.Cond) (h0 : Heap) (n0 : Nat) (sa b : Addr) (x : Int32) (hx2 : nar .byte x = x) (gs : n0 ≤ sa) (E : Exa Z h0 sa "java/lang/String") (Fv : Fld Z h0 sa "java/lang/String" "value" "[B" .null) (Fc : Fld Z h0 sa "java/lang/String" "coder" "B" (.int 0)) :
    own_C l Z (⟨"java/lang/String", "<init>", "([BB)V"⟩ : MethodName) jdk_42_method_151_code 3 none ws ({ frames := 1, cells := 0, slots := 0, locals := 14 } : Room) #[(.ref sa), (.ref b), (.int x)] h0 (own_Qk sa h0 n0) := by
  refine own_body (ls := #[.val (.ref sa), .val (.ref b), .val (.int x)]) pn_13 (fun m => by first | (simp [entryFrame, mkF, argsToLocals, Value.category]; done) | rfl) ?_
  intro p e s m below meth c T0 hZ hx hby hml hown hnm hret hlk X0 e0
  replace hml : c.maxLocals = 3 := hml
  have N0 := Fr.nil n0
  refine own_go (fun _ => XS.aloadN X0.here hx rfl (hb hby d13_0) rfl rfl) ?_
  show own_R p.tables e below _ T0 (mkF m 1 #[.val (.ref sa), .val (.ref b), .val (.int x)] [(.ref sa)])
  obtain ⟨T1, X1, e1, st1⟩ := initO X0 hx hZ hown (hw _ (List.mem_of_getElem? (i := 13) rfl)) (hw _ (List.mem_of_getElem? (i := 14) rfl)) (hw _ (List.mem_of_getElem? (i := 15) rfl)) e0 (g := (mkF m 1 #[.val (.ref sa), .val (.ref b), .val (.int x)] [(.ref sa)])) rfl (by rw [hml]; rfl) rfl (hb hby d13_1) (by decide) (W := 0) (by show 2 * 0 + _ ≤ _; exact Nat.le_of_eq rfl) (by decide)
  refine own_go st1 ?_
  show own_R p.tables e below _ T1 (mkF m 4 #[.val (.ref sa), .val (.ref b), .val (.int x)] [])
  refine own_go (fun _ => XS.aloadN X1.here hx rfl (hb hby d13_4) rfl rfl) ?_
  show own_R p.tables e below _ T1 (mkF m 5 #[.val (.ref sa), .val (.ref b), .val (.int x)] [(.ref sa)])
  refine own_go (fun _ => XS.aloadN X1.here hx rfl (hb hby d13_5) rfl rfl) ?_
  show own_R p.tables e below _ T1 (mkF m 6 #[.val (.ref sa), .val (.ref b), .val (.int x)] [(.ref b), (.ref sa)])
  obtain ⟨T2, h2, X2, e2, W2, st2⟩ := putF X1 hx hZ hown (host := "") (Or.inl (hw _ (List.mem_of_getElem? (i := 30) rfl))) Via.refl e1 Fv E (Or.inr ⟨(hw _ (List.mem_of_getElem? (i := 31) rfl)), rfl, hnm⟩) (hw _ (List.mem_of_getElem? (i := 4) rfl)) (ty := (.array .byte)) (by decide) rfl rfl (g := (mkF m 6 #[.val (.ref sa), .val (.ref b), .val (.int x)] [(.ref b), (.ref sa)])) rfl rfl (hb hby d13_6)
  refine own_go st2 ?_
  show own_R p.tables e below _ T2 (mkF m 9 #[.val (.ref sa), .val (.ref b), .val (.int x)] [])
  have N2 := Fr.snoc X2 N0 gs
  refine own_go (fun _ => XS.aloadN X2.here hx rfl (hb hby d13_9) rfl rfl) ?_
  show own_R p.tables e below _ T2 (mkF m 10 #[.val (.ref sa), .val (.ref b), .val (.int x)] [(.ref sa)])
  refine own_go (fun _ => XS.iloadN X2.here hx rfl (hb hby d13_10) rfl ) ?_
  show own_R p.tables e below _ T2 (mkF m 11 #[.val (.ref sa), .val (.ref b), .val (.int x)] [(.int x), (.ref sa)])
  obtain ⟨T3, h3, X3, e3, W3, st3⟩ := putFN X2 hx hZ hown (hw _ (List.mem_of_getElem? (i := 28) rfl)) Via.refl e2 (Fc.other W2 (Or.inr (slot_ne (Or.inr (hw _ (List.mem_of_getElem? (i := 29) rfl))) (Or.inr (hw _ (List.mem_of_getElem? (i := 31) rfl))) (by decide) (t := .byte) (t' := (.array .byte)) (by decide) (by decide)))) (E.wr W2) (Or.inr ⟨(hw _ (List.mem_of_getElem? (i := 29) rfl)), rfl, hnm⟩) (hw _ (List.mem_of_getElem? (i := 4) rfl)) (ty := .byte) (v := (.int x)) (v' := (.int (x).toInt8.toInt32)) (by decide) rfl (fits_nar_byte _) (g := (mkF m 11 #[.val (.ref sa), .val (.ref b), .val (.int x)] [(.int x), (.ref sa)])) rfl rfl (hb hby d13_11)
  refine own_go st3 ?_
  show own_R p.tables e below _ T3 (mkF m 14 #[.val (.ref sa), .val (.ref b), .val (.int x)] [])
  have N3 := Fr.snoc X3 N2 gs
  exact own_end X3 none (fun _ => rfl) hlk (fun fs hr => X3.returnOut hx hret (hb hby d13_14) hr) (by show own_Qk sa h0 n0 _ T3.heap _; rw [e3]; exact ⟨rfl, N3, (Keep.of_wr W2).wr W3 (Or.inl (by simp))⟩) (by decide) (by decide)
set_option maxRecDepth 65536 in
set_option maxHeartbeats 8000000 in
theorem rmVO (l : Launch) (Z : State) (a0 : Array Value) (hw : ∀ d ∈ tables_1, d.before a0 Z = true) (ws : List Jvm.Cond) (h0 : Heap) (n0 : Nat) (zc : Int32) (O1 : Sta Z Z.heap "java/lang/String" "COMPACT_STRINGS" "Z" (.int zc)) (hzc : ¬ zc = 0) (O2 : Sta Z Z.heap "java/lang/StringUTF16" "$assertionsDisabled" "Z" (.int 1)) (O3 : Sta Z Z.heap "java/lang/StringUTF16" "HI_BYTE_SHIFT" "I" (.int 0)) (O4 : Sta Z Z.heap "java/lang/StringUTF16" "LO_BYTE_SHIFT" "I" (.int 8)) (Od : Old Z n0 h0) (ch : Int32) (Z0 : n0 ≤ h0.size) :
    own_C l Z (⟨"java/lang/String", "valueOf", "(C)Ljava/lang/String;"⟩ : MethodName) jdk_42_method_139_code 1 (some (.object "java/lang/String")) ws ({ frames := 2, cells := 2, slots := 6, locals := 32 } : Room) #[(.int ch)] h0 (own_Qa Z h0 n0) := by
  refine own_body (ls := #[.val (.int ch)]) pn_10 (fun m => by first | (simp [entryFrame, mkF, argsToLocals, Value.category]; done) | rfl) ?_
  intro p e s m below meth c T0 hZ hx hby hml hown hnm hret hlk X0 e0
  replace hml : c.maxLocals = 1 := hml
  have N0 := Fr.nil n0
  obtain ⟨T1, X1, e1, st1⟩ := getS X0 hx hZ hown (host := "") (hw _ (List.mem_of_getElem? (i := 16) rfl)) Via.refl e0 (O1.ext Od.2) (g := (mkF m 0 #[.val (.int ch)] [])) rfl (hb hby d10_0)
  refine own_go st1 ?_
  show own_R p.tables e below _ T1 (mkF m 3 #[.val (.int ch)] [(.int zc)])
  refine own_go (fun _ => XS.ifNo X1.here hx rfl (hb hby d10_3) rfl ((if0 _ _).trans (feq hzc).1)) ?_
  show own_R p.tables e below _ T1 (mkF m 6 #[.val (.int ch)] [])
  refine own_go (fun _ => XS.iloadN X1.here hx rfl (hb hby d10_6) rfl ) ?_
  show own_R p.tables e below _ T1 (mkF m 7 #[.val (.int ch)] [(.int ch)])
  obtain ⟨v2, T2, L2, X2, Q2, st2⟩ := own_callS X1 hx hZ hown (y := (⟨"java/lang/StringLatin1", "canEncode", "(C)Z"⟩ : MethodName)) (hw _ (List.mem_of_getElem? (i := 51) rfl)) (hw _ (List.mem_of_getElem? (i := 52) rfl)) (hw _ (List.mem_of_getElem? (i := 53) rfl)) (hw _ (List.mem_of_getElem? (i := 54) rfl)) (by decide) (rmCE l Z a0 hw [] h0 n0 ch) (W := 0) (g := (mkF m 7 #[.val (.int ch)] [(.int ch)])) rfl (by rw [hml]; rfl) (argsL := [(.int ch)]) (rest := []) (lenOf pd__C_Z rfl) rfl rfl (by show 2 * 0 + _ ≤ _; exact Nat.le_of_eq rfl) (hb hby d10_7) e1 (by decide) (by decide) (by decide) (by decide)
  obtain ⟨rfl, N2q, e2⟩ := Q2
  have N2 := Fr.app N0 N2q
  refine own_go st2 ?_
  show own_R p.tables e below _ T2 (mkF m 10 #[.val (.int ch)] [(.int (if (255 : Int32) < ch then 0 else 1))])
  by_cases hq : (255 : Int32) < ch
  · rw [if_pos hq]
    show own_R p.tables e below _ T2 (mkF m 10 #[.val (.int ch)] [(.int (0 : Int32))])
    refine own_go (fun _ => XS.ifYes X2.here hx rfl (pc0 := 10) (pc' := 26) rfl (hb hby d10_10) rfl ((if0 _ _).trans (teq (rfl : (0 : Int32) = (0 : Int32))).1) (by decide) (by decide)) ?_
    show own_R p.tables e below _ T2 (mkF m 26 #[.val (.int ch)] [])
    obtain ⟨T3, h3, X3, e3, E3, A3, D3, -, st3⟩ := newO X2 hx hZ hown (hw _ (List.mem_of_getElem? (i := 55) rfl)) (hw _ (List.mem_of_getElem? (i := 4) rfl)) (hw _ (List.mem_of_getElem? (i := 5) rfl)) e2 (g := (mkF m 26 #[.val (.int ch)] [])) rfl (hb hby d10_26) (by decide) (by decide)
    obtain ⟨a3, g3⟩ : ∃ z, z = h0.size := ⟨_, rfl⟩
    rw [← g3] at A3 D3 st3
    refine own_go st3 ?_
    show own_R p.tables e below _ T3 (mkF m 29 #[.val (.int ch)] [(.ref a3)])
    refine own_go (fun _ => XS.dup X3.here hx rfl (hb hby d10_29) rfl rfl) ?_
    show own_R p.tables e below _ T3 (mkF m 30 #[.val (.int ch)] [(.ref a3), (.ref a3)])
    refine own_go (fun _ => XS.iloadN X3.here hx rfl (hb hby d10_30) rfl ) ?_
    show own_R p.tables e below _ T3 (mkF m 31 #[.val (.int ch)] [(.int ch), (.ref a3), (.ref a3)])
    have Z3 : n0 ≤ h3.size := Nat.le_trans Z0 E3.1
    obtain ⟨v4, T4, L4, X4, Q4, st4⟩ := own_callS X3 hx hZ hown (y := (⟨"java/lang/StringUTF16", "toBytes", "(C)[B"⟩ : MethodName)) (hw _ (List.mem_of_getElem? (i := 82) rfl)) (hw _ (List.mem_of_getElem? (i := 83) rfl)) (hw _ (List.mem_of_getElem? (i := 19) rfl)) (hw _ (List.mem_of_getElem? (i := 84) rfl)) (by decide) (rmT1 l Z a0 hw [] h3 n0 zc O1 hzc O2 O3 O4  (Od.ext E3) ch Z3) (W := 2) (g := (mkF m 31 #[.val (.int ch)] [(.int ch), (.ref a3), (.ref a3)])) rfl (by rw [hml]; rfl) (argsL := [(.int ch)]) (rest := [(.ref a3), (.ref a3)]) (lenOf pd__C__B rfl) rfl rfl (by show 2 * 0 + _ ≤ _; exact Nat.le_of_eq rfl) (hb hby d10_31) e3 (by decide) (by decide) (by decide) (by decide)
    obtain ⟨b, _, _, _, rfl, N4q, K4, gb⟩ := Q4
    have N4 := Fr.app N2 N4q
    refine own_go st4 ?_
    show own_R p.tables e below _ T4 (mkF m 34 #[.val (.int ch)] [(.ref b), (.ref a3), (.ref a3)])
    refine own_go (fun _ => XS.iconst X4.here hx rfl (hb hby d10_34)) ?_
    show own_R p.tables e below _ T4 (mkF m 35 #[.val (.int ch)] [(.int (1 : Int32)), (.ref b), (.ref a3), (.ref a3)])
    obtain ⟨v5, T5, L5, X5, Q5, st5⟩ := own_callI X4 hx hZ hown (y := (⟨"java/lang/String", "<init>", "([BB)V"⟩ : MethodName)) rfl (hw _ (List.mem_of_getElem? (i := 59) rfl)) (hw _ (List.mem_of_getElem? (i := 60) rfl)) (hw _ (List.mem_of_getElem? (i := 61) rfl)) (hw _ (List.mem_of_getElem? (i := 5) rfl)) (by decide) (rmBB l Z a0 hw [] T4.heap n0 a3 b (1 : Int32) rfl (by omega) (A3.keep K4) ((D3 (Or.inr (hw _ (List.mem_of_getElem? (i := 31) rfl))) (ty := (.array .byte)) (by decide)).keep K4 (by simp)) ((D3 (Or.inr (hw _ (List.mem_of_getElem? (i := 29) rfl))) (ty := .byte) (by decide)).keep K4 (by simp))) (W := 1) (g := (mkF m 35 #[.val (.int ch)] [(.int (1 : Int32)), (.ref b), (.ref a3), (.ref a3)])) rfl (by rw [hml]; rfl) (a := a3) (argsL := [(.ref b), (.int (1 : Int32))]) (rest := [(.ref a3)]) (lenOf pd___BB_V rfl) rfl rfl (by show 2 * 0 + _ ≤ _; exact Nat.le_of_eq rfl) (hb hby d10_35) rfl (by decide) (by decide) (by decide) (by decide)
    obtain ⟨rfl, N5q, K5⟩ := Q5
    have N5 := Fr.app N4 N5q
    refine own_go st5 ?_
    show own_R p.tables e below _ T5 (mkF m 38 #[.val (.int ch)] [(.ref a3)])
    exact own_end X5 (some (.ref a3)) (fun h => by rw [hret] at h; cases h) hlk (fun fs hr => own_retA X5 hx hret rfl rfl (hb hby d10_38) hr) ⟨a3, 0, 1, [], rfl, N5, own_keep0 (((Keep.refl h0 []).ext E3).trans K4 (fun x hx => by simp at hx)) K5 (by omega), by omega⟩ (by decide) (by decide)
  · rw [if_neg hq]
    show own_R p.tables e below _ T2 (mkF m 10 #[.val (.int ch)] [(.int (1 : Int32))])
    refine own_go (fun _ => XS.ifNo X2.here hx rfl (hb hby d10_10) rfl ((if0 _ _).trans (feq (by decide : ¬ ((1 : Int32) = (0 : Int32)))).1)) ?_
    show own_R p.tables e below _ T2 (mkF m 13 #[.val (.int ch)] [])
    obtain ⟨T3, h3, X3, e3, E3, A3, D3, -, st3⟩ := newO X2 hx hZ hown (hw _ (List.mem_of_getElem? (i := 55) rfl)) (hw _ (List.mem_of_getElem? (i := 4) rfl)) (hw _ (List.mem_of_getElem? (i := 5) rfl)) e2 (g := (mkF m 13 #[.val (.int ch)] [])) rfl (hb hby d10_13) (by decide) (by decide)
    obtain ⟨a3, g3⟩ : ∃ z, z = h0.size := ⟨_, rfl⟩
    rw [← g3] at A3 D3 st3
    refine own_go st3 ?_
    show own_R p.tables e below _ T3 (mkF m 16 #[.val (.int ch)] [(.ref a3)])
    refine own_go (fun _ => XS.dup X3.here hx rfl (hb hby d10_16) rfl rfl) ?_
    show own_R p.tables e below _ T3 (mkF m 17 #[.val (.int ch)] [(.ref a3), (.ref a3)])
    refine own_go (fun _ => XS.iloadN X3.here hx rfl (hb hby d10_17) rfl ) ?_
    show own_R p.tables e below _ T3 (mkF m 18 #[.val (.int ch)] [(.int ch), (.ref a3), (.ref a3)])
    have Z3 : n0 ≤ h3.size := Nat.le_trans Z0 E3.1
    obtain ⟨v4, T4, L4, X4, Q4, st4⟩ := own_callS X3 hx hZ hown (y := (⟨"java/lang/StringLatin1", "toBytes", "(C)[B"⟩ : MethodName)) (hw _ (List.mem_of_getElem? (i := 56) rfl)) (hw _ (List.mem_of_getElem? (i := 57) rfl)) (hw _ (List.mem_of_getElem? (i := 53) rfl)) (hw _ (List.mem_of_getElem? (i := 58) rfl)) (by decide) (rmL1 l Z a0 hw [] h3 n0 ch Z3) (W := 2) (g := (mkF m 18 #[.val (.int ch)] [(.int ch), (.ref a3), (.ref a3)])) rfl (by rw [hml]; rfl) (argsL := [(.int ch)]) (rest := [(.ref a3), (.ref a3)]) (lenOf pd__C__B rfl) rfl rfl (by show 2 * 0 + _ ≤ _; exact Nat.le_of_eq rfl) (hb hby d10_18) e3 (by decide) (by decide) (by decide) (by decide)
    obtain ⟨b, _, _, _, rfl, N4q, K4, gb⟩ := Q4
    have N4 := Fr.app N2 N4q
    refine own_go st4 ?_
    show own_R p.tables e below _ T4 (mkF m 21 #[.val (.int ch)] [(.ref b), (.ref a3), (.ref a3)])
    refine own_go (fun _ => XS.iconst X4.here hx rfl (hb hby d10_21)) ?_
    show own_R p.tables e below _ T4 (mkF m 22 #[.val (.int ch)] [(.int (0 : Int32)), (.ref b), (.ref a3), (.ref a3)])
    obtain ⟨v5, T5, L5, X5, Q5, st5⟩ := own_callI X4 hx hZ hown (y := (⟨"java/lang/String", "<init>", "([BB)V"⟩ : MethodName)) rfl (hw _ (List.mem_of_getElem? (i := 59) rfl)) (hw _ (List.mem_of_getElem? (i := 60) rfl)) (hw _ (List.mem_of_getElem? (i := 61) rfl)) (hw _ (List.mem_of_getElem? (i := 5) rfl)) (by decide) (rmBB l Z a0 hw [] T4.heap n0 a3 b (0 : Int32) rfl (by omega) (A3.keep K4) ((D3 (Or.inr (hw _ (List.mem_of_getElem? (i := 31) rfl))) (ty := (.array .byte)) (by decide)).keep K4 (by simp)) ((D3 (Or.inr (hw _ (List.mem_of_getElem? (i := 29) rfl))) (ty := .byte) (by decide)).keep K4 (by simp))) (W := 1) (g := (mkF m 22 #[.val (.int ch)] [(.int (0 : Int32)), (.ref b), (.ref a3), (.ref a3)])) rfl (by rw [hml]; rfl) (a := a3) (argsL := [(.ref b), (.int (0 : Int32))]) (rest := [(.ref a3)]) (lenOf pd___BB_V rfl) rfl rfl (by show 2 * 0 + _ ≤ _; exact Nat.le_of_eq rfl) (hb hby d10_22) rfl (by decide) (by decide) (by decide) (by decide)
    obtain ⟨rfl, N5q, K5⟩ := Q5
    have N5 := Fr.app N4 N5q
    refine own_go st5 ?_
    show own_R p.tables e below _ T5 (mkF m 25 #[.val (.int ch)] [(.ref a3)])
    exact own_end X5 (some (.ref a3)) (fun h => by rw [hret] at h; cases h) hlk (fun fs hr => own_retA X5 hx hret rfl rfl (hb hby d10_25) hr) ⟨a3, 0, 1, [], rfl, N5, own_keep0 (((Keep.refl h0 []).ext E3).trans K4 (fun x hx => by simp at hx)) K5 (by omega), by omega⟩ (by decide) (by decide)
set_option maxRecDepth 65536 in
set_option maxHeartbeats 4000000 in
theorem rmIE (l : Launch) (Z : State) (a0 : Array Value) (hw : ∀ d ∈ tables_1, d.before a0 Z = true) (ws : List Jvm.Cond) (h0 : Heap) (n0 : Nat) (sa : Addr) (N : own_N Z h0 sa) :
    own_C l Z (⟨"java/lang/String", "isEmpty", "()Z"⟩ : MethodName) jdk_42_method_55_code 1 (some .boolean) ws ({ frames := 0, cells := 0, slots := 0, locals := 0 } : Room) #[(.ref sa)] h0 (own_Qr (some (.int 0)) h0 n0) := by
  refine own_body (ls := #[.val (.ref sa)]) pn_9 (fun m => by first | (simp [entryFrame, mkF, argsToLocals, Value.category]; done) | rfl) ?_
  intro p e s m below meth c T0 hZ hx hby hml hown hnm hret hlk X0 e0
  replace hml : c.maxLocals = 1 := hml
  have N0 := Fr.nil n0
  obtain ⟨b, kb, z, vs, hz1, hz2, E, F, A⟩ := N
  refine own_go (fun _ => XS.aloadN X0.here hx rfl (hb hby d9_0) rfl rfl) ?_
  show own_R p.tables e below _ T0 (mkF m 1 #[.val (.ref sa)] [(.ref sa)])
  obtain ⟨T1, X1, e1, st1⟩ := getF X0 hx hZ hown (host := "") (Or.inl (hw _ (List.mem_of_getElem? (i := 30) rfl))) Via.refl e0 F (g := (mkF m 1 #[.val (.ref sa)] [(.ref sa)])) rfl rfl (hb hby d9_1)
  refine own_go st1 ?_
  show own_R p.tables e below _ T1 (mkF m 4 #[.val (.ref sa)] [(.ref b)])
  refine own_go (own_len X1 hx hZ e1 A (g := (mkF m 4 #[.val (.ref sa)] [(.ref b)])) rfl rfl (hb hby d9_4)) ?_
  show own_R p.tables e below _ T1 (mkF m 5 #[.val (.ref sa)] [(.int (Int32.ofNat z))])
  refine own_go (fun _ => XS.ifYes X1.here hx rfl (pc0 := 5) (pc' := 12) rfl (hb hby d9_5) rfl ((if0 _ _).trans (feq (own_n0 (by omega) (by omega) : ¬ ((Int32.ofNat z) = (0 : Int32)))).2) (by decide) (by decide)) ?_
  show own_R p.tables e below _ T1 (mkF m 12 #[.val (.ref sa)] [])
  refine own_go (fun _ => XS.iconst X1.here hx rfl (hb hby d9_12)) ?_
  show own_R p.tables e below _ T1 (mkF m 13 #[.val (.ref sa)] [(.int (0 : Int32))])
  exact own_end X1 (some (.int (nar .boolean (0 : Int32)))) (fun h => by rw [hret] at h; cases h) hlk (fun fs hr => retN X1 hx (t := .boolean) hret (by simp) (hb hby d9_13) hr) ⟨rfl, N0, e1⟩ (by decide) (by decide)
set_option maxRecDepth 65536 in
set_option maxHeartbeats 4000000 in
theorem rmRN (l : Launch) (Z : State) (a0 : Array Value) (hw : ∀ d ∈ tables_1, d.before a0 Z = true) (ws : List Jvm.Cond) (h0 : Heap) (n0 : Nat) (a b : Addr) :
    own_C l Z (⟨"java/util/Objects", "requireNonNull", "(Ljava/lang/Object;Ljava/lang/String;)Ljava/lang/Object;"⟩ : MethodName) jdk_31_method_11_code 2 (some (.object "java/lang/Object")) ws ({ frames := 0, cells := 0, slots := 0, locals := 0 } : Room) #[(.ref a), (.ref b)] h0 (own_Qr (some (.ref a)) h0 n0) := by
  refine own_body (ls := #[.val (.ref a), .val (.ref b)]) pn_8 (fun m => by first | (simp [entryFrame, mkF, argsToLocals, Value.category]; done) | rfl) ?_
  intro p e s m below meth c T0 hZ hx hby hml hown hnm hret hlk X0 e0
  replace hml : c.maxLocals = 2 := hml
  have N0 := Fr.nil n0
  refine own_go (fun _ => XS.aloadN X0.here hx rfl (hb hby d8_0) rfl rfl) ?_
  show own_R p.tables e below _ T0 (mkF m 1 #[.val (.ref a), .val (.ref b)] [(.ref a)])
  refine own_go (fun _ => XS.ifnonnullYes X0.here hx rfl (pc0 := 1) (pc' := 13) rfl (hb hby d8_1) rfl (by decide) (by decide)) ?_
  show own_R p.tables e below _ T0 (mkF m 13 #[.val (.ref a), .val (.ref b)] [])
  refine own_go (fun _ => XS.aloadN X0.here hx rfl (hb hby d8_13) rfl rfl) ?_
  show own_R p.tables e below _ T0 (mkF m 14 #[.val (.ref a), .val (.ref b)] [(.ref a)])
  exact own_end X0 (some (.ref a)) (fun h => by rw [hret] at h; cases h) hlk (fun fs hr => own_retA X0 hx hret rfl rfl (hb hby d8_14) hr) ⟨rfl, N0, e0⟩ (by decide) (by decide)
def own_Qn (sa : Addr) (n0 : Nat) (v : Option Value) (h : Heap) (L : List Loc) : Prop := v = some (.ref sa) ∧ Fr n0 L
set_option maxRecDepth 65536 in
set_option maxHeartbeats 4000000 in
theorem rmCKn (l : Launch) (Z : State) (a0 : Array Value) (hw : ∀ d ∈ tables_1, d.before a0 Z = true) (ws : List Jvm.Cond) (h0 : Heap) (n0 : Nat) (sa : Addr) (N : own_N Z h0 sa) :
    own_CW l Z (⟨"com/example/cerrojo/cerrojo/lock/Keys", "checkName", "(Ljava/lang/String;Ljava/lang/String;)Ljava/lang/String;"⟩ : MethodName) prog_10_method_2_code 2 (some (.object "java/lang/String")) ws ({ frames := 1, cells := 2, slots := 20, locals := 16 } : Room) #[(.ref sa), .null] h0 (own_Qn sa n0) := by
  refine own_bodyW (ls := #[.val (.ref sa), .val .null]) pn_7 (fun m => by first | (simp [entryFrame, mkF, argsToLocals, Value.category]; done) | rfl) ?_
  intro p e s m below meth c T0 hZ hx hby hml hown hnm hret hlk X0 e0
  replace hml : c.maxLocals = 2 := hml
  have N0 := Fr.nil n0
  have wS : ∀ a ∈ Bundle.stringAtoms, a.before a0 Z = true := by
    intro a ha
    simp only [Bundle.stringAtoms, List.mem_cons, List.not_mem_nil, or_false] at ha
    rcases ha with rfl | rfl | rfl | rfl | rfl | rfl | rfl
    all_goals first | exact (hw _ (List.mem_of_getElem? (i := 5) rfl)) | exact (hw _ (List.mem_of_getElem? (i := 4) rfl)) | exact (hw _ (List.mem_of_getElem? (i := 21) rfl)) | exact (hw _ (List.mem_of_getElem? (i := 31) rfl)) | exact (hw _ (List.mem_of_getElem? (i := 29) rfl)) | exact (hw _ (List.mem_of_getElem? (i := 37) rfl)) | exact (hw _ (List.mem_of_getElem? (i := 38) rfl))
  refine own_go (fun _ => XS.aloadN X0.here hx rfl (hb hby d7_0) rfl rfl) ?_
  show own_R p.tables e below _ T0 (mkF m 1 #[.val (.ref sa), .val .null] [(.ref sa)])
  obtain ⟨a1, T1, h1, X1, e1, E1, S1, hZ, hown, st1⟩ := own_ldc X0 hx hZ hown (hw _ (List.mem_of_getElem? (i := 36) rfl)) wS e0 (g := (mkF m 1 #[.val (.ref sa), .val .null] [(.ref sa)])) rfl (hb hby d7_1) (n := 16) (by decide) (by decide) (by decide) (by decide)
  refine own_go st1 ?_
  show own_R p.tables e below _ T1 (mkF m 3 #[.val (.ref sa), .val .null] [(.ref a1), (.ref sa)])
  obtain ⟨v2, T2, L2, X2, Q2, st2⟩ := own_callS X1 hx hZ hown (y := (⟨"java/util/Objects", "requireNonNull", "(Ljava/lang/Object;Ljava/lang/String;)Ljava/lang/Object;"⟩ : MethodName)) (hw _ (List.mem_of_getElem? (i := 39) rfl)) (hw _ (List.mem_of_getElem? (i := 40) rfl)) (hw _ (List.mem_of_getElem? (i := 41) rfl)) (hw _ (List.mem_of_getElem? (i := 42) rfl)) (by decide) (rmRN l Z a0 hw [] h1 n0 sa a1) (W := 0) (g := (mkF m 3 #[.val (.ref sa), .val .null] [(.ref a1), (.ref sa)])) rfl (by rw [hml]; rfl) (argsL := [(.ref sa), (.ref a1)]) (rest := []) (lenOf pd__Ljava_lang_Object_Ljava_lang_String__Ljava_lang_Object_ rfl) rfl rfl (by show 2 * 0 + _ ≤ _; exact Nat.le_of_eq rfl) (hb hby d7_3) e1 (by decide) (by decide) (by decide) (by decide)
  obtain ⟨rfl, N2q, e2⟩ := Q2
  have N2 := Fr.app N0 N2q
  refine own_go st2 ?_
  show own_R p.tables e below _ T2 (mkF m 6 #[.val (.ref sa), .val .null] [(.ref sa)])
  refine own_go (fun _ => XS.pop X2.here hx rfl (hb hby d7_6) rfl rfl) ?_
  show own_R p.tables e below _ T2 (mkF m 7 #[.val (.ref sa), .val .null] [])
  refine own_go (fun _ => XS.aloadN X2.here hx rfl (hb hby d7_7) rfl rfl) ?_
  show own_R p.tables e below _ T2 (mkF m 8 #[.val (.ref sa), .val .null] [(.ref sa)])
  have M1 := N.ext E1
  have Es := M1
  obtain ⟨_, _, _, _, _, _, Es, _, _⟩ := Es
  obtain ⟨v3, T3, L3, X3, Q3, st3⟩ := own_callV X2 hx hZ hown (y := (⟨"java/lang/String", "isEmpty", "()Z"⟩ : MethodName)) (hw _ (List.mem_of_getElem? (i := 43) rfl)) (hw _ (List.mem_of_getElem? (i := 44) rfl)) (hw _ (List.mem_of_getElem? (i := 46) rfl)) (hw _ (List.mem_of_getElem? (i := 45) rfl)) (hw _ (List.mem_of_getElem? (i := 47) rfl)) (hw _ (List.mem_of_getElem? (i := 5) rfl)) (by decide) (rmIE l Z a0 hw [] h1 n0 sa M1) Es (W := 0) (g := (mkF m 8 #[.val (.ref sa), .val .null] [(.ref sa)])) rfl (by rw [hml]; rfl) (b := sa) (argsL := []) (rest := []) (lenOf pd___Z rfl) rfl rfl (by show 2 * 0 + _ ≤ _; exact Nat.le_of_eq rfl) (hb hby d7_8) e2 (by decide) (by decide) (by decide) (by decide)
  obtain ⟨rfl, N3q, e3⟩ := Q3
  have N3 := Fr.app N2 N3q
  refine own_go st3 ?_
  show own_R p.tables e below _ T3 (mkF m 11 #[.val (.ref sa), .val .null] [(.int (0 : Int32))])
  refine own_go (fun _ => XS.ifYes X3.here hx rfl (pc0 := 11) (pc' := 28) rfl (hb hby d7_11) rfl ((if0 _ _).trans (teq (rfl : (0 : Int32) = (0 : Int32))).1) (by decide) (by decide)) ?_
  show own_R p.tables e below _ T3 (mkF m 28 #[.val (.ref sa), .val .null] [])
  refine own_go (fun _ => XS.aloadN X3.here hx rfl (hb hby d7_28) rfl rfl) ?_
  show own_R p.tables e below _ T3 (mkF m 29 #[.val (.ref sa), .val .null] [(.ref sa)])
  exact own_endW X3 S1 (Nat.le_of_eq (by rw [e3])) (some (.ref sa)) (fun h => by rw [hret] at h; cases h) hlk (fun fs hr => own_retA X3 hx hret rfl rfl (hb hby d7_29) hr) ⟨rfl, N3⟩ (by decide) (by decide)
set_option maxRecDepth 65536 in
set_option maxHeartbeats 4000000 in
theorem rmCKr (l : Launch) (Z : State) (a0 : Array Value) (hw : ∀ d ∈ tables_1, d.before a0 Z = true) (ws : List Jvm.Cond) (h0 : Heap) (n0 : Nat) (sa kd : Addr) (N : own_N Z h0 sa) :
    own_CW l Z (⟨"com/example/cerrojo/cerrojo/lock/Keys", "checkName", "(Ljava/lang/String;Ljava/lang/String;)Ljava/lang/String;"⟩ : MethodName) prog_10_method_2_code 2 (some (.object "java/lang/String")) ws ({ frames := 1, cells := 2, slots := 20, locals := 16 } : Room) #[(.ref sa), (.ref kd)] h0 (own_Qn sa n0) := by
  refine own_bodyW (ls := #[.val (.ref sa), .val (.ref kd)]) pn_7 (fun m => by first | (simp [entryFrame, mkF, argsToLocals, Value.category]; done) | rfl) ?_
  intro p e s m below meth c T0 hZ hx hby hml hown hnm hret hlk X0 e0
  replace hml : c.maxLocals = 2 := hml
  have N0 := Fr.nil n0
  have wS : ∀ a ∈ Bundle.stringAtoms, a.before a0 Z = true := by
    intro a ha
    simp only [Bundle.stringAtoms, List.mem_cons, List.not_mem_nil, or_false] at ha
    rcases ha with rfl | rfl | rfl | rfl | rfl | rfl | rfl
    all_goals first | exact (hw _ (List.mem_of_getElem? (i := 5) rfl)) | exact (hw _ (List.mem_of_getElem? (i := 4) rfl)) | exact (hw _ (List.mem_of_getElem? (i := 21) rfl)) | exact (hw _ (List.mem_of_getElem? (i := 31) rfl)) | exact (hw _ (List.mem_of_getElem? (i := 29) rfl)) | exact (hw _ (List.mem_of_getElem? (i := 37) rfl)) | exact (hw _ (List.mem_of_getElem? (i := 38) rfl))
  refine own_go (fun _ => XS.aloadN X0.here hx rfl (hb hby d7_0) rfl rfl) ?_
  show own_R p.tables e below _ T0 (mkF m 1 #[.val (.ref sa), .val (.ref kd)] [(.ref sa)])
  obtain ⟨a1, T1, h1, X1, e1, E1, S1, hZ, hown, st1⟩ := own_ldc X0 hx hZ hown (hw _ (List.mem_of_getElem? (i := 36) rfl)) wS e0 (g := (mkF m 1 #[.val (.ref sa), .val (.ref kd)] [(.ref sa)])) rfl (hb hby d7_1) (n := 16) (by decide) (by decide) (by decide) (by decide)
  refine own_go st1 ?_
  show own_R p.tables e below _ T1 (mkF m 3 #[.val (.ref sa), .val (.ref kd)] [(.ref a1), (.ref sa)])
  obtain ⟨v2, T2, L2, X2, Q2, st2⟩ := own_callS X1 hx hZ hown (y := (⟨"java/util/Objects", "requireNonNull", "(Ljava/lang/Object;Ljava/lang/String;)Ljava/lang/Object;"⟩ : MethodName)) (hw _ (List.mem_of_getElem? (i := 39) rfl)) (hw _ (List.mem_of_getElem? (i := 40) rfl)) (hw _ (List.mem_of_getElem? (i := 41) rfl)) (hw _ (List.mem_of_getElem? (i := 42) rfl)) (by decide) (rmRN l Z a0 hw [] h1 n0 sa a1) (W := 0) (g := (mkF m 3 #[.val (.ref sa), .val (.ref kd)] [(.ref a1), (.ref sa)])) rfl (by rw [hml]; rfl) (argsL := [(.ref sa), (.ref a1)]) (rest := []) (lenOf pd__Ljava_lang_Object_Ljava_lang_String__Ljava_lang_Object_ rfl) rfl rfl (by show 2 * 0 + _ ≤ _; exact Nat.le_of_eq rfl) (hb hby d7_3) e1 (by decide) (by decide) (by decide) (by decide)
  obtain ⟨rfl, N2q, e2⟩ := Q2
  have N2 := Fr.app N0 N2q
  refine own_go st2 ?_
  show own_R p.tables e below _ T2 (mkF m 6 #[.val (.ref sa), .val (.ref kd)] [(.ref sa)])
  refine own_go (fun _ => XS.pop X2.here hx rfl (hb hby d7_6) rfl rfl) ?_
  show own_R p.tables e below _ T2 (mkF m 7 #[.val (.ref sa), .val (.ref kd)] [])
  refine own_go (fun _ => XS.aloadN X2.here hx rfl (hb hby d7_7) rfl rfl) ?_
  show own_R p.tables e below _ T2 (mkF m 8 #[.val (.ref sa), .val (.ref kd)] [(.ref sa)])
  have M1 := N.ext E1
  have Es := M1
  obtain ⟨_, _, _, _, _, _, Es, _, _⟩ := Es
  obtain ⟨v3, T3, L3, X3, Q3, st3⟩ := own_callV X2 hx hZ hown (y := (⟨"java/lang/String", "isEmpty", "()Z"⟩ : MethodName)) (hw _ (List.mem_of_getElem? (i := 43) rfl)) (hw _ (List.mem_of_getElem? (i := 44) rfl)) (hw _ (List.mem_of_getElem? (i := 46) rfl)) (hw _ (List.mem_of_getElem? (i := 45) rfl)) (hw _ (List.mem_of_getElem? (i := 47) rfl)) (hw _ (List.mem_of_getElem? (i := 5) rfl)) (by decide) (rmIE l Z a0 hw [] h1 n0 sa M1) Es (W := 0) (g := (mkF m 8 #[.val (.ref sa), .val (.ref kd)] [(.ref sa)])) rfl (by rw [hml]; rfl) (b := sa) (argsL := []) (rest := []) (lenOf pd___Z rfl) rfl rfl (by show 2 * 0 + _ ≤ _; exact Nat.le_of_eq rfl) (hb hby d7_8) e2 (by decide) (by decide) (by decide) (by decide)
  obtain ⟨rfl, N3q, e3⟩ := Q3
  have N3 := Fr.app N2 N3q
  refine own_go st3 ?_
  show own_R p.tables e below _ T3 (mkF m 11 #[.val (.ref sa), .val (.ref kd)] [(.int (0 : Int32))])
  refine own_go (fun _ => XS.ifYes X3.here hx rfl (pc0 := 11) (pc' := 28) rfl (hb hby d7_11) rfl ((if0 _ _).trans (teq (rfl : (0 : Int32) = (0 : Int32))).1) (by decide) (by decide)) ?_
  show own_R p.tables e below _ T3 (mkF m 28 #[.val (.ref sa), .val (.ref kd)] [])
  refine own_go (fun _ => XS.aloadN X3.here hx rfl (hb hby d7_28) rfl rfl) ?_
  show own_R p.tables e below _ T3 (mkF m 29 #[.val (.ref sa), .val (.ref kd)] [(.ref sa)])
  exact own_endW X3 S1 (Nat.le_of_eq (by rw [e3])) (some (.ref sa)) (fun h => by rw [hret] at h; cases h) hlk (fun fs hr => own_retA X3 hx hret rfl rfl (hb hby d7_29) hr) ⟨rfl, N3⟩ (by decide) (by decide)
set_option maxRecDepth 65536 in
set_option maxHeartbeats 40000000 in
theorem rm0 (l : Launch) (Z : State) (a0 : Array Value) (hw : ∀ d ∈ tables_1, d.before a0 Z = true) (ws : List Jvm.Cond) (h0 : Heap) (n0 : Nat) (zc : Int32) (O1 : Sta Z Z.heap "java/lang/String" "COMPACT_STRINGS" "Z" (.int zc)) (hzc : ¬ zc = 0) (O2 : Sta Z Z.heap "java/lang/StringUTF16" "$assertionsDisabled" "Z" (.int 1)) (O3 : Sta Z Z.heap "java/lang/StringUTF16" "HI_BYTE_SHIFT" "I" (.int 0)) (O4 : Sta Z Z.heap "java/lang/StringUTF16" "LO_BYTE_SHIFT" "I" (.int 8)) (Od : Old Z n0 h0) (c0 c1 c2 ln ks kc : Int32) (Z0 : n0 ≤ h0.size) :
    own_CW l Z x code maxLocals ret ws room_1 #[(.int c0), (.int c1), (.int c2), (.int ln), (.int ks), (.int kc)] h0 (own_Q0 n0) := by
  refine own_bodyW (ls := #[.val (.int c0), .val (.int c1), .val (.int c2), .val (.int ln), .val (.int ks), .val (.int kc), .unset, .unset, .unset, .unset, .unset, .unset]) pn_0 (fun m => by first | (simp [entryFrame, mkF, argsToLocals, Value.category, maxLocals]; done) | rfl) ?_
  intro p e s m below meth c T0 hZ hx hby hml hown hnm hret hlk X0 e0
  replace hml : c.maxLocals = 12 := hml
  have N0 := Fr.nil n0
  have wS : ∀ a ∈ Bundle.stringAtoms, a.before a0 Z = true := by
    intro a ha
    simp only [Bundle.stringAtoms, List.mem_cons, List.not_mem_nil, or_false] at ha
    rcases ha with rfl | rfl | rfl | rfl | rfl | rfl | rfl
    all_goals first | exact (hw _ (List.mem_of_getElem? (i := 5) rfl)) | exact (hw _ (List.mem_of_getElem? (i := 4) rfl)) | exact (hw _ (List.mem_of_getElem? (i := 21) rfl)) | exact (hw _ (List.mem_of_getElem? (i := 31) rfl)) | exact (hw _ (List.mem_of_getElem? (i := 29) rfl)) | exact (hw _ (List.mem_of_getElem? (i := 37) rfl)) | exact (hw _ (List.mem_of_getElem? (i := 38) rfl))
  have J : ∀ (n : Nat) (a : Addr) (ka : ClassId) (cs : List Int32) (T : State) (hT : Heap) (lc : List Loc), 1 ≤ n → n ≤ 3 → Stand p l e room_1 s m #[(.int c0), (.int c1), (.int c2), (.int ln), (.int ks), (.int kc)] below meth c T lc 1 3 → T.heap = hT → Fr n0 lc → Old Z n0 hT → n0 ≤ hT.size → Arv Z hT a ka .char (Int32.ofNat n) (cs.map Value.int) (.int 0) → (∀ i, own_cx (cs.getD i 0)) → own_R p.tables e below (own_EW s below (own_Q0 n0) (room_1).cells (room_1).slots) T (mkF m 55 #[.val (.int c0), .val (.int c1), .val (.int c2), .val (.int ln), .val (.int ks), .val (.int kc), .val (.int (Int32.ofNat n)), .val (.ref a), .unset, .unset, .unset, .unset] []) := by
    intro n a ka cs T hT lc h1n hn X eh NL OT ZT Ac hcs
    obtain ⟨T1, h1, X1, e1, E1, A1, D1, -, st1⟩ := newO X hx hZ hown (hw _ (List.mem_of_getElem? (i := 3) rfl)) (hw _ (List.mem_of_getElem? (i := 4) rfl)) (hw _ (List.mem_of_getElem? (i := 5) rfl)) eh (g := (mkF m 55 #[.val (.int c0), .val (.int c1), .val (.int c2), .val (.int ln), .val (.int ks), .val (.int kc), .val (.int (Int32.ofNat n)), .val (.ref a), .unset, .unset, .unset, .unset] [])) rfl (hb hby at_55) (by decide) (by decide)
    obtain ⟨a1, g1⟩ : ∃ z, z = hT.size := ⟨_, rfl⟩
    rw [← g1] at A1 D1 st1
    refine own_go st1 ?_
    show own_R p.tables e below _ T1 (mkF m 58 #[.val (.int c0), .val (.int c1), .val (.int c2), .val (.int ln), .val (.int ks), .val (.int kc), .val (.int (Int32.ofNat n)), .val (.ref a), .unset, .unset, .unset, .unset] [(.ref a1)])
    refine own_go (fun _ => XS.dup X1.here hx rfl (hb hby at_58) rfl rfl) ?_
    show own_R p.tables e below _ T1 (mkF m 59 #[.val (.int c0), .val (.int c1), .val (.int c2), .val (.int ln), .val (.int ks), .val (.int kc), .val (.int (Int32.ofNat n)), .val (.ref a), .unset, .unset, .unset, .unset] [(.ref a1), (.ref a1)])
    refine own_go (fun _ => XS.aload X1.here hx rfl (hb hby at_59) rfl rfl) ?_
    show own_R p.tables e below _ T1 (mkF m 61 #[.val (.int c0), .val (.int c1), .val (.int c2), .val (.int ln), .val (.int ks), .val (.int kc), .val (.int (Int32.ofNat n)), .val (.ref a), .unset, .unset, .unset, .unset] [(.ref a), (.ref a1), (.ref a1)])
    have la : a < hT.size := Ac.lt
    have nsa : a ≠ a1 := Ne.symm (own_ne (Nat.lt_of_lt_of_le la (Nat.le_of_eq g1.symm)))
    have Z1 : n0 ≤ h1.size := Nat.le_trans ZT E1.1
    have gs : n0 ≤ a1 := by omega
    obtain ⟨v2, T2, L2, X2, Q2, st2⟩ := own_callI X1 hx hZ hown (y := (⟨"java/lang/String", "<init>", "([C)V"⟩ : MethodName)) rfl (hw _ (List.mem_of_getElem? (i := 6) rfl)) (hw _ (List.mem_of_getElem? (i := 7) rfl)) (hw _ (List.mem_of_getElem? (i := 8) rfl)) (hw _ (List.mem_of_getElem? (i := 5) rfl)) (by decide) (rmI1 l Z a0 hw [] h1 n0 zc O1 hzc O2 O3 O4  (OT.ext E1) a ka n cs (Ac.ext E1) hn Z1 a1 gs A1 (D1 (Or.inr (hw _ (List.mem_of_getElem? (i := 31) rfl))) (ty := (.array .byte)) (by decide)) (D1 (Or.inr (hw _ (List.mem_of_getElem? (i := 29) rfl))) (ty := .byte) (by decide)) nsa h1n hcs) (W := 1) (g := (mkF m 61 #[.val (.int c0), .val (.int c1), .val (.int c2), .val (.int ln), .val (.int ks), .val (.int kc), .val (.int (Int32.ofNat n)), .val (.ref a), .unset, .unset, .unset, .unset] [(.ref a), (.ref a1), (.ref a1)])) rfl (by rw [hml]; rfl) (a := a1) (argsL := [(.ref a)]) (rest := [(.ref a1)]) (lenOf pd___C_V rfl) rfl rfl (by show 2 * 0 + _ ≤ _; exact Nat.le_of_eq rfl) (hb hby at_61) e1 (by decide) (by decide) (by decide) (by decide)
    obtain ⟨rfl, N2q, K2, M2⟩ := Q2
    have N2 := Fr.app NL N2q
    have Od2 := (OT.ext E1).keep K2 (fun x hx => by cases List.mem_singleton.mp hx; exact gs)
    have Z2 : n0 ≤ T2.heap.size := Nat.le_trans Z1 K2.1
    refine own_go st2 ?_
    show own_R p.tables e below _ T2 (mkF m 64 #[.val (.int c0), .val (.int c1), .val (.int c2), .val (.int ln), .val (.int ks), .val (.int kc), .val (.int (Int32.ofNat n)), .val (.ref a), .unset, .unset, .unset, .unset] [(.ref a1)])
    obtain ⟨k, hk, qk⟩ := own_rem3 ks
    refine own_go (fun _ => XS.astore X2.here hx rfl (hb hby at_64) rfl rfl (l' := #[.val (.int c0), .val (.int c1), .val (.int c2), .val (.int ln), .val (.int ks), .val (.int kc), .val (.int (Int32.ofNat n)), .val (.ref a), .val (.ref a1), .unset, .unset, .unset]) rfl) ?_
    show own_R p.tables e below _ T2 (mkF m 66 #[.val (.int c0), .val (.int c1), .val (.int c2), .val (.int ln), .val (.int ks), .val (.int kc), .val (.int (Int32.ofNat n)), .val (.ref a), .val (.ref a1), .unset, .unset, .unset] [])
    refine own_go (fun _ => XS.iload X2.here hx rfl (hb hby at_66) rfl ) ?_
    show own_R p.tables e below _ T2 (mkF m 68 #[.val (.int c0), .val (.int c1), .val (.int c2), .val (.int ln), .val (.int ks), .val (.int kc), .val (.int (Int32.ofNat n)), .val (.ref a), .val (.ref a1), .unset, .unset, .unset] [(.int ks)])
    refine own_go (X2.ldcInt hx hown (mvT hZ (hw _ (List.mem_of_getElem? (i := 0) rfl))) (g := (mkF m 68 #[.val (.int c0), .val (.int c1), .val (.int c2), .val (.int ln), .val (.int ks), .val (.int kc), .val (.int (Int32.ofNat n)), .val (.ref a), .val (.ref a1), .unset, .unset, .unset] [(.int ks)])) rfl (hb hby at_68)) ?_
    show own_R p.tables e below _ T2 (mkF m 70 #[.val (.int c0), .val (.int c1), .val (.int c2), .val (.int ln), .val (.int ks), .val (.int kc), .val (.int (Int32.ofNat n)), .val (.ref a), .val (.ref a1), .unset, .unset, .unset] [(.int (2147483647 : Int32)), (.int ks)])
    refine own_go (fun _ => XS.iand X2.here hx rfl (hb hby at_70) rfl) ?_
    show own_R p.tables e below _ T2 (mkF m 71 #[.val (.int c0), .val (.int c1), .val (.int c2), .val (.int ln), .val (.int ks), .val (.int kc), .val (.int (Int32.ofNat n)), .val (.ref a), .val (.ref a1), .unset, .unset, .unset] [(.int (ks &&& (2147483647 : Int32)))])
    refine own_go (fun _ => XS.iconst X2.here hx rfl (hb hby at_71)) ?_
    show own_R p.tables e below _ T2 (mkF m 72 #[.val (.int c0), .val (.int c1), .val (.int c2), .val (.int ln), .val (.int ks), .val (.int kc), .val (.int (Int32.ofNat n)), .val (.ref a), .val (.ref a1), .unset, .unset, .unset] [(.int (3 : Int32)), (.int (ks &&& (2147483647 : Int32)))])
    refine own_go (fun _ => iremM (g := (mkF m 72 #[.val (.int c0), .val (.int c1), .val (.int c2), .val (.int ln), .val (.int ks), .val (.int kc), .val (.int (Int32.ofNat n)), .val (.ref a), .val (.ref a1), .unset, .unset, .unset] [(.int (3 : Int32)), (.int (ks &&& (2147483647 : Int32)))])) X2 hx rfl (hb hby at_72) rfl (by decide)) ?_
    show own_R p.tables e below _ T2 (mkF m 73 #[.val (.int c0), .val (.int c1), .val (.int c2), .val (.int ln), .val (.int ks), .val (.int kc), .val (.int (Int32.ofNat n)), .val (.ref a), .val (.ref a1), .unset, .unset, .unset] [(.int ((ks &&& (2147483647 : Int32)) % (3 : Int32)))])
    rw [qk]
    show own_R p.tables e below _ T2 (mkF m 73 #[.val (.int c0), .val (.int c1), .val (.int c2), .val (.int ln), .val (.int ks), .val (.int kc), .val (.int (Int32.ofNat n)), .val (.ref a), .val (.ref a1), .unset, .unset, .unset] [(.int (Int32.ofNat k))])
    obtain rfl | rfl | rfl : k = 0 ∨ k = 1 ∨ k = 2 := by omega
    · show own_R p.tables e below _ T2 (mkF m 73 #[.val (.int c0), .val (.int c1), .val (.int c2), .val (.int ln), .val (.int ks), .val (.int kc), .val (.int (Int32.ofNat n)), .val (.ref a), .val (.ref a1), .unset, .unset, .unset] [(.int (Int32.ofNat 0))])
      refine own_go (fun _ => XS.istore X2.here hx rfl (hb hby at_73) rfl (l' := #[.val (.int c0), .val (.int c1), .val (.int c2), .val (.int ln), .val (.int ks), .val (.int kc), .val (.int (Int32.ofNat n)), .val (.ref a), .val (.ref a1), .val (.int (Int32.ofNat 0)), .unset, .unset]) rfl) ?_
      show own_R p.tables e below _ T2 (mkF m 75 #[.val (.int c0), .val (.int c1), .val (.int c2), .val (.int ln), .val (.int ks), .val (.int kc), .val (.int (Int32.ofNat n)), .val (.ref a), .val (.ref a1), .val (.int (Int32.ofNat 0)), .unset, .unset] [])
      refine own_go (fun _ => XS.iload X2.here hx rfl (hb hby at_75) rfl ) ?_
      show own_R p.tables e below _ T2 (mkF m 77 #[.val (.int c0), .val (.int c1), .val (.int c2), .val (.int ln), .val (.int ks), .val (.int kc), .val (.int (Int32.ofNat n)), .val (.ref a), .val (.ref a1), .val (.int (Int32.ofNat 0)), .unset, .unset] [(.int (Int32.ofNat 0))])
      refine own_go (fun _ => XS.ifNo X2.here hx rfl (hb hby at_77) rfl ((if0 _ _).trans (teq (rfl : (Int32.ofNat 0) = (0 : Int32))).2)) ?_
      show own_R p.tables e below _ T2 (mkF m 80 #[.val (.int c0), .val (.int c1), .val (.int c2), .val (.int ln), .val (.int ks), .val (.int kc), .val (.int (Int32.ofNat n)), .val (.ref a), .val (.ref a1), .val (.int (Int32.ofNat 0)), .unset, .unset] [])
      refine own_go (fun _ => XS.aconstNull X2.here hx rfl (hb hby at_80)) ?_
      show own_R p.tables e below _ T2 (mkF m 81 #[.val (.int c0), .val (.int c1), .val (.int c2), .val (.int ln), .val (.int ks), .val (.int kc), .val (.int (Int32.ofNat n)), .val (.ref a), .val (.ref a1), .val (.int (Int32.ofNat 0)), .unset, .unset] [.null])
      refine own_go (fun _ => XS.astore X2.here hx rfl (hb hby at_81) rfl rfl (l' := #[.val (.int c0), .val (.int c1), .val (.int c2), .val (.int ln), .val (.int ks), .val (.int kc), .val (.int (Int32.ofNat n)), .val (.ref a), .val (.ref a1), .val (.int (Int32.ofNat 0)), .val .null, .unset]) rfl) ?_
      show own_R p.tables e below _ T2 (mkF m 83 #[.val (.int c0), .val (.int c1), .val (.int c2), .val (.int ln), .val (.int ks), .val (.int kc), .val (.int (Int32.ofNat n)), .val (.ref a), .val (.ref a1), .val (.int (Int32.ofNat 0)), .val .null, .unset] [])
      refine own_go (fun _ => XS.goto X2.here hx rfl (pc0 := 83) (pc' := 110) rfl (hb hby at_83) (by decide) (by decide)) ?_
      show own_R p.tables e below _ T2 (mkF m 110 #[.val (.int c0), .val (.int c1), .val (.int c2), .val (.int ln), .val (.int ks), .val (.int kc), .val (.int (Int32.ofNat n)), .val (.ref a), .val (.ref a1), .val (.int (Int32.ofNat 0)), .val .null, .unset] [])
      refine own_go (fun _ => XS.aload X2.here hx rfl (hb hby at_110) rfl rfl) ?_
      show own_R p.tables e below _ T2 (mkF m 112 #[.val (.int c0), .val (.int c1), .val (.int c2), .val (.int ln), .val (.int ks), .val (.int kc), .val (.int (Int32.ofNat n)), .val (.ref a), .val (.ref a1), .val (.int (Int32.ofNat 0)), .val .null, .unset] [(.ref a1)])
      refine own_go (fun _ => XS.aload X2.here hx rfl (hb hby at_112) rfl rfl) ?_
      show own_R p.tables e below _ T2 (mkF m 114 #[.val (.int c0), .val (.int c1), .val (.int c2), .val (.int ln), .val (.int ks), .val (.int kc), .val (.int (Int32.ofNat n)), .val (.ref a), .val (.ref a1), .val (.int (Int32.ofNat 0)), .val .null, .unset] [.null, (.ref a1)])
      obtain ⟨v6, T6, L6, X6, S6, z6, Q6, hZ6, hown6, st6⟩ := own_callSW X2 hx hZ hown (y := (⟨"com/example/cerrojo/cerrojo/lock/Keys", "checkName", "(Ljava/lang/String;Ljava/lang/String;)Ljava/lang/String;"⟩ : MethodName)) (hw _ (List.mem_of_getElem? (i := 32) rfl)) (hw _ (List.mem_of_getElem? (i := 33) rfl)) (hw _ (List.mem_of_getElem? (i := 34) rfl)) (hw _ (List.mem_of_getElem? (i := 35) rfl)) (by decide) (rmCKn l Z a0 hw [] T2.heap n0 a1 M2) (W := 0) (g := (mkF m 114 #[.val (.int c0), .val (.int c1), .val (.int c2), .val (.int ln), .val (.int ks), .val (.int kc), .val (.int (Int32.ofNat n)), .val (.ref a), .val (.ref a1), .val (.int (Int32.ofNat 0)), .val .null, .unset] [.null, (.ref a1)])) rfl (by rw [hml]; rfl) (argsL := [(.ref a1), .null]) (rest := []) (lenOf pd__Ljava_lang_String_Ljava_lang_String__Ljava_lang_String_ rfl) rfl rfl (by show 2 * 0 + _ ≤ _; exact Nat.le_of_eq rfl) (hb hby at_114) rfl (by decide) (by decide) (by decide) (by decide)
      obtain ⟨rfl, N6q⟩ := Q6
      have N6 := Fr.app N2 N6q
      refine own_go st6 ?_
      show own_R p.tables e below _ T6 (mkF m 117 #[.val (.int c0), .val (.int c1), .val (.int c2), .val (.int ln), .val (.int ks), .val (.int kc), .val (.int (Int32.ofNat n)), .val (.ref a), .val (.ref a1), .val (.int (Int32.ofNat 0)), .val .null, .unset] [(.ref a1)])
      refine own_go (fun _ => XS.astore X6.here hx rfl (hb hby at_117) rfl rfl (l' := #[.val (.int c0), .val (.int c1), .val (.int c2), .val (.int ln), .val (.int ks), .val (.int kc), .val (.int (Int32.ofNat n)), .val (.ref a), .val (.ref a1), .val (.int (Int32.ofNat 0)), .val .null, .val (.ref a1)]) rfl) ?_
      show own_R p.tables e below _ T6 (mkF m 119 #[.val (.int c0), .val (.int c1), .val (.int c2), .val (.int ln), .val (.int ks), .val (.int kc), .val (.int (Int32.ofNat n)), .val (.ref a), .val (.ref a1), .val (.int (Int32.ofNat 0)), .val .null, .val (.ref a1)] [])
      refine own_go (fun _ => XS.aload X6.here hx rfl (hb hby at_119) rfl rfl) ?_
      show own_R p.tables e below _ T6 (mkF m 121 #[.val (.int c0), .val (.int c1), .val (.int c2), .val (.int ln), .val (.int ks), .val (.int kc), .val (.int (Int32.ofNat n)), .val (.ref a), .val (.ref a1), .val (.int (Int32.ofNat 0)), .val .null, .val (.ref a1)] [(.ref a1)])
      refine own_go (fun _ => XS.aload X6.here hx rfl (hb hby at_121) rfl rfl) ?_
      show own_R p.tables e below _ T6 (mkF m 123 #[.val (.int c0), .val (.int c1), .val (.int c2), .val (.int ln), .val (.int ks), .val (.int kc), .val (.int (Int32.ofNat n)), .val (.ref a), .val (.ref a1), .val (.int (Int32.ofNat 0)), .val .null, .val (.ref a1)] [(.ref a1), (.ref a1)])
      refine own_go (fun _ => Jvm.RoadKit.acmp (g := (mkF m 123 #[.val (.int c0), .val (.int c1), .val (.int c2), .val (.int ln), .val (.int ks), .val (.int kc), .val (.int (Int32.ofNat n)), .val (.ref a), .val (.ref a1), .val (.int (Int32.ofNat 0)), .val .null, .val (.ref a1)] [(.ref a1), (.ref a1)])) X6 hx rfl rfl rfl (pc0 := 123) (pc' := 126) (same := true) rfl (hb hby at_123) rfl (decide_eq_true rfl) (by decide) (by decide)) ?_
      show own_R p.tables e below _ T6 (mkF m 126 #[.val (.int c0), .val (.int c1), .val (.int c2), .val (.int ln), .val (.int ks), .val (.int kc), .val (.int (Int32.ofNat n)), .val (.ref a), .val (.ref a1), .val (.int (Int32.ofNat 0)), .val .null, .val (.ref a1)] [])
      refine own_go (fun _ => XS.iconst X6.here hx rfl (hb hby at_126)) ?_
      show own_R p.tables e below _ T6 (mkF m 127 #[.val (.int c0), .val (.int c1), .val (.int c2), .val (.int ln), .val (.int ks), .val (.int kc), .val (.int (Int32.ofNat n)), .val (.ref a), .val (.ref a1), .val (.int (Int32.ofNat 0)), .val .null, .val (.ref a1)] [(.int (1 : Int32))])
      refine own_go (fun _ => XS.goto X6.here hx rfl (pc0 := 127) (pc' := 131) rfl (hb hby at_127) (by decide) (by decide)) ?_
      show own_R p.tables e below _ T6 (mkF m 131 #[.val (.int c0), .val (.int c1), .val (.int c2), .val (.int ln), .val (.int ks), .val (.int kc), .val (.int (Int32.ofNat n)), .val (.ref a), .val (.ref a1), .val (.int (Int32.ofNat 0)), .val .null, .val (.ref a1)] [(.int (1 : Int32))])
      have SS : s.Since T6.vm T6.heap.size := S6
      exact own_endW (s := s) (vm0 := T6.vm) X6 SS (Nat.le_refl _) (some (.int (1 : Int32))) (fun h => by rw [hret] at h; cases h) hlk (fun fs hr => retN X6 hx (t := .boolean) hret (by simp) (hb hby at_131) hr) ⟨rfl, N6⟩ (by decide) (by decide)
    · show own_R p.tables e below _ T2 (mkF m 73 #[.val (.int c0), .val (.int c1), .val (.int c2), .val (.int ln), .val (.int ks), .val (.int kc), .val (.int (Int32.ofNat n)), .val (.ref a), .val (.ref a1), .unset, .unset, .unset] [(.int (Int32.ofNat 1))])
      refine own_go (fun _ => XS.istore X2.here hx rfl (hb hby at_73) rfl (l' := #[.val (.int c0), .val (.int c1), .val (.int c2), .val (.int ln), .val (.int ks), .val (.int kc), .val (.int (Int32.ofNat n)), .val (.ref a), .val (.ref a1), .val (.int (Int32.ofNat 1)), .unset, .unset]) rfl) ?_
      show own_R p.tables e below _ T2 (mkF m 75 #[.val (.int c0), .val (.int c1), .val (.int c2), .val (.int ln), .val (.int ks), .val (.int kc), .val (.int (Int32.ofNat n)), .val (.ref a), .val (.ref a1), .val (.int (Int32.ofNat 1)), .unset, .unset] [])
      refine own_go (fun _ => XS.iload X2.here hx rfl (hb hby at_75) rfl ) ?_
      show own_R p.tables e below _ T2 (mkF m 77 #[.val (.int c0), .val (.int c1), .val (.int c2), .val (.int ln), .val (.int ks), .val (.int kc), .val (.int (Int32.ofNat n)), .val (.ref a), .val (.ref a1), .val (.int (Int32.ofNat 1)), .unset, .unset] [(.int (Int32.ofNat 1))])
      refine own_go (fun _ => XS.ifYes X2.here hx rfl (pc0 := 77) (pc' := 86) rfl (hb hby at_77) rfl ((if0 _ _).trans (feq (by decide : ¬ ((Int32.ofNat 1) = (0 : Int32)))).2) (by decide) (by decide)) ?_
      show own_R p.tables e below _ T2 (mkF m 86 #[.val (.int c0), .val (.int c1), .val (.int c2), .val (.int ln), .val (.int ks), .val (.int kc), .val (.int (Int32.ofNat n)), .val (.ref a), .val (.ref a1), .val (.int (Int32.ofNat 1)), .unset, .unset] [])
      refine own_go (fun _ => XS.iload X2.here hx rfl (hb hby at_86) rfl ) ?_
      show own_R p.tables e below _ T2 (mkF m 88 #[.val (.int c0), .val (.int c1), .val (.int c2), .val (.int ln), .val (.int ks), .val (.int kc), .val (.int (Int32.ofNat n)), .val (.ref a), .val (.ref a1), .val (.int (Int32.ofNat 1)), .unset, .unset] [(.int (Int32.ofNat 1))])
      refine own_go (fun _ => XS.iconst X2.here hx rfl (hb hby at_88)) ?_
      show own_R p.tables e below _ T2 (mkF m 89 #[.val (.int c0), .val (.int c1), .val (.int c2), .val (.int ln), .val (.int ks), .val (.int kc), .val (.int (Int32.ofNat n)), .val (.ref a), .val (.ref a1), .val (.int (Int32.ofNat 1)), .unset, .unset] [(.int (1 : Int32)), (.int (Int32.ofNat 1))])
      refine own_go (fun _ => XS.icmpNo X2.here hx rfl (hb hby at_89) rfl (teq (rfl : (Int32.ofNat 1) = (1 : Int32))).2) ?_
      show own_R p.tables e below _ T2 (mkF m 92 #[.val (.int c0), .val (.int c1), .val (.int c2), .val (.int ln), .val (.int ks), .val (.int kc), .val (.int (Int32.ofNat n)), .val (.ref a), .val (.ref a1), .val (.int (Int32.ofNat 1)), .unset, .unset] [])
      obtain ⟨a5, T5, h5, X5, e5, E5, S5, hZ, hown, st5⟩ := own_ldc X2 hx hZ hown (hw _ (List.mem_of_getElem? (i := 62) rfl)) wS rfl (g := (mkF m 92 #[.val (.int c0), .val (.int c1), .val (.int c2), .val (.int ln), .val (.int ks), .val (.int kc), .val (.int (Int32.ofNat n)), .val (.ref a), .val (.ref a1), .val (.int (Int32.ofNat 1)), .unset, .unset] [])) rfl (hb hby at_92) (n := 0) (by decide) (by decide) (by decide) (by decide)
      refine own_go st5 ?_
      show own_R p.tables e below _ T5 (mkF m 94 #[.val (.int c0), .val (.int c1), .val (.int c2), .val (.int ln), .val (.int ks), .val (.int kc), .val (.int (Int32.ofNat n)), .val (.ref a), .val (.ref a1), .val (.int (Int32.ofNat 1)), .unset, .unset] [(.ref a5)])
      refine own_go (fun _ => XS.astore X5.here hx rfl (hb hby at_94) rfl rfl (l' := #[.val (.int c0), .val (.int c1), .val (.int c2), .val (.int ln), .val (.int ks), .val (.int kc), .val (.int (Int32.ofNat n)), .val (.ref a), .val (.ref a1), .val (.int (Int32.ofNat 1)), .val (.ref a5), .unset]) rfl) ?_
      show own_R p.tables e below _ T5 (mkF m 96 #[.val (.int c0), .val (.int c1), .val (.int c2), .val (.int ln), .val (.int ks), .val (.int kc), .val (.int (Int32.ofNat n)), .val (.ref a), .val (.ref a1), .val (.int (Int32.ofNat 1)), .val (.ref a5), .unset] [])
      refine own_go (fun _ => XS.goto X5.here hx rfl (pc0 := 96) (pc' := 110) rfl (hb hby at_96) (by decide) (by decide)) ?_
      show own_R p.tables e below _ T5 (mkF m 110 #[.val (.int c0), .val (.int c1), .val (.int c2), .val (.int ln), .val (.int ks), .val (.int kc), .val (.int (Int32.ofNat n)), .val (.ref a), .val (.ref a1), .val (.int (Int32.ofNat 1)), .val (.ref a5), .unset] [])
      refine own_go (fun _ => XS.aload X5.here hx rfl (hb hby at_110) rfl rfl) ?_
      show own_R p.tables e below _ T5 (mkF m 112 #[.val (.int c0), .val (.int c1), .val (.int c2), .val (.int ln), .val (.int ks), .val (.int kc), .val (.int (Int32.ofNat n)), .val (.ref a), .val (.ref a1), .val (.int (Int32.ofNat 1)), .val (.ref a5), .unset] [(.ref a1)])
      refine own_go (fun _ => XS.aload X5.here hx rfl (hb hby at_112) rfl rfl) ?_
      show own_R p.tables e below _ T5 (mkF m 114 #[.val (.int c0), .val (.int c1), .val (.int c2), .val (.int ln), .val (.int ks), .val (.int kc), .val (.int (Int32.ofNat n)), .val (.ref a), .val (.ref a1), .val (.int (Int32.ofNat 1)), .val (.ref a5), .unset] [(.ref a5), (.ref a1)])
      obtain ⟨v6, T6, L6, X6, S6, z6, Q6, hZ6, hown6, st6⟩ := own_callSW X5 hx hZ hown (y := (⟨"com/example/cerrojo/cerrojo/lock/Keys", "checkName", "(Ljava/lang/String;Ljava/lang/String;)Ljava/lang/String;"⟩ : MethodName)) (hw _ (List.mem_of_getElem? (i := 32) rfl)) (hw _ (List.mem_of_getElem? (i := 33) rfl)) (hw _ (List.mem_of_getElem? (i := 34) rfl)) (hw _ (List.mem_of_getElem? (i := 35) rfl)) (by decide) (rmCKr l Z a0 hw [] h5 n0 a1 a5 (M2.ext E5)) (W := 0) (g := (mkF m 114 #[.val (.int c0), .val (.int c1), .val (.int c2), .val (.int ln), .val (.int ks), .val (.int kc), .val (.int (Int32.ofNat n)), .val (.ref a), .val (.ref a1), .val (.int (Int32.ofNat 1)), .val (.ref a5), .unset] [(.ref a5), (.ref a1)])) rfl (by rw [hml]; rfl) (argsL := [(.ref a1), (.ref a5)]) (rest := []) (lenOf pd__Ljava_lang_String_Ljava_lang_String__Ljava_lang_String_ rfl) rfl rfl (by show 2 * 0 + _ ≤ _; exact Nat.le_of_eq rfl) (hb hby at_114) e5 (by decide) (by decide) (by decide) (by decide)
      obtain ⟨rfl, N6q⟩ := Q6
      have N6 := Fr.app N2 N6q
      refine own_go st6 ?_
      show own_R p.tables e below _ T6 (mkF m 117 #[.val (.int c0), .val (.int c1), .val (.int c2), .val (.int ln), .val (.int ks), .val (.int kc), .val (.int (Int32.ofNat n)), .val (.ref a), .val (.ref a1), .val (.int (Int32.ofNat 1)), .val (.ref a5), .unset] [(.ref a1)])
      refine own_go (fun _ => XS.astore X6.here hx rfl (hb hby at_117) rfl rfl (l' := #[.val (.int c0), .val (.int c1), .val (.int c2), .val (.int ln), .val (.int ks), .val (.int kc), .val (.int (Int32.ofNat n)), .val (.ref a), .val (.ref a1), .val (.int (Int32.ofNat 1)), .val (.ref a5), .val (.ref a1)]) rfl) ?_
      show own_R p.tables e below _ T6 (mkF m 119 #[.val (.int c0), .val (.int c1), .val (.int c2), .val (.int ln), .val (.int ks), .val (.int kc), .val (.int (Int32.ofNat n)), .val (.ref a), .val (.ref a1), .val (.int (Int32.ofNat 1)), .val (.ref a5), .val (.ref a1)] [])
      refine own_go (fun _ => XS.aload X6.here hx rfl (hb hby at_119) rfl rfl) ?_
      show own_R p.tables e below _ T6 (mkF m 121 #[.val (.int c0), .val (.int c1), .val (.int c2), .val (.int ln), .val (.int ks), .val (.int kc), .val (.int (Int32.ofNat n)), .val (.ref a), .val (.ref a1), .val (.int (Int32.ofNat 1)), .val (.ref a5), .val (.ref a1)] [(.ref a1)])
      refine own_go (fun _ => XS.aload X6.here hx rfl (hb hby at_121) rfl rfl) ?_
      show own_R p.tables e below _ T6 (mkF m 123 #[.val (.int c0), .val (.int c1), .val (.int c2), .val (.int ln), .val (.int ks), .val (.int kc), .val (.int (Int32.ofNat n)), .val (.ref a), .val (.ref a1), .val (.int (Int32.ofNat 1)), .val (.ref a5), .val (.ref a1)] [(.ref a1), (.ref a1)])
      refine own_go (fun _ => Jvm.RoadKit.acmp (g := (mkF m 123 #[.val (.int c0), .val (.int c1), .val (.int c2), .val (.int ln), .val (.int ks), .val (.int kc), .val (.int (Int32.ofNat n)), .val (.ref a), .val (.ref a1), .val (.int (Int32.ofNat 1)), .val (.ref a5), .val (.ref a1)] [(.ref a1), (.ref a1)])) X6 hx rfl rfl rfl (pc0 := 123) (pc' := 126) (same := true) rfl (hb hby at_123) rfl (decide_eq_true rfl) (by decide) (by decide)) ?_
      show own_R p.tables e below _ T6 (mkF m 126 #[.val (.int c0), .val (.int c1), .val (.int c2), .val (.int ln), .val (.int ks), .val (.int kc), .val (.int (Int32.ofNat n)), .val (.ref a), .val (.ref a1), .val (.int (Int32.ofNat 1)), .val (.ref a5), .val (.ref a1)] [])
      refine own_go (fun _ => XS.iconst X6.here hx rfl (hb hby at_126)) ?_
      show own_R p.tables e below _ T6 (mkF m 127 #[.val (.int c0), .val (.int c1), .val (.int c2), .val (.int ln), .val (.int ks), .val (.int kc), .val (.int (Int32.ofNat n)), .val (.ref a), .val (.ref a1), .val (.int (Int32.ofNat 1)), .val (.ref a5), .val (.ref a1)] [(.int (1 : Int32))])
      refine own_go (fun _ => XS.goto X6.here hx rfl (pc0 := 127) (pc' := 131) rfl (hb hby at_127) (by decide) (by decide)) ?_
      show own_R p.tables e below _ T6 (mkF m 131 #[.val (.int c0), .val (.int c1), .val (.int c2), .val (.int ln), .val (.int ks), .val (.int kc), .val (.int (Int32.ofNat n)), .val (.ref a), .val (.ref a1), .val (.int (Int32.ofNat 1)), .val (.ref a5), .val (.ref a1)] [(.int (1 : Int32))])
      have SS : s.Since T6.vm T6.heap.size := S5.trans S6 z6
      exact own_endW (s := s) (vm0 := T6.vm) X6 SS (Nat.le_refl _) (some (.int (1 : Int32))) (fun h => by rw [hret] at h; cases h) hlk (fun fs hr => retN X6 hx (t := .boolean) hret (by simp) (hb hby at_131) hr) ⟨rfl, N6⟩ (by decide) (by decide)
    · show own_R p.tables e below _ T2 (mkF m 73 #[.val (.int c0), .val (.int c1), .val (.int c2), .val (.int ln), .val (.int ks), .val (.int kc), .val (.int (Int32.ofNat n)), .val (.ref a), .val (.ref a1), .unset, .unset, .unset] [(.int (Int32.ofNat 2))])
      refine own_go (fun _ => XS.istore X2.here hx rfl (hb hby at_73) rfl (l' := #[.val (.int c0), .val (.int c1), .val (.int c2), .val (.int ln), .val (.int ks), .val (.int kc), .val (.int (Int32.ofNat n)), .val (.ref a), .val (.ref a1), .val (.int (Int32.ofNat 2)), .unset, .unset]) rfl) ?_
      show own_R p.tables e below _ T2 (mkF m 75 #[.val (.int c0), .val (.int c1), .val (.int c2), .val (.int ln), .val (.int ks), .val (.int kc), .val (.int (Int32.ofNat n)), .val (.ref a), .val (.ref a1), .val (.int (Int32.ofNat 2)), .unset, .unset] [])
      refine own_go (fun _ => XS.iload X2.here hx rfl (hb hby at_75) rfl ) ?_
      show own_R p.tables e below _ T2 (mkF m 77 #[.val (.int c0), .val (.int c1), .val (.int c2), .val (.int ln), .val (.int ks), .val (.int kc), .val (.int (Int32.ofNat n)), .val (.ref a), .val (.ref a1), .val (.int (Int32.ofNat 2)), .unset, .unset] [(.int (Int32.ofNat 2))])
      refine own_go (fun _ => XS.ifYes X2.here hx rfl (pc0 := 77) (pc' := 86) rfl (hb hby at_77) rfl ((if0 _ _).trans (feq (by decide : ¬ ((Int32.ofNat 2) = (0 : Int32)))).2) (by decide) (by decide)) ?_
      show own_R p.tables e below _ T2 (mkF m 86 #[.val (.int c0), .val (.int c1), .val (.int c2), .val (.int ln), .val (.int ks), .val (.int kc), .val (.int (Int32.ofNat n)), .val (.ref a), .val (.ref a1), .val (.int (Int32.ofNat 2)), .unset, .unset] [])
      refine own_go (fun _ => XS.iload X2.here hx rfl (hb hby at_86) rfl ) ?_
      show own_R p.tables e below _ T2 (mkF m 88 #[.val (.int c0), .val (.int c1), .val (.int c2), .val (.int ln), .val (.int ks), .val (.int kc), .val (.int (Int32.ofNat n)), .val (.ref a), .val (.ref a1), .val (.int (Int32.ofNat 2)), .unset, .unset] [(.int (Int32.ofNat 2))])
      refine own_go (fun _ => XS.iconst X2.here hx rfl (hb hby at_88)) ?_
      show own_R p.tables e below _ T2 (mkF m 89 #[.val (.int c0), .val (.int c1), .val (.int c2), .val (.int ln), .val (.int ks), .val (.int kc), .val (.int (Int32.ofNat n)), .val (.ref a), .val (.ref a1), .val (.int (Int32.ofNat 2)), .unset, .unset] [(.int (1 : Int32)), (.int (Int32.ofNat 2))])
      refine own_go (fun _ => XS.icmpYes X2.here hx rfl (pc0 := 89) (pc' := 99) rfl (hb hby at_89) rfl (feq (by decide : ¬ ((Int32.ofNat 2) = (1 : Int32)))).2 (by decide) (by decide)) ?_
      show own_R p.tables e below _ T2 (mkF m 99 #[.val (.int c0), .val (.int c1), .val (.int c2), .val (.int ln), .val (.int ks), .val (.int kc), .val (.int (Int32.ofNat n)), .val (.ref a), .val (.ref a1), .val (.int (Int32.ofNat 2)), .unset, .unset] [])
      refine own_go (fun _ => XS.iload X2.here hx rfl (hb hby at_99) rfl ) ?_
      show own_R p.tables e below _ T2 (mkF m 101 #[.val (.int c0), .val (.int c1), .val (.int c2), .val (.int ln), .val (.int ks), .val (.int kc), .val (.int (Int32.ofNat n)), .val (.ref a), .val (.ref a1), .val (.int (Int32.ofNat 2)), .unset, .unset] [(.int kc)])
      refine own_go (X2.ldcInt hx hown (mvT hZ (hw _ (List.mem_of_getElem? (i := 2) rfl))) (g := (mkF m 101 #[.val (.int c0), .val (.int c1), .val (.int c2), .val (.int ln), .val (.int ks), .val (.int kc), .val (.int (Int32.ofNat n)), .val (.ref a), .val (.ref a1), .val (.int (Int32.ofNat 2)), .unset, .unset] [(.int kc)])) rfl (hb hby at_101)) ?_
      show own_R p.tables e below _ T2 (mkF m 103 #[.val (.int c0), .val (.int c1), .val (.int c2), .val (.int ln), .val (.int ks), .val (.int kc), .val (.int (Int32.ofNat n)), .val (.ref a), .val (.ref a1), .val (.int (Int32.ofNat 2)), .unset, .unset] [(.int (65535 : Int32)), (.int kc)])
      refine own_go (fun _ => XS.iand X2.here hx rfl (hb hby at_103) rfl) ?_
      show own_R p.tables e below _ T2 (mkF m 104 #[.val (.int c0), .val (.int c1), .val (.int c2), .val (.int ln), .val (.int ks), .val (.int kc), .val (.int (Int32.ofNat n)), .val (.ref a), .val (.ref a1), .val (.int (Int32.ofNat 2)), .unset, .unset] [(.int (kc &&& (65535 : Int32)))])
      refine own_go (fun _ => XS.i2c X2.here hx rfl (hb hby at_104) rfl) ?_
      show own_R p.tables e below _ T2 (mkF m 105 #[.val (.int c0), .val (.int c1), .val (.int c2), .val (.int ln), .val (.int ks), .val (.int kc), .val (.int (Int32.ofNat n)), .val (.ref a), .val (.ref a1), .val (.int (Int32.ofNat 2)), .unset, .unset] [(.int ((kc &&& (65535 : Int32)).toUInt32.toUInt16.toUInt32.toInt32))])
      obtain ⟨v5, T5, L5, X5, Q5, st5⟩ := own_callS X2 hx hZ hown (y := (⟨"java/lang/String", "valueOf", "(C)Ljava/lang/String;"⟩ : MethodName)) (hw _ (List.mem_of_getElem? (i := 48) rfl)) (hw _ (List.mem_of_getElem? (i := 49) rfl)) (hw _ (List.mem_of_getElem? (i := 5) rfl)) (hw _ (List.mem_of_getElem? (i := 50) rfl)) (by decide) (rmVO l Z a0 hw [] T2.heap n0 zc O1 hzc O2 O3 O4  Od2 ((kc &&& (65535 : Int32)).toUInt32.toUInt16.toUInt32.toInt32) Z2) (W := 0) (g := (mkF m 105 #[.val (.int c0), .val (.int c1), .val (.int c2), .val (.int ln), .val (.int ks), .val (.int kc), .val (.int (Int32.ofNat n)), .val (.ref a), .val (.ref a1), .val (.int (Int32.ofNat 2)), .unset, .unset] [(.int ((kc &&& (65535 : Int32)).toUInt32.toUInt16.toUInt32.toInt32))])) rfl (by rw [hml]; rfl) (argsL := [(.int ((kc &&& (65535 : Int32)).toUInt32.toUInt16.toUInt32.toInt32))]) (rest := []) (lenOf pd__C_Ljava_lang_String_ rfl) rfl rfl (by show 2 * 0 + _ ≤ _; exact Nat.le_of_eq rfl) (hb hby at_105) rfl (by decide) (by decide) (by decide) (by decide)
      obtain ⟨b5, _, _, _, rfl, N5q, K5, -⟩ := Q5
      have N5 := Fr.app N2 N5q
      refine own_go st5 ?_
      show own_R p.tables e below _ T5 (mkF m 108 #[.val (.int c0), .val (.int c1), .val (.int c2), .val (.int ln), .val (.int ks), .val (.int kc), .val (.int (Int32.ofNat n)), .val (.ref a), .val (.ref a1), .val (.int (Int32.ofNat 2)), .unset, .unset] [(.ref b5)])
      refine own_go (fun _ => XS.astore X5.here hx rfl (hb hby at_108) rfl rfl (l' := #[.val (.int c0), .val (.int c1), .val (.int c2), .val (.int ln), .val (.int ks), .val (.int kc), .val (.int (Int32.ofNat n)), .val (.ref a), .val (.ref a1), .val (.int (Int32.ofNat 2)), .val (.ref b5), .unset]) rfl) ?_
      show own_R p.tables e below _ T5 (mkF m 110 #[.val (.int c0), .val (.int c1), .val (.int c2), .val (.int ln), .val (.int ks), .val (.int kc), .val (.int (Int32.ofNat n)), .val (.ref a), .val (.ref a1), .val (.int (Int32.ofNat 2)), .val (.ref b5), .unset] [])
      refine own_go (fun _ => XS.aload X5.here hx rfl (hb hby at_110) rfl rfl) ?_
      show own_R p.tables e below _ T5 (mkF m 112 #[.val (.int c0), .val (.int c1), .val (.int c2), .val (.int ln), .val (.int ks), .val (.int kc), .val (.int (Int32.ofNat n)), .val (.ref a), .val (.ref a1), .val (.int (Int32.ofNat 2)), .val (.ref b5), .unset] [(.ref a1)])
      refine own_go (fun _ => XS.aload X5.here hx rfl (hb hby at_112) rfl rfl) ?_
      show own_R p.tables e below _ T5 (mkF m 114 #[.val (.int c0), .val (.int c1), .val (.int c2), .val (.int ln), .val (.int ks), .val (.int kc), .val (.int (Int32.ofNat n)), .val (.ref a), .val (.ref a1), .val (.int (Int32.ofNat 2)), .val (.ref b5), .unset] [(.ref b5), (.ref a1)])
      obtain ⟨v6, T6, L6, X6, S6, z6, Q6, hZ6, hown6, st6⟩ := own_callSW X5 hx hZ hown (y := (⟨"com/example/cerrojo/cerrojo/lock/Keys", "checkName", "(Ljava/lang/String;Ljava/lang/String;)Ljava/lang/String;"⟩ : MethodName)) (hw _ (List.mem_of_getElem? (i := 32) rfl)) (hw _ (List.mem_of_getElem? (i := 33) rfl)) (hw _ (List.mem_of_getElem? (i := 34) rfl)) (hw _ (List.mem_of_getElem? (i := 35) rfl)) (by decide) (rmCKr l Z a0 hw [] T5.heap n0 a1 b5 (M2.keep K5)) (W := 0) (g := (mkF m 114 #[.val (.int c0), .val (.int c1), .val (.int c2), .val (.int ln), .val (.int ks), .val (.int kc), .val (.int (Int32.ofNat n)), .val (.ref a), .val (.ref a1), .val (.int (Int32.ofNat 2)), .val (.ref b5), .unset] [(.ref b5), (.ref a1)])) rfl (by rw [hml]; rfl) (argsL := [(.ref a1), (.ref b5)]) (rest := []) (lenOf pd__Ljava_lang_String_Ljava_lang_String__Ljava_lang_String_ rfl) rfl rfl (by show 2 * 0 + _ ≤ _; exact Nat.le_of_eq rfl) (hb hby at_114) rfl (by decide) (by decide) (by decide) (by decide)
      obtain ⟨rfl, N6q⟩ := Q6
      have N6 := Fr.app N5 N6q
      refine own_go st6 ?_
      show own_R p.tables e below _ T6 (mkF m 117 #[.val (.int c0), .val (.int c1), .val (.int c2), .val (.int ln), .val (.int ks), .val (.int kc), .val (.int (Int32.ofNat n)), .val (.ref a), .val (.ref a1), .val (.int (Int32.ofNat 2)), .val (.ref b5), .unset] [(.ref a1)])
      refine own_go (fun _ => XS.astore X6.here hx rfl (hb hby at_117) rfl rfl (l' := #[.val (.int c0), .val (.int c1), .val (.int c2), .val (.int ln), .val (.int ks), .val (.int kc), .val (.int (Int32.ofNat n)), .val (.ref a), .val (.ref a1), .val (.int (Int32.ofNat 2)), .val (.ref b5), .val (.ref a1)]) rfl) ?_
      show own_R p.tables e below _ T6 (mkF m 119 #[.val (.int c0), .val (.int c1), .val (.int c2), .val (.int ln), .val (.int ks), .val (.int kc), .val (.int (Int32.ofNat n)), .val (.ref a), .val (.ref a1), .val (.int (Int32.ofNat 2)), .val (.ref b5), .val (.ref a1)] [])
      refine own_go (fun _ => XS.aload X6.here hx rfl (hb hby at_119) rfl rfl) ?_
      show own_R p.tables e below _ T6 (mkF m 121 #[.val (.int c0), .val (.int c1), .val (.int c2), .val (.int ln), .val (.int ks), .val (.int kc), .val (.int (Int32.ofNat n)), .val (.ref a), .val (.ref a1), .val (.int (Int32.ofNat 2)), .val (.ref b5), .val (.ref a1)] [(.ref a1)])
      refine own_go (fun _ => XS.aload X6.here hx rfl (hb hby at_121) rfl rfl) ?_
      show own_R p.tables e below _ T6 (mkF m 123 #[.val (.int c0), .val (.int c1), .val (.int c2), .val (.int ln), .val (.int ks), .val (.int kc), .val (.int (Int32.ofNat n)), .val (.ref a), .val (.ref a1), .val (.int (Int32.ofNat 2)), .val (.ref b5), .val (.ref a1)] [(.ref a1), (.ref a1)])
      refine own_go (fun _ => Jvm.RoadKit.acmp (g := (mkF m 123 #[.val (.int c0), .val (.int c1), .val (.int c2), .val (.int ln), .val (.int ks), .val (.int kc), .val (.int (Int32.ofNat n)), .val (.ref a), .val (.ref a1), .val (.int (Int32.ofNat 2)), .val (.ref b5), .val (.ref a1)] [(.ref a1), (.ref a1)])) X6 hx rfl rfl rfl (pc0 := 123) (pc' := 126) (same := true) rfl (hb hby at_123) rfl (decide_eq_true rfl) (by decide) (by decide)) ?_
      show own_R p.tables e below _ T6 (mkF m 126 #[.val (.int c0), .val (.int c1), .val (.int c2), .val (.int ln), .val (.int ks), .val (.int kc), .val (.int (Int32.ofNat n)), .val (.ref a), .val (.ref a1), .val (.int (Int32.ofNat 2)), .val (.ref b5), .val (.ref a1)] [])
      refine own_go (fun _ => XS.iconst X6.here hx rfl (hb hby at_126)) ?_
      show own_R p.tables e below _ T6 (mkF m 127 #[.val (.int c0), .val (.int c1), .val (.int c2), .val (.int ln), .val (.int ks), .val (.int kc), .val (.int (Int32.ofNat n)), .val (.ref a), .val (.ref a1), .val (.int (Int32.ofNat 2)), .val (.ref b5), .val (.ref a1)] [(.int (1 : Int32))])
      refine own_go (fun _ => XS.goto X6.here hx rfl (pc0 := 127) (pc' := 131) rfl (hb hby at_127) (by decide) (by decide)) ?_
      show own_R p.tables e below _ T6 (mkF m 131 #[.val (.int c0), .val (.int c1), .val (.int c2), .val (.int ln), .val (.int ks), .val (.int kc), .val (.int (Int32.ofNat n)), .val (.ref a), .val (.ref a1), .val (.int (Int32.ofNat 2)), .val (.ref b5), .val (.ref a1)] [(.int (1 : Int32))])
      have SS : s.Since T6.vm T6.heap.size := S6
      exact own_endW (s := s) (vm0 := T6.vm) X6 SS (Nat.le_refl _) (some (.int (1 : Int32))) (fun h => by rw [hret] at h; cases h) hlk (fun fs hr => retN X6 hx (t := .boolean) hret (by simp) (hb hby at_131) hr) ⟨rfl, N6⟩ (by decide) (by decide)
  obtain ⟨k, hk, qk⟩ := own_rem3 ln
  refine own_go (fun _ => XS.iconst X0.here hx rfl (hb hby at_0)) ?_
  show own_R p.tables e below _ T0 (mkF m 1 #[.val (.int c0), .val (.int c1), .val (.int c2), .val (.int ln), .val (.int ks), .val (.int kc), .unset, .unset, .unset, .unset, .unset, .unset] [(.int (1 : Int32))])
  refine own_go (fun _ => XS.iloadN X0.here hx rfl (hb hby at_1) rfl ) ?_
  show own_R p.tables e below _ T0 (mkF m 2 #[.val (.int c0), .val (.int c1), .val (.int c2), .val (.int ln), .val (.int ks), .val (.int kc), .unset, .unset, .unset, .unset, .unset, .unset] [(.int ln), (.int (1 : Int32))])
  refine own_go (X0.ldcInt hx hown (mvT hZ (hw _ (List.mem_of_getElem? (i := 0) rfl))) (g := (mkF m 2 #[.val (.int c0), .val (.int c1), .val (.int c2), .val (.int ln), .val (.int ks), .val (.int kc), .unset, .unset, .unset, .unset, .unset, .unset] [(.int ln), (.int (1 : Int32))])) rfl (hb hby at_2)) ?_
  show own_R p.tables e below _ T0 (mkF m 4 #[.val (.int c0), .val (.int c1), .val (.int c2), .val (.int ln), .val (.int ks), .val (.int kc), .unset, .unset, .unset, .unset, .unset, .unset] [(.int (2147483647 : Int32)), (.int ln), (.int (1 : Int32))])
  refine own_go (fun _ => XS.iand X0.here hx rfl (hb hby at_4) rfl) ?_
  show own_R p.tables e below _ T0 (mkF m 5 #[.val (.int c0), .val (.int c1), .val (.int c2), .val (.int ln), .val (.int ks), .val (.int kc), .unset, .unset, .unset, .unset, .unset, .unset] [(.int (ln &&& (2147483647 : Int32))), (.int (1 : Int32))])
  refine own_go (fun _ => XS.iconst X0.here hx rfl (hb hby at_5)) ?_
  show own_R p.tables e below _ T0 (mkF m 6 #[.val (.int c0), .val (.int c1), .val (.int c2), .val (.int ln), .val (.int ks), .val (.int kc), .unset, .unset, .unset, .unset, .unset, .unset] [(.int (3 : Int32)), (.int (ln &&& (2147483647 : Int32))), (.int (1 : Int32))])
  refine own_go (fun _ => iremM (g := (mkF m 6 #[.val (.int c0), .val (.int c1), .val (.int c2), .val (.int ln), .val (.int ks), .val (.int kc), .unset, .unset, .unset, .unset, .unset, .unset] [(.int (3 : Int32)), (.int (ln &&& (2147483647 : Int32))), (.int (1 : Int32))])) X0 hx rfl (hb hby at_6) rfl (by decide)) ?_
  show own_R p.tables e below _ T0 (mkF m 7 #[.val (.int c0), .val (.int c1), .val (.int c2), .val (.int ln), .val (.int ks), .val (.int kc), .unset, .unset, .unset, .unset, .unset, .unset] [(.int ((ln &&& (2147483647 : Int32)) % (3 : Int32))), (.int (1 : Int32))])
  rw [qk]
  show own_R p.tables e below _ T0 (mkF m 7 #[.val (.int c0), .val (.int c1), .val (.int c2), .val (.int ln), .val (.int ks), .val (.int kc), .unset, .unset, .unset, .unset, .unset, .unset] [(.int (Int32.ofNat k)), (.int (1 : Int32))])
  refine own_go (fun _ => XS.iadd X0.here hx rfl (hb hby at_7) rfl) ?_
  show own_R p.tables e below _ T0 (mkF m 8 #[.val (.int c0), .val (.int c1), .val (.int c2), .val (.int ln), .val (.int ks), .val (.int kc), .unset, .unset, .unset, .unset, .unset, .unset] [(.int ((1 : Int32) + (Int32.ofNat k)))])
  rw [own_one]
  show own_R p.tables e below _ T0 (mkF m 8 #[.val (.int c0), .val (.int c1), .val (.int c2), .val (.int ln), .val (.int ks), .val (.int kc), .unset, .unset, .unset, .unset, .unset, .unset] [(.int (Int32.ofNat (k + 1)))])
  obtain rfl | rfl | rfl : k = 0 ∨ k = 1 ∨ k = 2 := by omega
  · show own_R p.tables e below _ T0 (mkF m 8 #[.val (.int c0), .val (.int c1), .val (.int c2), .val (.int ln), .val (.int ks), .val (.int kc), .unset, .unset, .unset, .unset, .unset, .unset] [(.int (Int32.ofNat (0 + 1)))])
    refine own_go (fun _ => XS.istore X0.here hx rfl (hb hby at_8) rfl (l' := #[.val (.int c0), .val (.int c1), .val (.int c2), .val (.int ln), .val (.int ks), .val (.int kc), .val (.int (Int32.ofNat (0 + 1))), .unset, .unset, .unset, .unset, .unset]) rfl) ?_
    show own_R p.tables e below _ T0 (mkF m 10 #[.val (.int c0), .val (.int c1), .val (.int c2), .val (.int ln), .val (.int ks), .val (.int kc), .val (.int (Int32.ofNat (0 + 1))), .unset, .unset, .unset, .unset, .unset] [])
    refine own_go (fun _ => XS.iload X0.here hx rfl (hb hby at_10) rfl ) ?_
    show own_R p.tables e below _ T0 (mkF m 12 #[.val (.int c0), .val (.int c1), .val (.int c2), .val (.int ln), .val (.int ks), .val (.int kc), .val (.int (Int32.ofNat (0 + 1))), .unset, .unset, .unset, .unset, .unset] [(.int (Int32.ofNat (0 + 1)))])
    obtain ⟨T2, h2, k2, X2, e2, E2, A2, st2⟩ := newP X0 hx hZ (hw _ (List.mem_of_getElem? (i := 1) rfl)) e0 (g := (mkF m 12 #[.val (.int c0), .val (.int c1), .val (.int c2), .val (.int ln), .val (.int ks), .val (.int kc), .val (.int (Int32.ofNat (0 + 1))), .unset, .unset, .unset, .unset, .unset] [(.int (Int32.ofNat (0 + 1)))])) rfl (hb hby at_12) rfl (own_ge0 (by decide)) (cap := 3) (by rw [own_clamp (by decide)]; decide) (by decide) (by decide) (by decide)
    obtain ⟨a2, g2⟩ : ∃ z, z = h0.size := ⟨_, rfl⟩
    rw [← g2] at A2 st2
    refine own_go st2 ?_
    show own_R p.tables e below _ T2 (mkF m 14 #[.val (.int c0), .val (.int c1), .val (.int c2), .val (.int ln), .val (.int ks), .val (.int kc), .val (.int (Int32.ofNat (0 + 1))), .unset, .unset, .unset, .unset, .unset] [(.ref a2)])
    have V2 : Arv Z h2 a2 k2 .char (Int32.ofNat (0 + 1)) [.int 0] (.int 0) := (Arv.new A2 (own_ge0 (by decide))).pad (fun i => by rcases i with _ | i <;> rfl)
    have gn2 : n0 ≤ a2 := by omega
    have N2 := N0
    have Od2 := Od.ext E2
    have Z2 : n0 ≤ h2.size := Nat.le_trans Z0 E2.1
    refine own_go (fun _ => XS.astore X2.here hx rfl (hb hby at_14) rfl rfl (l' := #[.val (.int c0), .val (.int c1), .val (.int c2), .val (.int ln), .val (.int ks), .val (.int kc), .val (.int (Int32.ofNat (0 + 1))), .val (.ref a2), .unset, .unset, .unset, .unset]) rfl) ?_
    show own_R p.tables e below _ T2 (mkF m 16 #[.val (.int c0), .val (.int c1), .val (.int c2), .val (.int ln), .val (.int ks), .val (.int kc), .val (.int (Int32.ofNat (0 + 1))), .val (.ref a2), .unset, .unset, .unset, .unset] [])
    refine own_go (fun _ => XS.aload X2.here hx rfl (hb hby at_16) rfl rfl) ?_
    show own_R p.tables e below _ T2 (mkF m 18 #[.val (.int c0), .val (.int c1), .val (.int c2), .val (.int ln), .val (.int ks), .val (.int kc), .val (.int (Int32.ofNat (0 + 1))), .val (.ref a2), .unset, .unset, .unset, .unset] [(.ref a2)])
    refine own_go (fun _ => XS.iconst X2.here hx rfl (hb hby at_18)) ?_
    show own_R p.tables e below _ T2 (mkF m 19 #[.val (.int c0), .val (.int c1), .val (.int c2), .val (.int ln), .val (.int ks), .val (.int kc), .val (.int (Int32.ofNat (0 + 1))), .val (.ref a2), .unset, .unset, .unset, .unset] [(.int (0 : Int32)), (.ref a2)])
    refine own_go (fun _ => XS.iloadN X2.here hx rfl (hb hby at_19) rfl ) ?_
    show own_R p.tables e below _ T2 (mkF m 20 #[.val (.int c0), .val (.int c1), .val (.int c2), .val (.int ln), .val (.int ks), .val (.int kc), .val (.int (Int32.ofNat (0 + 1))), .val (.ref a2), .unset, .unset, .unset, .unset] [(.int c0), (.int (0 : Int32)), (.ref a2)])
    refine own_go (X2.ldcInt hx hown (mvT hZ (hw _ (List.mem_of_getElem? (i := 2) rfl))) (g := (mkF m 20 #[.val (.int c0), .val (.int c1), .val (.int c2), .val (.int ln), .val (.int ks), .val (.int kc), .val (.int (Int32.ofNat (0 + 1))), .val (.ref a2), .unset, .unset, .unset, .unset] [(.int c0), (.int (0 : Int32)), (.ref a2)])) rfl (hb hby at_20)) ?_
    show own_R p.tables e below _ T2 (mkF m 22 #[.val (.int c0), .val (.int c1), .val (.int c2), .val (.int ln), .val (.int ks), .val (.int kc), .val (.int (Int32.ofNat (0 + 1))), .val (.ref a2), .unset, .unset, .unset, .unset] [(.int (65535 : Int32)), (.int c0), (.int (0 : Int32)), (.ref a2)])
    refine own_go (fun _ => XS.iand X2.here hx rfl (hb hby at_22) rfl) ?_
    show own_R p.tables e below _ T2 (mkF m 23 #[.val (.int c0), .val (.int c1), .val (.int c2), .val (.int ln), .val (.int ks), .val (.int kc), .val (.int (Int32.ofNat (0 + 1))), .val (.ref a2), .unset, .unset, .unset, .unset] [(.int (c0 &&& (65535 : Int32))), (.int (0 : Int32)), (.ref a2)])
    refine own_go (fun _ => XS.i2c X2.here hx rfl (hb hby at_23) rfl) ?_
    show own_R p.tables e below _ T2 (mkF m 24 #[.val (.int c0), .val (.int c1), .val (.int c2), .val (.int ln), .val (.int ks), .val (.int kc), .val (.int (Int32.ofNat (0 + 1))), .val (.ref a2), .unset, .unset, .unset, .unset] [(.int ((c0 &&& (65535 : Int32)).toUInt32.toUInt16.toUInt32.toInt32)), (.int (0 : Int32)), (.ref a2)])
    obtain ⟨T3, h3, X3, e3, W3, V3, st3⟩ := own_stC X2 hx hZ e2 V2 (j := (0 : Int32)) ⟨by decide, by decide⟩ 0 rfl (by simp) (own_i2c (own_cx2 _)) (g := (mkF m 24 #[.val (.int c0), .val (.int c1), .val (.int c2), .val (.int ln), .val (.int ks), .val (.int kc), .val (.int (Int32.ofNat (0 + 1))), .val (.ref a2), .unset, .unset, .unset, .unset] [(.int ((c0 &&& (65535 : Int32)).toUInt32.toUInt16.toUInt32.toInt32)), (.int (0 : Int32)), (.ref a2)])) rfl rfl (hb hby at_24)
    refine own_go st3 ?_
    show own_R p.tables e below _ T3 (mkF m 25 #[.val (.int c0), .val (.int c1), .val (.int c2), .val (.int ln), .val (.int ks), .val (.int kc), .val (.int (Int32.ofNat (0 + 1))), .val (.ref a2), .unset, .unset, .unset, .unset] [])
    have N3 := Fr.snoc X3 N2 gn2
    have Od3 := Od2.keep (Keep.of_wr W3) (fun x hx => by cases List.mem_singleton.mp hx; exact gn2)
    have Z3 : n0 ≤ h3.size := Nat.le_trans Z2 (Keep.of_wr W3).1
    refine own_go (fun _ => XS.iload X3.here hx rfl (hb hby at_25) rfl ) ?_
    show own_R p.tables e below _ T3 (mkF m 27 #[.val (.int c0), .val (.int c1), .val (.int c2), .val (.int ln), .val (.int ks), .val (.int kc), .val (.int (Int32.ofNat (0 + 1))), .val (.ref a2), .unset, .unset, .unset, .unset] [(.int (Int32.ofNat (0 + 1)))])
    refine own_go (fun _ => XS.iconst X3.here hx rfl (hb hby at_27)) ?_
    show own_R p.tables e below _ T3 (mkF m 28 #[.val (.int c0), .val (.int c1), .val (.int c2), .val (.int ln), .val (.int ks), .val (.int kc), .val (.int (Int32.ofNat (0 + 1))), .val (.ref a2), .unset, .unset, .unset, .unset] [(.int (1 : Int32)), (.int (Int32.ofNat (0 + 1)))])
    refine own_go (fun _ => XS.icmpYes X3.here hx rfl (pc0 := 28) (pc' := 40) rfl (hb hby at_28) rfl (flt (by decide : ¬ ((1 : Int32) < (Int32.ofNat (0 + 1))))).2.2.2 (by decide) (by decide)) ?_
    show own_R p.tables e below _ T3 (mkF m 40 #[.val (.int c0), .val (.int c1), .val (.int c2), .val (.int ln), .val (.int ks), .val (.int kc), .val (.int (Int32.ofNat (0 + 1))), .val (.ref a2), .unset, .unset, .unset, .unset] [])
    refine own_go (fun _ => XS.iload X3.here hx rfl (hb hby at_40) rfl ) ?_
    show own_R p.tables e below _ T3 (mkF m 42 #[.val (.int c0), .val (.int c1), .val (.int c2), .val (.int ln), .val (.int ks), .val (.int kc), .val (.int (Int32.ofNat (0 + 1))), .val (.ref a2), .unset, .unset, .unset, .unset] [(.int (Int32.ofNat (0 + 1)))])
    refine own_go (fun _ => XS.iconst X3.here hx rfl (hb hby at_42)) ?_
    show own_R p.tables e below _ T3 (mkF m 43 #[.val (.int c0), .val (.int c1), .val (.int c2), .val (.int ln), .val (.int ks), .val (.int kc), .val (.int (Int32.ofNat (0 + 1))), .val (.ref a2), .unset, .unset, .unset, .unset] [(.int (2 : Int32)), (.int (Int32.ofNat (0 + 1)))])
    refine own_go (fun _ => XS.icmpYes X3.here hx rfl (pc0 := 43) (pc' := 55) rfl (hb hby at_43) rfl (flt (by decide : ¬ ((2 : Int32) < (Int32.ofNat (0 + 1))))).2.2.2 (by decide) (by decide)) ?_
    show own_R p.tables e below _ T3 (mkF m 55 #[.val (.int c0), .val (.int c1), .val (.int c2), .val (.int ln), .val (.int ks), .val (.int kc), .val (.int (Int32.ofNat (0 + 1))), .val (.ref a2), .unset, .unset, .unset, .unset] [])
    exact J (0 + 1) a2 k2 [((c0 &&& (65535 : Int32)).toUInt32.toUInt16.toUInt32.toInt32)] T3 h3 _ (by decide) (by decide) X3 e3 N3 Od3 Z3 V3 (fun i => by rcases i with _ | i <;> first | exact own_cx2 _ | exact own_cx0)
  · show own_R p.tables e below _ T0 (mkF m 8 #[.val (.int c0), .val (.int c1), .val (.int c2), .val (.int ln), .val (.int ks), .val (.int kc), .unset, .unset, .unset, .unset, .unset, .unset] [(.int (Int32.ofNat (1 + 1)))])
    refine own_go (fun _ => XS.istore X0.here hx rfl (hb hby at_8) rfl (l' := #[.val (.int c0), .val (.int c1), .val (.int c2), .val (.int ln), .val (.int ks), .val (.int kc), .val (.int (Int32.ofNat (1 + 1))), .unset, .unset, .unset, .unset, .unset]) rfl) ?_
    show own_R p.tables e below _ T0 (mkF m 10 #[.val (.int c0), .val (.int c1), .val (.int c2), .val (.int ln), .val (.int ks), .val (.int kc), .val (.int (Int32.ofNat (1 + 1))), .unset, .unset, .unset, .unset, .unset] [])
    refine own_go (fun _ => XS.iload X0.here hx rfl (hb hby at_10) rfl ) ?_
    show own_R p.tables e below _ T0 (mkF m 12 #[.val (.int c0), .val (.int c1), .val (.int c2), .val (.int ln), .val (.int ks), .val (.int kc), .val (.int (Int32.ofNat (1 + 1))), .unset, .unset, .unset, .unset, .unset] [(.int (Int32.ofNat (1 + 1)))])
    obtain ⟨T2, h2, k2, X2, e2, E2, A2, st2⟩ := newP X0 hx hZ (hw _ (List.mem_of_getElem? (i := 1) rfl)) e0 (g := (mkF m 12 #[.val (.int c0), .val (.int c1), .val (.int c2), .val (.int ln), .val (.int ks), .val (.int kc), .val (.int (Int32.ofNat (1 + 1))), .unset, .unset, .unset, .unset, .unset] [(.int (Int32.ofNat (1 + 1)))])) rfl (hb hby at_12) rfl (own_ge0 (by decide)) (cap := 3) (by rw [own_clamp (by decide)]; decide) (by decide) (by decide) (by decide)
    obtain ⟨a2, g2⟩ : ∃ z, z = h0.size := ⟨_, rfl⟩
    rw [← g2] at A2 st2
    refine own_go st2 ?_
    show own_R p.tables e below _ T2 (mkF m 14 #[.val (.int c0), .val (.int c1), .val (.int c2), .val (.int ln), .val (.int ks), .val (.int kc), .val (.int (Int32.ofNat (1 + 1))), .unset, .unset, .unset, .unset, .unset] [(.ref a2)])
    have V2 : Arv Z h2 a2 k2 .char (Int32.ofNat (1 + 1)) [.int 0, .int 0] (.int 0) := (Arv.new A2 (own_ge0 (by decide))).pad (fun i => by rcases i with _ | _ | i <;> rfl)
    have gn2 : n0 ≤ a2 := by omega
    have N2 := N0
    have Od2 := Od.ext E2
    have Z2 : n0 ≤ h2.size := Nat.le_trans Z0 E2.1
    refine own_go (fun _ => XS.astore X2.here hx rfl (hb hby at_14) rfl rfl (l' := #[.val (.int c0), .val (.int c1), .val (.int c2), .val (.int ln), .val (.int ks), .val (.int kc), .val (.int (Int32.ofNat (1 + 1))), .val (.ref a2), .unset, .unset, .unset, .unset]) rfl) ?_
    show own_R p.tables e below _ T2 (mkF m 16 #[.val (.int c0), .val (.int c1), .val (.int c2), .val (.int ln), .val (.int ks), .val (.int kc), .val (.int (Int32.ofNat (1 + 1))), .val (.ref a2), .unset, .unset, .unset, .unset] [])
    refine own_go (fun _ => XS.aload X2.here hx rfl (hb hby at_16) rfl rfl) ?_
    show own_R p.tables e below _ T2 (mkF m 18 #[.val (.int c0), .val (.int c1), .val (.int c2), .val (.int ln), .val (.int ks), .val (.int kc), .val (.int (Int32.ofNat (1 + 1))), .val (.ref a2), .unset, .unset, .unset, .unset] [(.ref a2)])
    refine own_go (fun _ => XS.iconst X2.here hx rfl (hb hby at_18)) ?_
    show own_R p.tables e below _ T2 (mkF m 19 #[.val (.int c0), .val (.int c1), .val (.int c2), .val (.int ln), .val (.int ks), .val (.int kc), .val (.int (Int32.ofNat (1 + 1))), .val (.ref a2), .unset, .unset, .unset, .unset] [(.int (0 : Int32)), (.ref a2)])
    refine own_go (fun _ => XS.iloadN X2.here hx rfl (hb hby at_19) rfl ) ?_
    show own_R p.tables e below _ T2 (mkF m 20 #[.val (.int c0), .val (.int c1), .val (.int c2), .val (.int ln), .val (.int ks), .val (.int kc), .val (.int (Int32.ofNat (1 + 1))), .val (.ref a2), .unset, .unset, .unset, .unset] [(.int c0), (.int (0 : Int32)), (.ref a2)])
    refine own_go (X2.ldcInt hx hown (mvT hZ (hw _ (List.mem_of_getElem? (i := 2) rfl))) (g := (mkF m 20 #[.val (.int c0), .val (.int c1), .val (.int c2), .val (.int ln), .val (.int ks), .val (.int kc), .val (.int (Int32.ofNat (1 + 1))), .val (.ref a2), .unset, .unset, .unset, .unset] [(.int c0), (.int (0 : Int32)), (.ref a2)])) rfl (hb hby at_20)) ?_
    show own_R p.tables e below _ T2 (mkF m 22 #[.val (.int c0), .val (.int c1), .val (.int c2), .val (.int ln), .val (.int ks), .val (.int kc), .val (.int (Int32.ofNat (1 + 1))), .val (.ref a2), .unset, .unset, .unset, .unset] [(.int (65535 : Int32)), (.int c0), (.int (0 : Int32)), (.ref a2)])
    refine own_go (fun _ => XS.iand X2.here hx rfl (hb hby at_22) rfl) ?_
    show own_R p.tables e below _ T2 (mkF m 23 #[.val (.int c0), .val (.int c1), .val (.int c2), .val (.int ln), .val (.int ks), .val (.int kc), .val (.int (Int32.ofNat (1 + 1))), .val (.ref a2), .unset, .unset, .unset, .unset] [(.int (c0 &&& (65535 : Int32))), (.int (0 : Int32)), (.ref a2)])
    refine own_go (fun _ => XS.i2c X2.here hx rfl (hb hby at_23) rfl) ?_
    show own_R p.tables e below _ T2 (mkF m 24 #[.val (.int c0), .val (.int c1), .val (.int c2), .val (.int ln), .val (.int ks), .val (.int kc), .val (.int (Int32.ofNat (1 + 1))), .val (.ref a2), .unset, .unset, .unset, .unset] [(.int ((c0 &&& (65535 : Int32)).toUInt32.toUInt16.toUInt32.toInt32)), (.int (0 : Int32)), (.ref a2)])
    obtain ⟨T3, h3, X3, e3, W3, V3, st3⟩ := own_stC X2 hx hZ e2 V2 (j := (0 : Int32)) ⟨by decide, by decide⟩ 0 rfl (by simp) (own_i2c (own_cx2 _)) (g := (mkF m 24 #[.val (.int c0), .val (.int c1), .val (.int c2), .val (.int ln), .val (.int ks), .val (.int kc), .val (.int (Int32.ofNat (1 + 1))), .val (.ref a2), .unset, .unset, .unset, .unset] [(.int ((c0 &&& (65535 : Int32)).toUInt32.toUInt16.toUInt32.toInt32)), (.int (0 : Int32)), (.ref a2)])) rfl rfl (hb hby at_24)
    refine own_go st3 ?_
    show own_R p.tables e below _ T3 (mkF m 25 #[.val (.int c0), .val (.int c1), .val (.int c2), .val (.int ln), .val (.int ks), .val (.int kc), .val (.int (Int32.ofNat (1 + 1))), .val (.ref a2), .unset, .unset, .unset, .unset] [])
    have N3 := Fr.snoc X3 N2 gn2
    have Od3 := Od2.keep (Keep.of_wr W3) (fun x hx => by cases List.mem_singleton.mp hx; exact gn2)
    have Z3 : n0 ≤ h3.size := Nat.le_trans Z2 (Keep.of_wr W3).1
    refine own_go (fun _ => XS.iload X3.here hx rfl (hb hby at_25) rfl ) ?_
    show own_R p.tables e below _ T3 (mkF m 27 #[.val (.int c0), .val (.int c1), .val (.int c2), .val (.int ln), .val (.int ks), .val (.int kc), .val (.int (Int32.ofNat (1 + 1))), .val (.ref a2), .unset, .unset, .unset, .unset] [(.int (Int32.ofNat (1 + 1)))])
    refine own_go (fun _ => XS.iconst X3.here hx rfl (hb hby at_27)) ?_
    show own_R p.tables e below _ T3 (mkF m 28 #[.val (.int c0), .val (.int c1), .val (.int c2), .val (.int ln), .val (.int ks), .val (.int kc), .val (.int (Int32.ofNat (1 + 1))), .val (.ref a2), .unset, .unset, .unset, .unset] [(.int (1 : Int32)), (.int (Int32.ofNat (1 + 1)))])
    refine own_go (fun _ => XS.icmpNo X3.here hx rfl (hb hby at_28) rfl (tlt (by decide : ((1 : Int32) < (Int32.ofNat (1 + 1))))).2.2.2) ?_
    show own_R p.tables e below _ T3 (mkF m 31 #[.val (.int c0), .val (.int c1), .val (.int c2), .val (.int ln), .val (.int ks), .val (.int kc), .val (.int (Int32.ofNat (1 + 1))), .val (.ref a2), .unset, .unset, .unset, .unset] [])
    refine own_go (fun _ => XS.aload X3.here hx rfl (hb hby at_31) rfl rfl) ?_
    show own_R p.tables e below _ T3 (mkF m 33 #[.val (.int c0), .val (.int c1), .val (.int c2), .val (.int ln), .val (.int ks), .val (.int kc), .val (.int (Int32.ofNat (1 + 1))), .val (.ref a2), .unset, .unset, .unset, .unset] [(.ref a2)])
    refine own_go (fun _ => XS.iconst X3.here hx rfl (hb hby at_33)) ?_
    show own_R p.tables e below _ T3 (mkF m 34 #[.val (.int c0), .val (.int c1), .val (.int c2), .val (.int ln), .val (.int ks), .val (.int kc), .val (.int (Int32.ofNat (1 + 1))), .val (.ref a2), .unset, .unset, .unset, .unset] [(.int (1 : Int32)), (.ref a2)])
    refine own_go (fun _ => XS.iloadN X3.here hx rfl (hb hby at_34) rfl ) ?_
    show own_R p.tables e below _ T3 (mkF m 35 #[.val (.int c0), .val (.int c1), .val (.int c2), .val (.int ln), .val (.int ks), .val (.int kc), .val (.int (Int32.ofNat (1 + 1))), .val (.ref a2), .unset, .unset, .unset, .unset] [(.int c1), (.int (1 : Int32)), (.ref a2)])
    refine own_go (X3.ldcInt hx hown (mvT hZ (hw _ (List.mem_of_getElem? (i := 2) rfl))) (g := (mkF m 35 #[.val (.int c0), .val (.int c1), .val (.int c2), .val (.int ln), .val (.int ks), .val (.int kc), .val (.int (Int32.ofNat (1 + 1))), .val (.ref a2), .unset, .unset, .unset, .unset] [(.int c1), (.int (1 : Int32)), (.ref a2)])) rfl (hb hby at_35)) ?_
    show own_R p.tables e below _ T3 (mkF m 37 #[.val (.int c0), .val (.int c1), .val (.int c2), .val (.int ln), .val (.int ks), .val (.int kc), .val (.int (Int32.ofNat (1 + 1))), .val (.ref a2), .unset, .unset, .unset, .unset] [(.int (65535 : Int32)), (.int c1), (.int (1 : Int32)), (.ref a2)])
    refine own_go (fun _ => XS.iand X3.here hx rfl (hb hby at_37) rfl) ?_
    show own_R p.tables e below _ T3 (mkF m 38 #[.val (.int c0), .val (.int c1), .val (.int c2), .val (.int ln), .val (.int ks), .val (.int kc), .val (.int (Int32.ofNat (1 + 1))), .val (.ref a2), .unset, .unset, .unset, .unset] [(.int (c1 &&& (65535 : Int32))), (.int (1 : Int32)), (.ref a2)])
    refine own_go (fun _ => XS.i2c X3.here hx rfl (hb hby at_38) rfl) ?_
    show own_R p.tables e below _ T3 (mkF m 39 #[.val (.int c0), .val (.int c1), .val (.int c2), .val (.int ln), .val (.int ks), .val (.int kc), .val (.int (Int32.ofNat (1 + 1))), .val (.ref a2), .unset, .unset, .unset, .unset] [(.int ((c1 &&& (65535 : Int32)).toUInt32.toUInt16.toUInt32.toInt32)), (.int (1 : Int32)), (.ref a2)])
    obtain ⟨T4, h4, X4, e4, W4, V4, st4⟩ := own_stC X3 hx hZ e3 V3 (j := (1 : Int32)) ⟨by decide, by decide⟩ 1 rfl (by simp) (own_i2c (own_cx2 _)) (g := (mkF m 39 #[.val (.int c0), .val (.int c1), .val (.int c2), .val (.int ln), .val (.int ks), .val (.int kc), .val (.int (Int32.ofNat (1 + 1))), .val (.ref a2), .unset, .unset, .unset, .unset] [(.int ((c1 &&& (65535 : Int32)).toUInt32.toUInt16.toUInt32.toInt32)), (.int (1 : Int32)), (.ref a2)])) rfl rfl (hb hby at_39)
    refine own_go st4 ?_
    show own_R p.tables e below _ T4 (mkF m 40 #[.val (.int c0), .val (.int c1), .val (.int c2), .val (.int ln), .val (.int ks), .val (.int kc), .val (.int (Int32.ofNat (1 + 1))), .val (.ref a2), .unset, .unset, .unset, .unset] [])
    have N4 := Fr.snoc X4 N3 gn2
    have Od4 := Od3.keep (Keep.of_wr W4) (fun x hx => by cases List.mem_singleton.mp hx; exact gn2)
    have Z4 : n0 ≤ h4.size := Nat.le_trans Z3 (Keep.of_wr W4).1
    refine own_go (fun _ => XS.iload X4.here hx rfl (hb hby at_40) rfl ) ?_
    show own_R p.tables e below _ T4 (mkF m 42 #[.val (.int c0), .val (.int c1), .val (.int c2), .val (.int ln), .val (.int ks), .val (.int kc), .val (.int (Int32.ofNat (1 + 1))), .val (.ref a2), .unset, .unset, .unset, .unset] [(.int (Int32.ofNat (1 + 1)))])
    refine own_go (fun _ => XS.iconst X4.here hx rfl (hb hby at_42)) ?_
    show own_R p.tables e below _ T4 (mkF m 43 #[.val (.int c0), .val (.int c1), .val (.int c2), .val (.int ln), .val (.int ks), .val (.int kc), .val (.int (Int32.ofNat (1 + 1))), .val (.ref a2), .unset, .unset, .unset, .unset] [(.int (2 : Int32)), (.int (Int32.ofNat (1 + 1)))])
    refine own_go (fun _ => XS.icmpYes X4.here hx rfl (pc0 := 43) (pc' := 55) rfl (hb hby at_43) rfl (flt (by decide : ¬ ((2 : Int32) < (Int32.ofNat (1 + 1))))).2.2.2 (by decide) (by decide)) ?_
    show own_R p.tables e below _ T4 (mkF m 55 #[.val (.int c0), .val (.int c1), .val (.int c2), .val (.int ln), .val (.int ks), .val (.int kc), .val (.int (Int32.ofNat (1 + 1))), .val (.ref a2), .unset, .unset, .unset, .unset] [])
    exact J (1 + 1) a2 k2 [((c0 &&& (65535 : Int32)).toUInt32.toUInt16.toUInt32.toInt32), ((c1 &&& (65535 : Int32)).toUInt32.toUInt16.toUInt32.toInt32)] T4 h4 _ (by decide) (by decide) X4 e4 N4 Od4 Z4 V4 (fun i => by rcases i with _ | _ | i <;> first | exact own_cx2 _ | exact own_cx0)
  · show own_R p.tables e below _ T0 (mkF m 8 #[.val (.int c0), .val (.int c1), .val (.int c2), .val (.int ln), .val (.int ks), .val (.int kc), .unset, .unset, .unset, .unset, .unset, .unset] [(.int (Int32.ofNat (2 + 1)))])
    refine own_go (fun _ => XS.istore X0.here hx rfl (hb hby at_8) rfl (l' := #[.val (.int c0), .val (.int c1), .val (.int c2), .val (.int ln), .val (.int ks), .val (.int kc), .val (.int (Int32.ofNat (2 + 1))), .unset, .unset, .unset, .unset, .unset]) rfl) ?_
    show own_R p.tables e below _ T0 (mkF m 10 #[.val (.int c0), .val (.int c1), .val (.int c2), .val (.int ln), .val (.int ks), .val (.int kc), .val (.int (Int32.ofNat (2 + 1))), .unset, .unset, .unset, .unset, .unset] [])
    refine own_go (fun _ => XS.iload X0.here hx rfl (hb hby at_10) rfl ) ?_
    show own_R p.tables e below _ T0 (mkF m 12 #[.val (.int c0), .val (.int c1), .val (.int c2), .val (.int ln), .val (.int ks), .val (.int kc), .val (.int (Int32.ofNat (2 + 1))), .unset, .unset, .unset, .unset, .unset] [(.int (Int32.ofNat (2 + 1)))])
    obtain ⟨T2, h2, k2, X2, e2, E2, A2, st2⟩ := newP X0 hx hZ (hw _ (List.mem_of_getElem? (i := 1) rfl)) e0 (g := (mkF m 12 #[.val (.int c0), .val (.int c1), .val (.int c2), .val (.int ln), .val (.int ks), .val (.int kc), .val (.int (Int32.ofNat (2 + 1))), .unset, .unset, .unset, .unset, .unset] [(.int (Int32.ofNat (2 + 1)))])) rfl (hb hby at_12) rfl (own_ge0 (by decide)) (cap := 3) (by rw [own_clamp (by decide)]; decide) (by decide) (by decide) (by decide)
    obtain ⟨a2, g2⟩ : ∃ z, z = h0.size := ⟨_, rfl⟩
    rw [← g2] at A2 st2
    refine own_go st2 ?_
    show own_R p.tables e below _ T2 (mkF m 14 #[.val (.int c0), .val (.int c1), .val (.int c2), .val (.int ln), .val (.int ks), .val (.int kc), .val (.int (Int32.ofNat (2 + 1))), .unset, .unset, .unset, .unset, .unset] [(.ref a2)])
    have V2 : Arv Z h2 a2 k2 .char (Int32.ofNat (2 + 1)) [.int 0, .int 0, .int 0] (.int 0) := (Arv.new A2 (own_ge0 (by decide))).pad (fun i => by rcases i with _ | _ | _ | i <;> rfl)
    have gn2 : n0 ≤ a2 := by omega
    have N2 := N0
    have Od2 := Od.ext E2
    have Z2 : n0 ≤ h2.size := Nat.le_trans Z0 E2.1
    refine own_go (fun _ => XS.astore X2.here hx rfl (hb hby at_14) rfl rfl (l' := #[.val (.int c0), .val (.int c1), .val (.int c2), .val (.int ln), .val (.int ks), .val (.int kc), .val (.int (Int32.ofNat (2 + 1))), .val (.ref a2), .unset, .unset, .unset, .unset]) rfl) ?_
    show own_R p.tables e below _ T2 (mkF m 16 #[.val (.int c0), .val (.int c1), .val (.int c2), .val (.int ln), .val (.int ks), .val (.int kc), .val (.int (Int32.ofNat (2 + 1))), .val (.ref a2), .unset, .unset, .unset, .unset] [])
    refine own_go (fun _ => XS.aload X2.here hx rfl (hb hby at_16) rfl rfl) ?_
    show own_R p.tables e below _ T2 (mkF m 18 #[.val (.int c0), .val (.int c1), .val (.int c2), .val (.int ln), .val (.int ks), .val (.int kc), .val (.int (Int32.ofNat (2 + 1))), .val (.ref a2), .unset, .unset, .unset, .unset] [(.ref a2)])
    refine own_go (fun _ => XS.iconst X2.here hx rfl (hb hby at_18)) ?_
    show own_R p.tables e below _ T2 (mkF m 19 #[.val (.int c0), .val (.int c1), .val (.int c2), .val (.int ln), .val (.int ks), .val (.int kc), .val (.int (Int32.ofNat (2 + 1))), .val (.ref a2), .unset, .unset, .unset, .unset] [(.int (0 : Int32)), (.ref a2)])
    refine own_go (fun _ => XS.iloadN X2.here hx rfl (hb hby at_19) rfl ) ?_
    show own_R p.tables e below _ T2 (mkF m 20 #[.val (.int c0), .val (.int c1), .val (.int c2), .val (.int ln), .val (.int ks), .val (.int kc), .val (.int (Int32.ofNat (2 + 1))), .val (.ref a2), .unset, .unset, .unset, .unset] [(.int c0), (.int (0 : Int32)), (.ref a2)])
    refine own_go (X2.ldcInt hx hown (mvT hZ (hw _ (List.mem_of_getElem? (i := 2) rfl))) (g := (mkF m 20 #[.val (.int c0), .val (.int c1), .val (.int c2), .val (.int ln), .val (.int ks), .val (.int kc), .val (.int (Int32.ofNat (2 + 1))), .val (.ref a2), .unset, .unset, .unset, .unset] [(.int c0), (.int (0 : Int32)), (.ref a2)])) rfl (hb hby at_20)) ?_
    show own_R p.tables e below _ T2 (mkF m 22 #[.val (.int c0), .val (.int c1), .val (.int c2), .val (.int ln), .val (.int ks), .val (.int kc), .val (.int (Int32.ofNat (2 + 1))), .val (.ref a2), .unset, .unset, .unset, .unset] [(.int (65535 : Int32)), (.int c0), (.int (0 : Int32)), (.ref a2)])
    refine own_go (fun _ => XS.iand X2.here hx rfl (hb hby at_22) rfl) ?_
    show own_R p.tables e below _ T2 (mkF m 23 #[.val (.int c0), .val (.int c1), .val (.int c2), .val (.int ln), .val (.int ks), .val (.int kc), .val (.int (Int32.ofNat (2 + 1))), .val (.ref a2), .unset, .unset, .unset, .unset] [(.int (c0 &&& (65535 : Int32))), (.int (0 : Int32)), (.ref a2)])
    refine own_go (fun _ => XS.i2c X2.here hx rfl (hb hby at_23) rfl) ?_
    show own_R p.tables e below _ T2 (mkF m 24 #[.val (.int c0), .val (.int c1), .val (.int c2), .val (.int ln), .val (.int ks), .val (.int kc), .val (.int (Int32.ofNat (2 + 1))), .val (.ref a2), .unset, .unset, .unset, .unset] [(.int ((c0 &&& (65535 : Int32)).toUInt32.toUInt16.toUInt32.toInt32)), (.int (0 : Int32)), (.ref a2)])
    obtain ⟨T3, h3, X3, e3, W3, V3, st3⟩ := own_stC X2 hx hZ e2 V2 (j := (0 : Int32)) ⟨by decide, by decide⟩ 0 rfl (by simp) (own_i2c (own_cx2 _)) (g := (mkF m 24 #[.val (.int c0), .val (.int c1), .val (.int c2), .val (.int ln), .val (.int ks), .val (.int kc), .val (.int (Int32.ofNat (2 + 1))), .val (.ref a2), .unset, .unset, .unset, .unset] [(.int ((c0 &&& (65535 : Int32)).toUInt32.toUInt16.toUInt32.toInt32)), (.int (0 : Int32)), (.ref a2)])) rfl rfl (hb hby at_24)
    refine own_go st3 ?_
    show own_R p.tables e below _ T3 (mkF m 25 #[.val (.int c0), .val (.int c1), .val (.int c2), .val (.int ln), .val (.int ks), .val (.int kc), .val (.int (Int32.ofNat (2 + 1))), .val (.ref a2), .unset, .unset, .unset, .unset] [])
    have N3 := Fr.snoc X3 N2 gn2
    have Od3 := Od2.keep (Keep.of_wr W3) (fun x hx => by cases List.mem_singleton.mp hx; exact gn2)
    have Z3 : n0 ≤ h3.size := Nat.le_trans Z2 (Keep.of_wr W3).1
    refine own_go (fun _ => XS.iload X3.here hx rfl (hb hby at_25) rfl ) ?_
    show own_R p.tables e below _ T3 (mkF m 27 #[.val (.int c0), .val (.int c1), .val (.int c2), .val (.int ln), .val (.int ks), .val (.int kc), .val (.int (Int32.ofNat (2 + 1))), .val (.ref a2), .unset, .unset, .unset, .unset] [(.int (Int32.ofNat (2 + 1)))])
    refine own_go (fun _ => XS.iconst X3.here hx rfl (hb hby at_27)) ?_
    show own_R p.tables e below _ T3 (mkF m 28 #[.val (.int c0), .val (.int c1), .val (.int c2), .val (.int ln), .val (.int ks), .val (.int kc), .val (.int (Int32.ofNat (2 + 1))), .val (.ref a2), .unset, .unset, .unset, .unset] [(.int (1 : Int32)), (.int (Int32.ofNat (2 + 1)))])
    refine own_go (fun _ => XS.icmpNo X3.here hx rfl (hb hby at_28) rfl (tlt (by decide : ((1 : Int32) < (Int32.ofNat (2 + 1))))).2.2.2) ?_
    show own_R p.tables e below _ T3 (mkF m 31 #[.val (.int c0), .val (.int c1), .val (.int c2), .val (.int ln), .val (.int ks), .val (.int kc), .val (.int (Int32.ofNat (2 + 1))), .val (.ref a2), .unset, .unset, .unset, .unset] [])
    refine own_go (fun _ => XS.aload X3.here hx rfl (hb hby at_31) rfl rfl) ?_
    show own_R p.tables e below _ T3 (mkF m 33 #[.val (.int c0), .val (.int c1), .val (.int c2), .val (.int ln), .val (.int ks), .val (.int kc), .val (.int (Int32.ofNat (2 + 1))), .val (.ref a2), .unset, .unset, .unset, .unset] [(.ref a2)])
    refine own_go (fun _ => XS.iconst X3.here hx rfl (hb hby at_33)) ?_
    show own_R p.tables e below _ T3 (mkF m 34 #[.val (.int c0), .val (.int c1), .val (.int c2), .val (.int ln), .val (.int ks), .val (.int kc), .val (.int (Int32.ofNat (2 + 1))), .val (.ref a2), .unset, .unset, .unset, .unset] [(.int (1 : Int32)), (.ref a2)])
    refine own_go (fun _ => XS.iloadN X3.here hx rfl (hb hby at_34) rfl ) ?_
    show own_R p.tables e below _ T3 (mkF m 35 #[.val (.int c0), .val (.int c1), .val (.int c2), .val (.int ln), .val (.int ks), .val (.int kc), .val (.int (Int32.ofNat (2 + 1))), .val (.ref a2), .unset, .unset, .unset, .unset] [(.int c1), (.int (1 : Int32)), (.ref a2)])
    refine own_go (X3.ldcInt hx hown (mvT hZ (hw _ (List.mem_of_getElem? (i := 2) rfl))) (g := (mkF m 35 #[.val (.int c0), .val (.int c1), .val (.int c2), .val (.int ln), .val (.int ks), .val (.int kc), .val (.int (Int32.ofNat (2 + 1))), .val (.ref a2), .unset, .unset, .unset, .unset] [(.int c1), (.int (1 : Int32)), (.ref a2)])) rfl (hb hby at_35)) ?_
    show own_R p.tables e below _ T3 (mkF m 37 #[.val (.int c0), .val (.int c1), .val (.int c2), .val (.int ln), .val (.int ks), .val (.int kc), .val (.int (Int32.ofNat (2 + 1))), .val (.ref a2), .unset, .unset, .unset, .unset] [(.int (65535 : Int32)), (.int c1), (.int (1 : Int32)), (.ref a2)])
    refine own_go (fun _ => XS.iand X3.here hx rfl (hb hby at_37) rfl) ?_
    show own_R p.tables e below _ T3 (mkF m 38 #[.val (.int c0), .val (.int c1), .val (.int c2), .val (.int ln), .val (.int ks), .val (.int kc), .val (.int (Int32.ofNat (2 + 1))), .val (.ref a2), .unset, .unset, .unset, .unset] [(.int (c1 &&& (65535 : Int32))), (.int (1 : Int32)), (.ref a2)])
    refine own_go (fun _ => XS.i2c X3.here hx rfl (hb hby at_38) rfl) ?_
    show own_R p.tables e below _ T3 (mkF m 39 #[.val (.int c0), .val (.int c1), .val (.int c2), .val (.int ln), .val (.int ks), .val (.int kc), .val (.int (Int32.ofNat (2 + 1))), .val (.ref a2), .unset, .unset, .unset, .unset] [(.int ((c1 &&& (65535 : Int32)).toUInt32.toUInt16.toUInt32.toInt32)), (.int (1 : Int32)), (.ref a2)])
    obtain ⟨T4, h4, X4, e4, W4, V4, st4⟩ := own_stC X3 hx hZ e3 V3 (j := (1 : Int32)) ⟨by decide, by decide⟩ 1 rfl (by simp) (own_i2c (own_cx2 _)) (g := (mkF m 39 #[.val (.int c0), .val (.int c1), .val (.int c2), .val (.int ln), .val (.int ks), .val (.int kc), .val (.int (Int32.ofNat (2 + 1))), .val (.ref a2), .unset, .unset, .unset, .unset] [(.int ((c1 &&& (65535 : Int32)).toUInt32.toUInt16.toUInt32.toInt32)), (.int (1 : Int32)), (.ref a2)])) rfl rfl (hb hby at_39)
    refine own_go st4 ?_
    show own_R p.tables e below _ T4 (mkF m 40 #[.val (.int c0), .val (.int c1), .val (.int c2), .val (.int ln), .val (.int ks), .val (.int kc), .val (.int (Int32.ofNat (2 + 1))), .val (.ref a2), .unset, .unset, .unset, .unset] [])
    have N4 := Fr.snoc X4 N3 gn2
    have Od4 := Od3.keep (Keep.of_wr W4) (fun x hx => by cases List.mem_singleton.mp hx; exact gn2)
    have Z4 : n0 ≤ h4.size := Nat.le_trans Z3 (Keep.of_wr W4).1
    refine own_go (fun _ => XS.iload X4.here hx rfl (hb hby at_40) rfl ) ?_
    show own_R p.tables e below _ T4 (mkF m 42 #[.val (.int c0), .val (.int c1), .val (.int c2), .val (.int ln), .val (.int ks), .val (.int kc), .val (.int (Int32.ofNat (2 + 1))), .val (.ref a2), .unset, .unset, .unset, .unset] [(.int (Int32.ofNat (2 + 1)))])
    refine own_go (fun _ => XS.iconst X4.here hx rfl (hb hby at_42)) ?_
    show own_R p.tables e below _ T4 (mkF m 43 #[.val (.int c0), .val (.int c1), .val (.int c2), .val (.int ln), .val (.int ks), .val (.int kc), .val (.int (Int32.ofNat (2 + 1))), .val (.ref a2), .unset, .unset, .unset, .unset] [(.int (2 : Int32)), (.int (Int32.ofNat (2 + 1)))])
    refine own_go (fun _ => XS.icmpNo X4.here hx rfl (hb hby at_43) rfl (tlt (by decide : ((2 : Int32) < (Int32.ofNat (2 + 1))))).2.2.2) ?_
    show own_R p.tables e below _ T4 (mkF m 46 #[.val (.int c0), .val (.int c1), .val (.int c2), .val (.int ln), .val (.int ks), .val (.int kc), .val (.int (Int32.ofNat (2 + 1))), .val (.ref a2), .unset, .unset, .unset, .unset] [])
    refine own_go (fun _ => XS.aload X4.here hx rfl (hb hby at_46) rfl rfl) ?_
    show own_R p.tables e below _ T4 (mkF m 48 #[.val (.int c0), .val (.int c1), .val (.int c2), .val (.int ln), .val (.int ks), .val (.int kc), .val (.int (Int32.ofNat (2 + 1))), .val (.ref a2), .unset, .unset, .unset, .unset] [(.ref a2)])
    refine own_go (fun _ => XS.iconst X4.here hx rfl (hb hby at_48)) ?_
    show own_R p.tables e below _ T4 (mkF m 49 #[.val (.int c0), .val (.int c1), .val (.int c2), .val (.int ln), .val (.int ks), .val (.int kc), .val (.int (Int32.ofNat (2 + 1))), .val (.ref a2), .unset, .unset, .unset, .unset] [(.int (2 : Int32)), (.ref a2)])
    refine own_go (fun _ => XS.iloadN X4.here hx rfl (hb hby at_49) rfl ) ?_
    show own_R p.tables e below _ T4 (mkF m 50 #[.val (.int c0), .val (.int c1), .val (.int c2), .val (.int ln), .val (.int ks), .val (.int kc), .val (.int (Int32.ofNat (2 + 1))), .val (.ref a2), .unset, .unset, .unset, .unset] [(.int c2), (.int (2 : Int32)), (.ref a2)])
    refine own_go (X4.ldcInt hx hown (mvT hZ (hw _ (List.mem_of_getElem? (i := 2) rfl))) (g := (mkF m 50 #[.val (.int c0), .val (.int c1), .val (.int c2), .val (.int ln), .val (.int ks), .val (.int kc), .val (.int (Int32.ofNat (2 + 1))), .val (.ref a2), .unset, .unset, .unset, .unset] [(.int c2), (.int (2 : Int32)), (.ref a2)])) rfl (hb hby at_50)) ?_
    show own_R p.tables e below _ T4 (mkF m 52 #[.val (.int c0), .val (.int c1), .val (.int c2), .val (.int ln), .val (.int ks), .val (.int kc), .val (.int (Int32.ofNat (2 + 1))), .val (.ref a2), .unset, .unset, .unset, .unset] [(.int (65535 : Int32)), (.int c2), (.int (2 : Int32)), (.ref a2)])
    refine own_go (fun _ => XS.iand X4.here hx rfl (hb hby at_52) rfl) ?_
    show own_R p.tables e below _ T4 (mkF m 53 #[.val (.int c0), .val (.int c1), .val (.int c2), .val (.int ln), .val (.int ks), .val (.int kc), .val (.int (Int32.ofNat (2 + 1))), .val (.ref a2), .unset, .unset, .unset, .unset] [(.int (c2 &&& (65535 : Int32))), (.int (2 : Int32)), (.ref a2)])
    refine own_go (fun _ => XS.i2c X4.here hx rfl (hb hby at_53) rfl) ?_
    show own_R p.tables e below _ T4 (mkF m 54 #[.val (.int c0), .val (.int c1), .val (.int c2), .val (.int ln), .val (.int ks), .val (.int kc), .val (.int (Int32.ofNat (2 + 1))), .val (.ref a2), .unset, .unset, .unset, .unset] [(.int ((c2 &&& (65535 : Int32)).toUInt32.toUInt16.toUInt32.toInt32)), (.int (2 : Int32)), (.ref a2)])
    obtain ⟨T5, h5, X5, e5, W5, V5, st5⟩ := own_stC X4 hx hZ e4 V4 (j := (2 : Int32)) ⟨by decide, by decide⟩ 2 rfl (by simp) (own_i2c (own_cx2 _)) (g := (mkF m 54 #[.val (.int c0), .val (.int c1), .val (.int c2), .val (.int ln), .val (.int ks), .val (.int kc), .val (.int (Int32.ofNat (2 + 1))), .val (.ref a2), .unset, .unset, .unset, .unset] [(.int ((c2 &&& (65535 : Int32)).toUInt32.toUInt16.toUInt32.toInt32)), (.int (2 : Int32)), (.ref a2)])) rfl rfl (hb hby at_54)
    refine own_go st5 ?_
    show own_R p.tables e below _ T5 (mkF m 55 #[.val (.int c0), .val (.int c1), .val (.int c2), .val (.int ln), .val (.int ks), .val (.int kc), .val (.int (Int32.ofNat (2 + 1))), .val (.ref a2), .unset, .unset, .unset, .unset] [])
    have N5 := Fr.snoc X5 N4 gn2
    have Od5 := Od4.keep (Keep.of_wr W5) (fun x hx => by cases List.mem_singleton.mp hx; exact gn2)
    have Z5 : n0 ≤ h5.size := Nat.le_trans Z4 (Keep.of_wr W5).1
    exact J (2 + 1) a2 k2 [((c0 &&& (65535 : Int32)).toUInt32.toUInt16.toUInt32.toInt32), ((c1 &&& (65535 : Int32)).toUInt32.toUInt16.toUInt32.toInt32), ((c2 &&& (65535 : Int32)).toUInt32.toUInt16.toUInt32.toInt32)] T5 h5 _ (by decide) (by decide) X5 e5 N5 Od5 Z5 V5 (fun i => by rcases i with _ | _ | _ | i <;> first | exact own_cx2 _ | exact own_cx0)
set_option maxRecDepth 65536 in
set_option maxHeartbeats 40000000 in
theorem comes_1 {Post : Tables → Env → Array Value → State → Outcome → State → Prop} (hpost : ∀ tb e args s v u, (limb_1_1.after args s (.returned v) u = true ∧ limb_1_2.after args s (.returned v) u = true ∧ True) → FramedW s (.returned v) u (Jvm.fieldLocs frame_1_writes args s ++ Jvm.arrayLocs frame_1_arrays args s ++ Jvm.staticLocs frame_1_statics s) 24 2176 → Post tb e args s (.returned v) u) :
    ArmFor flags0 classFile x code maxLocals ret World_1 tables_1 room_1 Calls_1 rest_1 Pre_1 Post := by
  intro l hfl _ _ p e ha hc hk s m args below hf hA hF happ hP
  obtain ⟨hcalls, hrest, hpre⟩ := hP
  obtain ⟨-, -, -, hnamed, -, -, -, hat⟩ := (Spec.applies_iff hf).mp happ
  obtain ⟨hg, hn⟩ := and_e (Cond.before_iff.mp (show (Jvm.Cond.and given_1 narrow_1).before args s = true from hpre))
  obtain ⟨gc, q0⟩ := and_e hg
  obtain ⟨g0, q1⟩ := and_e q0
  obtain ⟨g1, q2⟩ := and_e q1
  obtain ⟨g2, q3⟩ := and_e q2
  obtain ⟨g3, q4⟩ := and_e q3
  obtain ⟨g4, q5⟩ := and_e q4
  have g5 := q5
  obtain ⟨w0, w1, w2, w3, w4, w5, rfl⟩ : ∃ w0 w1 w2 w3 w4 w5 : Value, args = #[w0, w1, w2, w3, w4, w5] := by
    have hs : args.size = 6 := by simpa [Cond.value, given_1] using gc
    obtain ⟨L⟩ := args
    match L, hs with
    | [w0, w1, w2, w3, w4, w5], _ => exact ⟨w0, w1, w2, w3, w4, w5, rfl⟩
  have hw := fun d (hd : d ∈ tables_1) => atoms_spec (ws := Jvm.Cond.code x code maxLocals ret :: tables_1) hat d (List.mem_cons_of_mem _ hd)
  have hfit : Fit s := fun {y c} hc i hi => by
    obtain ⟨ha, rfl⟩ := Array.getElem?_eq_some_iff.mp hc
    have q := List.all_eq_true.mp ((Array.all_eq_true_iff_forall_mem.mp hF) _ (Array.getElem_mem ha)) i (List.mem_range.mpr hi)
    simpa [Array.getElem?_eq_getElem hi] using q
  obtain ⟨i0, ei0⟩ := is_v g0
  obtain rfl : w0 = (.int i0) := Option.some.inj ei0
  obtain ⟨i1, ei1⟩ := is_v g1
  obtain rfl : w1 = (.int i1) := Option.some.inj ei1
  obtain ⟨i2, ei2⟩ := is_v g2
  obtain rfl : w2 = (.int i2) := Option.some.inj ei2
  obtain ⟨i3, ei3⟩ := is_v g3
  obtain rfl : w3 = (.int i3) := Option.some.inj ei3
  obtain ⟨i4, ei4⟩ := is_v g4
  obtain rfl : w4 = (.int i4) := Option.some.inj ei4
  obtain ⟨i5, ei5⟩ := is_v g5
  obtain rfl : w5 = (.int i5) := Option.some.inj ei5
  obtain ⟨hsets, hown0⟩ := atoms_of _ (rest_1_c_eq ▸ (show rest_1_c.before _ s = true from hrest))
  obtain ⟨zc, ez⟩ := is_v (Cond.before_iff.mp (hsets _ (List.mem_of_getElem? (i := 1) rfl)))
  have O1 : Sta s s.heap "java/lang/String" "COMPACT_STRINGS" "Z" (.int zc) := Sta.start ez (Or.inl (hsets _ (List.mem_of_getElem? (i := 0) rfl)))
  have hzc : ¬ zc = 0 := gotF (Cond.eq_ints ez (Term.int_eval (0))) (not_v (Cond.before_iff.mp (hsets _ (List.mem_of_getElem? (i := 2) rfl))))
  have O2 : Sta s s.heap "java/lang/StringUTF16" "$assertionsDisabled" "Z" (.int 1) := Sta.start (eqv_i (Term.int_eval 1) (Cond.before_iff.mp (hsets _ (List.mem_of_getElem? (i := 12) rfl)))) (Or.inl (hsets _ (List.mem_of_getElem? (i := 11) rfl)))
  have O3 : Sta s s.heap "java/lang/StringUTF16" "HI_BYTE_SHIFT" "I" (.int 0) := Sta.start (eqv_i (Term.int_eval 0) (Cond.before_iff.mp (hsets _ (List.mem_of_getElem? (i := 15) rfl)))) (Or.inl (hsets _ (List.mem_of_getElem? (i := 14) rfl)))
  have O4 : Sta s s.heap "java/lang/StringUTF16" "LO_BYTE_SHIFT" "I" (.int 8) := Sta.start (eqv_i (Term.int_eval 8) (Cond.before_iff.mp (hsets _ (List.mem_of_getElem? (i := 18) rfl)))) (Or.inl (hsets _ (List.mem_of_getElem? (i := 17) rfl)))
  obtain ⟨n, o, h1, h2, h3, _, L, rfl, ⟨rfl, N⟩, hq⟩ := rm0 l s _ hw tables_1 s.heap s.heap.size zc O1 hzc O2 O3 O4 (Old.start s) i0 i1 i2 i3 i4 i5 (Nat.le_refl _) p e ha hc hk s m _ below hf ((Spec.applies_iff_loose hf).mp happ).1 ⟨rfl, State.Warmed39.refl s, rfl⟩ trivial
  refine ⟨n, _, h1, h2, h3, hpost _ _ _ _ _ _ ⟨Cond.after_iff.mpr rfl, Cond.after_iff.mpr (eq_i res_at (Term.int_eval (1)) rfl), trivial⟩ ⟨hq.1, hq.2.1, hq.2.2.1, (hq.2.2.2.sift fun y hy => Or.inr (N y hy)).mono (by decide) (by decide)⟩⟩
theorem main_1_1 : Claimed_1_1 := comes_1 fun _ _ _ _ _ _ h hF => ⟨h.1, hF⟩
theorem main_1_2 : Claimed_1_2 := comes_1 fun _ _ _ _ _ _ h hF => ⟨h.2.1, hF⟩

end Jvm.Pilot.@@N@@
namespace Jvm.Pilot.@@N@@
open Jvm Jvm.ClassFile Sem Op Lib Jvm.Free Jvm.Stand Jvm.Pilot.@@N@@.Jvm.D
/-! MADE BY PROGRAM (witnessworld.py) out of the Statement's table words and the real class files: 21 classes; the members and pool entries that the words name. The judged class is class 1, her method 1. -/
namespace start1
open Jvm.ClassFile
def u (s : String) : CpInfo := .utf8 (stringToUtf16 s)
/-- a pool by its gaps: so many unusable entries, then the entry; so many at the end -/
def gap : Nat → List CpInfo → List CpInfo
  | 0, r => r
  | n + 1, r => .unusable :: gap n r
def poolList (es : List (Nat × CpInfo)) (last : Nat) : List CpInfo := es.foldr (fun e r => gap e.1 (e.2 :: r)) (gap last [])
def pool (es : List (Nat × CpInfo)) (last : Nat) : Array CpInfo := ⟨poolList es last⟩
def fileOf (pool : Array CpInfo) (this : Nat) (attrs : Array Attribute := #[]) (ms : Array MethodInfo := #[]) (fl : Nat := 33) (sup : Nat := 0) (ifs : Array Nat := #[]) (fds : Array FieldInfo := #[]) : ClassFile where
  minorVersion := 0
  majorVersion := 65
  constantPool := pool
  accessFlags := fl
  thisClass := this
  superClass := sup
  interfaces := ifs
  fields := fds
  methods := ms
  attributes := attrs
def plain (name : String) (sup : Option ClassId) : Class where
  name := name
  kind := .ordinary
  loader := none
  accessFlags := 33
  super := sup
  interfaces := #[]
  cf := none
  fields := #[]
  methods := #[]
  instanceTypes := #[]
  staticTypes := #[]
  resolved := #[]
  callSites := []
  init := .initialized
  statics := none
  mirror := none

def pool0 : Array CpInfo := pool [(5, u "<init>"), (0, u "()V"), (1, .class_ 10), (1, u "java/lang/Object")] 113

def k0c0 : Code := { maxStack := 0, maxLocals := 1, code := object_method_1_code, exceptionTable := #[], attributes := #[] }
def k0m0 : Method := { name := "<init>", desc := "()V", sig := { parameters := [], returnType := none }, accessFlags := 1, code := some k0c0 }
/-- java/lang/Object -/
def k0 : Class := { plain "java/lang/Object" none with
  accessFlags := 33
  interfaces := #[]
  cf := some (fileOf pool0 8 #[] #[{ accessFlags := 1, nameIndex := 5, descriptorIndex := 6, attributes := #[] }] 33 0 #[] #[])
  fields := #[]
  methods := #[k0m0]
  instanceTypes := #[]
  staticTypes := #[]
  resolved := Array.replicate 124 none
  statics := none }

def pool1 : Array CpInfo := pool [(2, .class_ 4), (1, u "java/lang/Object"), (0, u "<init>"), (0, u "()V"), (0, .integer 2147483647), (0, .integer 65535), (0, .class_ 10), (0, u "java/lang/String"), (0, .methodref 9 12), (0, .nameAndType 5 13), (0, u "([C)V"), (0, .string 15), (0, u ""), (0, .methodref 9 17), (0, .nameAndType 18 19), (0, u "valueOf"), (0, u "(C)Ljava/lang/String;"), (0, .methodref 21 22), (0, .class_ 23), (0, .nameAndType 24 25), (0, u "com/example/cerrojo/cerrojo/lock/Keys"), (0, u "checkName"), (0, u "(Ljava/lang/String;Ljava/lang/String;)Ljava/lang/String;"), (0, .class_ 27), (0, u "com/example/cerrojo/cerrojo/lock/KeysCheckNamePinLaw"), (2, u "law"), (0, u "(IIIIII)Z")] 5

def k1m0 : Method := { name := "<init>", desc := "()V", sig := { parameters := [], returnType := none }, accessFlags := 2, code := none }
def k1c1 : Code := { maxStack := 4, maxLocals := 12, code := code, exceptionTable := #[], attributes := #[] }
def k1m1 : Method := { name := "law", desc := "(IIIIII)Z", sig := { parameters := [.int, .int, .int, .int, .int, .int], returnType := some .boolean }, accessFlags := 9, code := some k1c1 }
/-- com/example/cerrojo/cerrojo/lock/KeysCheckNamePinLaw -/
def k1 : Class := { plain "com/example/cerrojo/cerrojo/lock/KeysCheckNamePinLaw" (some 0) with
  accessFlags := 49
  interfaces := #[]
  cf := some (fileOf pool1 26 #[] #[{ accessFlags := 2, nameIndex := 5, descriptorIndex := 6, attributes := #[] }, { accessFlags := 9, nameIndex := 30, descriptorIndex := 31, attributes := #[] }] 49 2 #[] #[])
  fields := #[]
  methods := #[k1m0, k1m1]
  instanceTypes := #[]
  staticTypes := #[]
  resolved := Array.replicate 37 none
  statics := none }

def pool2 : Array CpInfo := pool [(1, .class_ 2), (0, u "java/io/Serializable"), (0, .class_ 4), (0, u "java/lang/Object")] 2

/-- java/io/Serializable -/
def k2 : Class := { plain "java/io/Serializable" (some 0) with
  accessFlags := 1537
  interfaces := #[]
  cf := some (fileOf pool2 1 #[] #[] 1537 3 #[] #[])
  fields := #[]
  methods := #[]
  instanceTypes := #[]
  staticTypes := #[]
  resolved := Array.replicate 7 none
  statics := none }

def pool3 : Array CpInfo := pool [(1, .class_ 2), (0, u "java/lang/Comparable"), (0, .class_ 4), (0, u "java/lang/Object")] 7

/-- java/lang/Comparable -/
def k3 : Class := { plain "java/lang/Comparable" (some 0) with
  accessFlags := 1537
  interfaces := #[]
  cf := some (fileOf pool3 1 #[] #[] 1537 3 #[] #[])
  fields := #[]
  methods := #[]
  instanceTypes := #[]
  staticTypes := #[]
  resolved := Array.replicate 12 none
  statics := none }

def pool4 : Array CpInfo := pool [(2, .class_ 4), (1, u "java/lang/CharSequence"), (42, .class_ 48), (0, u "java/lang/CharSequence$1CodePointIterator"), (10, .class_ 60), (0, u "java/lang/CharSequence$1CharIterator"), (5, .class_ 67), (0, u "java/lang/Object")] 63

/-- java/lang/CharSequence -/
def k4 : Class := { plain "java/lang/CharSequence" (some 0) with
  accessFlags := 1537
  interfaces := #[]
  cf := some (fileOf pool4 2 #[.nestMembers #[47, 59]] #[] 1537 66 #[] #[])
  fields := #[]
  methods := #[]
  instanceTypes := #[]
  staticTypes := #[]
  resolved := Array.replicate 131 none
  statics := none }

def pool5 : Array CpInfo := pool [(1, .class_ 2), (0, u "java/lang/constant/Constable"), (0, .class_ 4), (0, u "java/lang/Object")] 6

/-- java/lang/constant/Constable -/
def k5 : Class := { plain "java/lang/constant/Constable" (some 0) with
  accessFlags := 1537
  interfaces := #[]
  cf := some (fileOf pool5 1 #[] #[] 1537 3 #[] #[])
  fields := #[]
  methods := #[]
  instanceTypes := #[]
  staticTypes := #[]
  resolved := Array.replicate 11 none
  statics := none }

def pool6 : Array CpInfo := pool [(1, .class_ 2), (0, u "java/lang/constant/ConstantDesc"), (0, .class_ 4), (0, u "java/lang/Object")] 32

/-- java/lang/constant/ConstantDesc -/
def k6 : Class := { plain "java/lang/constant/ConstantDesc" (some 0) with
  accessFlags := 1537
  interfaces := #[]
  cf := some (fileOf pool6 1 #[] #[] 1537 3 #[] #[])
  fields := #[]
  methods := #[]
  instanceTypes := #[]
  staticTypes := #[]
  resolved := Array.replicate 37 none
  statics := none }

def pool7 : Array CpInfo := pool [(1, .methodref 2 3), (0, .class_ 4), (0, .nameAndType 5 6), (0, u "java/lang/Object"), (0, u "<init>"), (0, u "()V"), (2, .fieldref 10 11), (0, .class_ 12), (0, .nameAndType 13 14), (0, u "java/lang/String"), (0, u "value"), (0, u "[B"), (0, .fieldref 10 16), (0, .nameAndType 17 18), (0, u "coder"), (0, u "B"), (2, u "hash"), (0, u "I"), (2, u "hashIsZero"), (0, u "Z"), (0, .methodref 10 28), (0, .nameAndType 5 29), (0, u "([CIILjava/lang/Void;)V"), (8, .fieldref 10 39), (0, .nameAndType 40 26), (0, u "COMPACT_STRINGS"), (1, .class_ 44), (1, u "java/lang/StringUTF16"), (0, u "compress"), (1, .methodref 42 48), (0, .nameAndType 49 50), (0, u "coderFromArrayLen"), (0, u "([BI)B"), (2, u "toBytes"), (53, .class_ 109), (1, u "java/lang/StringLatin1"), (32, u "()Z"), (34, .methodref 42 178), (0, .nameAndType 45 179), (0, u "([CII)[B"), (29, .methodref 10 210), (0, .nameAndType 5 211), (0, u "([BB)V"), (157, u "(C)Z"), (205, .class_ 576), (0, u "java/lang/CharSequence"), (22, u "CASE_INSENSITIVE_ORDER"), (0, u "Ljava/util/Comparator;"), (91, u "isEmpty"), (89, u "valueOf"), (0, u "(C)Ljava/lang/String;"), (226, u "([C)V"), (4, .methodref 107 1016), (0, .nameAndType 1017 369), (0, u "canEncode"), (0, .methodref 107 1019), (0, .nameAndType 53 1020), (0, u "(C)[B"), (0, .methodref 42 1019), (79, u "serialPersistentFields"), (0, u "[Ljava/io/ObjectStreamField;"), (0, .class_ 1104), (0, u "java/lang/String$CaseInsensitiveComparator"), (1, .class_ 1107), (0, u "java/io/Serializable"), (0, .class_ 1109), (0, u "java/lang/Comparable"), (0, .class_ 1111), (0, u "java/lang/constant/Constable"), (0, .class_ 1113), (0, u "java/lang/constant/ConstantDesc"), (2, u "serialVersionUID"), (0, u "J"), (3, u "REPL"), (0, u "C"), (2, u "LATIN1"), (1, u "UTF16")] 323

def k7m0 : Method := { name := "<init>", desc := "()V", sig := { parameters := [], returnType := none }, accessFlags := 1, code := none }
def k7c1 : Code := { maxStack := 5, maxLocals := 2, code := jdk_42_method_3_code, exceptionTable := #[], attributes := #[] }
def k7m1 : Method := { name := "<init>", desc := "([C)V", sig := { parameters := [(.array .char)], returnType := none }, accessFlags := 1, code := some k7c1 }
def k7c2 : Code := { maxStack := 1, maxLocals := 1, code := jdk_42_method_55_code, exceptionTable := #[], attributes := #[] }
def k7m2 : Method := { name := "isEmpty", desc := "()Z", sig := { parameters := [], returnType := some .boolean }, accessFlags := 1, code := some k7c2 }
def k7c3 : Code := { maxStack := 4, maxLocals := 1, code := jdk_42_method_139_code, exceptionTable := #[], attributes := #[] }
def k7m3 : Method := { name := "valueOf", desc := "(C)Ljava/lang/String;", sig := { parameters := [.char], returnType := some (.object "java/lang/String") }, accessFlags := 9, code := some k7c3 }
def k7c4 : Code := { maxStack := 4, maxLocals := 6, code := jdk_42_method_149_code, exceptionTable := #[], attributes := #[] }
def k7m4 : Method := { name := "<init>", desc := "([CIILjava/lang/Void;)V", sig := { parameters := [(.array .char), .int, .int, (.object "java/lang/Void")], returnType := none }, accessFlags := 2, code := some k7c4 }
def k7c5 : Code := { maxStack := 2, maxLocals := 3, code := jdk_42_method_151_code, exceptionTable := #[], attributes := #[] }
def k7m5 : Method := { name := "<init>", desc := "([BB)V", sig := { parameters := [(.array .byte), .byte], returnType := none }, accessFlags := 0, code := some k7c5 }
/-- java/lang/String -/
def k7 : Class := { plain "java/lang/String" (some 0) with
  accessFlags := 49
  interfaces := #[2, 3, 4, 5, 6]
  cf := some (fileOf pool7 10 #[.nestMembers #[1103]] #[{ accessFlags := 1, nameIndex := 5, descriptorIndex := 6, attributes := #[] }, { accessFlags := 1, nameIndex := 5, descriptorIndex := 1010, attributes := #[] }, { accessFlags := 1, nameIndex := 692, descriptorIndex := 142, attributes := #[] }, { accessFlags := 9, nameIndex := 782, descriptorIndex := 783, attributes := #[] }, { accessFlags := 2, nameIndex := 5, descriptorIndex := 29, attributes := #[] }, { accessFlags := 0, nameIndex := 5, descriptorIndex := 211, attributes := #[] }] 49 2 #[1106, 1108, 575, 1110, 1112] #[{ accessFlags := 18, nameIndex := 13, descriptorIndex := 14, attributes := #[] }, { accessFlags := 18, nameIndex := 17, descriptorIndex := 18, attributes := #[] }, { accessFlags := 2, nameIndex := 21, descriptorIndex := 22, attributes := #[] }, { accessFlags := 2, nameIndex := 25, descriptorIndex := 26, attributes := #[] }, { accessFlags := 26, nameIndex := 1116, descriptorIndex := 1117, attributes := #[] }, { accessFlags := 24, nameIndex := 40, descriptorIndex := 26, attributes := #[] }, { accessFlags := 26, nameIndex := 1101, descriptorIndex := 1102, attributes := #[] }, { accessFlags := 26, nameIndex := 1121, descriptorIndex := 1122, attributes := #[] }, { accessFlags := 25, nameIndex := 599, descriptorIndex := 600, attributes := #[] }, { accessFlags := 24, nameIndex := 1125, descriptorIndex := 18, attributes := #[] }, { accessFlags := 24, nameIndex := 1127, descriptorIndex := 18, attributes := #[] }])
  fields := #[{ name := "value", type := (.array .byte), accessFlags := 18, slot := 0, constantValue := 0 }, { name := "coder", type := .byte, accessFlags := 18, slot := 1, constantValue := 0 }, { name := "hash", type := .int, accessFlags := 2, slot := 2, constantValue := 0 }, { name := "hashIsZero", type := .boolean, accessFlags := 2, slot := 3, constantValue := 0 }, { name := "serialVersionUID", type := .long, accessFlags := 26, slot := 0, constantValue := 0 }, { name := "COMPACT_STRINGS", type := .boolean, accessFlags := 24, slot := 1, constantValue := 0 }, { name := "serialPersistentFields", type := (.array (.object "java/io/ObjectStreamField")), accessFlags := 26, slot := 2, constantValue := 0 }, { name := "REPL", type := .char, accessFlags := 26, slot := 3, constantValue := 0 }, { name := "CASE_INSENSITIVE_ORDER", type := (.object "java/util/Comparator"), accessFlags := 25, slot := 4, constantValue := 0 }, { name := "LATIN1", type := .byte, accessFlags := 24, slot := 5, constantValue := 0 }, { name := "UTF16", type := .byte, accessFlags := 24, slot := 6, constantValue := 0 }]
  methods := #[k7m0, k7m1, k7m2, k7m3, k7m4, k7m5]
  instanceTypes := #[(.array .byte), .byte, .int, .boolean]
  staticTypes := #[.long, .boolean, (.array (.object "java/io/ObjectStreamField")), .char, (.object "java/util/Comparator"), .byte, .byte]
  resolved := Array.replicate 1451 none
  statics := some 0 }

def pool8 : Array CpInfo := pool [(6, .class_ 8), (1, u "java/lang/Object"), (0, u "<init>"), (0, u "()V"), (0, .methodref 12 13), (0, .class_ 14), (0, .nameAndType 15 16), (0, u "java/lang/StringUTF16"), (0, u "newBytesLength"), (0, u "(I)I"), (3, .integer 1073741823), (23, .fieldref 12 45), (0, .nameAndType 46 47), (0, u "$assertionsDisabled"), (0, u "Z"), (11, .fieldref 12 60), (0, .nameAndType 61 62), (0, u "HI_BYTE_SHIFT"), (0, u "I"), (0, .fieldref 12 64), (0, .nameAndType 65 62), (0, u "LO_BYTE_SHIFT"), (5, .methodref 12 72), (0, .nameAndType 73 74), (0, u "getChar"), (0, u "([BI)C"), (32, .methodref 12 108), (0, .nameAndType 109 110), (0, u "newBytesFor"), (0, u "(I)[B"), (0, .methodref 12 112), (0, .nameAndType 113 114), (0, u "putChar"), (0, u "([BII)V"), (0, .methodref 12 116), (0, .nameAndType 117 118), (0, u "compress"), (0, u "([CI[BII)I"), (0, .methodref 12 120), (0, .nameAndType 121 122), (0, u "toBytes"), (0, u "([CII)[B"), (138, u "coderFromArrayLen"), (0, u "([BI)B"), (106, .class_ 371), (1, u "java/lang/StringUTF16$LinesSpliterator"), (58, u "MAX_LENGTH"), (44, u "(C)[B"), (151, .class_ 628), (0, u "java/lang/StringUTF16$CodePointsSpliterator"), (0, .class_ 630), (0, u "java/lang/StringUTF16$CharsSpliterator")] 4

def k8m0 : Method := { name := "<init>", desc := "()V", sig := { parameters := [], returnType := none }, accessFlags := 0, code := none }
def k8c1 : Code := { maxStack := 1, maxLocals := 1, code := jdk_52_method_2_code, exceptionTable := #[], attributes := #[] }
def k8m1 : Method := { name := "newBytesFor", desc := "(I)[B", sig := { parameters := [.int], returnType := some (.array .byte) }, accessFlags := 9, code := some k8c1 }
def k8c2 : Code := { maxStack := 4, maxLocals := 1, code := jdk_52_method_3_code, exceptionTable := #[], attributes := #[] }
def k8m2 : Method := { name := "newBytesLength", desc := "(I)I", sig := { parameters := [.int], returnType := some .int }, accessFlags := 9, code := some k8c2 }
def k8c3 : Code := { maxStack := 4, maxLocals := 3, code := jdk_52_method_4_code, exceptionTable := #[], attributes := #[] }
def k8m3 : Method := { name := "putChar", desc := "([BII)V", sig := { parameters := [(.array .byte), .int, .int], returnType := none }, accessFlags := 8, code := some k8c3 }
def k8c4 : Code := { maxStack := 3, maxLocals := 2, code := jdk_52_method_5_code, exceptionTable := #[], attributes := #[] }
def k8m4 : Method := { name := "getChar", desc := "([BI)C", sig := { parameters := [(.array .byte), .int], returnType := some .char }, accessFlags := 8, code := some k8c4 }
def k8c5 : Code := { maxStack := 4, maxLocals := 5, code := jdk_52_method_14_code, exceptionTable := #[], attributes := #[] }
def k8m5 : Method := { name := "toBytes", desc := "([CII)[B", sig := { parameters := [(.array .char), .int, .int], returnType := some (.array .byte) }, accessFlags := 9, code := some k8c5 }
def k8c6 : Code := { maxStack := 2, maxLocals := 2, code := jdk_52_method_15_code, exceptionTable := #[], attributes := #[] }
def k8m6 : Method := { name := "coderFromArrayLen", desc := "([BI)B", sig := { parameters := [(.array .byte), .int], returnType := some .byte }, accessFlags := 8, code := some k8c6 }
def k8c7 : Code := { maxStack := 5, maxLocals := 6, code := jdk_52_method_16_code, exceptionTable := #[], attributes := #[] }
def k8m7 : Method := { name := "compress", desc := "([CII)[B", sig := { parameters := [(.array .char), .int, .int], returnType := some (.array .byte) }, accessFlags := 9, code := some k8c7 }
def k8c8 : Code := { maxStack := 3, maxLocals := 7, code := jdk_52_method_21_code, exceptionTable := #[], attributes := #[] }
def k8m8 : Method := { name := "compress", desc := "([CI[BII)I", sig := { parameters := [(.array .char), .int, (.array .byte), .int, .int], returnType := some .int }, accessFlags := 9, code := some k8c8 }
def k8c9 : Code := { maxStack := 3, maxLocals := 2, code := jdk_52_method_24_code, exceptionTable := #[], attributes := #[] }
def k8m9 : Method := { name := "toBytes", desc := "(C)[B", sig := { parameters := [.char], returnType := some (.array .byte) }, accessFlags := 9, code := some k8c9 }
/-- java/lang/StringUTF16 -/
def k8 : Class := { plain "java/lang/StringUTF16" (some 0) with
  accessFlags := 48
  interfaces := #[]
  cf := some (fileOf pool8 12 #[.nestMembers #[627, 629, 369]] #[{ accessFlags := 0, nameIndex := 9, descriptorIndex := 10, attributes := #[] }, { accessFlags := 9, nameIndex := 109, descriptorIndex := 110, attributes := #[] }, { accessFlags := 9, nameIndex := 15, descriptorIndex := 16, attributes := #[] }, { accessFlags := 8, nameIndex := 113, descriptorIndex := 114, attributes := #[] }, { accessFlags := 8, nameIndex := 73, descriptorIndex := 74, attributes := #[] }, { accessFlags := 9, nameIndex := 121, descriptorIndex := 122, attributes := #[] }, { accessFlags := 8, nameIndex := 261, descriptorIndex := 262, attributes := #[] }, { accessFlags := 9, nameIndex := 117, descriptorIndex := 122, attributes := #[] }, { accessFlags := 9, nameIndex := 117, descriptorIndex := 118, attributes := #[] }, { accessFlags := 9, nameIndex := 121, descriptorIndex := 475, attributes := #[] }] 48 6 #[] #[{ accessFlags := 26, nameIndex := 61, descriptorIndex := 62, attributes := #[] }, { accessFlags := 26, nameIndex := 65, descriptorIndex := 62, attributes := #[] }, { accessFlags := 24, nameIndex := 430, descriptorIndex := 62, attributes := #[] }, { accessFlags := 4120, nameIndex := 46, descriptorIndex := 47, attributes := #[] }])
  fields := #[{ name := "HI_BYTE_SHIFT", type := .int, accessFlags := 26, slot := 0, constantValue := 0 }, { name := "LO_BYTE_SHIFT", type := .int, accessFlags := 26, slot := 1, constantValue := 0 }, { name := "MAX_LENGTH", type := .int, accessFlags := 24, slot := 2, constantValue := 0 }, { name := "$assertionsDisabled", type := .boolean, accessFlags := 4120, slot := 3, constantValue := 0 }]
  methods := #[k8m0, k8m1, k8m2, k8m3, k8m4, k8m5, k8m6, k8m7, k8m8, k8m9]
  instanceTypes := #[]
  staticTypes := #[.int, .int, .int, .boolean]
  resolved := Array.replicate 635 none
  statics := some 1 }

def pool9 : Array CpInfo := pool [(2, .class_ 4), (1, u "java/lang/Object"), (0, u "<init>"), (0, u "()V"), (0, .string 8), (0, u "name"), (0, .methodref 10 11), (0, .class_ 12), (0, .nameAndType 13 14), (0, u "java/util/Objects"), (0, u "requireNonNull"), (0, u "(Ljava/lang/Object;Ljava/lang/String;)Ljava/lang/Object;"), (0, .methodref 16 17), (0, .class_ 18), (0, .nameAndType 19 20), (0, u "java/lang/String"), (0, u "isEmpty"), (0, u "()Z"), (11, u "(Ljava/lang/String;Ljava/lang/String;)Ljava/lang/String;"), (0, .class_ 34), (0, u "com/example/cerrojo/cerrojo/lock/Keys"), (2, u "checkName")] 21

def k9m0 : Method := { name := "<init>", desc := "()V", sig := { parameters := [], returnType := none }, accessFlags := 2, code := none }
def k9c1 : Code := { maxStack := 3, maxLocals := 2, code := prog_10_method_2_code, exceptionTable := #[], attributes := #[] }
def k9m1 : Method := { name := "checkName", desc := "(Ljava/lang/String;Ljava/lang/String;)Ljava/lang/String;", sig := { parameters := [(.object "java/lang/String"), (.object "java/lang/String")], returnType := some (.object "java/lang/String") }, accessFlags := 8, code := some k9c1 }
/-- com/example/cerrojo/cerrojo/lock/Keys -/
def k9 : Class := { plain "com/example/cerrojo/cerrojo/lock/Keys" (some 0) with
  accessFlags := 32
  interfaces := #[]
  cf := some (fileOf pool9 33 #[] #[{ accessFlags := 2, nameIndex := 5, descriptorIndex := 6, attributes := #[] }, { accessFlags := 8, nameIndex := 37, descriptorIndex := 32, attributes := #[] }] 32 2 #[] #[])
  fields := #[]
  methods := #[k9m0, k9m1]
  instanceTypes := #[]
  staticTypes := #[]
  resolved := Array.replicate 59 none
  statics := none }

def pool10 : Array CpInfo := pool [(2, .class_ 4), (1, u "java/lang/Object"), (0, u "<init>"), (0, u "()V"), (35, .class_ 44), (1, u "java/util/Objects"), (0, u "requireNonNull"), (48, u "(Ljava/lang/Object;Ljava/lang/String;)Ljava/lang/Object;")] 89

def k10m0 : Method := { name := "<init>", desc := "()V", sig := { parameters := [], returnType := none }, accessFlags := 2, code := none }
def k10c1 : Code := { maxStack := 3, maxLocals := 2, code := jdk_31_method_11_code, exceptionTable := #[], attributes := #[] }
def k10m1 : Method := { name := "requireNonNull", desc := "(Ljava/lang/Object;Ljava/lang/String;)Ljava/lang/Object;", sig := { parameters := [(.object "java/lang/Object"), (.object "java/lang/String")], returnType := some (.object "java/lang/Object") }, accessFlags := 9, code := some k10c1 }
/-- java/util/Objects -/
def k10 : Class := { plain "java/util/Objects" (some 0) with
  accessFlags := 49
  interfaces := #[]
  cf := some (fileOf pool10 42 #[] #[{ accessFlags := 2, nameIndex := 5, descriptorIndex := 6, attributes := #[] }, { accessFlags := 9, nameIndex := 45, descriptorIndex := 94, attributes := #[] }] 49 2 #[] #[])
  fields := #[]
  methods := #[k10m0, k10m1]
  instanceTypes := #[]
  staticTypes := #[]
  resolved := Array.replicate 184 none
  statics := none }

def pool11 : Array CpInfo := pool [(4, .class_ 6), (1, u "java/lang/Object"), (0, u "<init>"), (0, u "()V"), (5, .class_ 16), (1, u "java/lang/StringLatin1"), (73, u "canEncode"), (14, u "(C)Z"), (15, u "$assertionsDisabled"), (0, u "Z"), (98, .class_ 223), (1, u "java/lang/StringLatin1$LinesSpliterator"), (156, u "toBytes"), (1, u "(C)[B"), (7, .class_ 391), (0, u "java/lang/StringLatin1$CharsSpliterator")] 3

def k11m0 : Method := { name := "<init>", desc := "()V", sig := { parameters := [], returnType := none }, accessFlags := 0, code := none }
def k11c1 : Code := { maxStack := 2, maxLocals := 1, code := jdk_43_method_3_code, exceptionTable := #[], attributes := #[] }
def k11m1 : Method := { name := "canEncode", desc := "(C)Z", sig := { parameters := [.char], returnType := some .boolean }, accessFlags := 9, code := some k11c1 }
def k11c2 : Code := { maxStack := 4, maxLocals := 1, code := jdk_43_method_46_code, exceptionTable := #[], attributes := #[] }
def k11m2 : Method := { name := "toBytes", desc := "(C)[B", sig := { parameters := [.char], returnType := some (.array .byte) }, accessFlags := 9, code := some k11c2 }
/-- java/lang/StringLatin1 -/
def k11 : Class := { plain "java/lang/StringLatin1" (some 0) with
  accessFlags := 48
  interfaces := #[]
  cf := some (fileOf pool11 14 #[.nestMembers #[390, 221]] #[{ accessFlags := 0, nameIndex := 7, descriptorIndex := 8, attributes := #[] }, { accessFlags := 9, nameIndex := 90, descriptorIndex := 105, attributes := #[] }, { accessFlags := 9, nameIndex := 380, descriptorIndex := 382, attributes := #[] }] 48 4 #[] #[{ accessFlags := 4120, nameIndex := 121, descriptorIndex := 122, attributes := #[] }])
  fields := #[{ name := "$assertionsDisabled", type := .boolean, accessFlags := 4120, slot := 0, constantValue := 0 }]
  methods := #[k11m0, k11m1, k11m2]
  instanceTypes := #[]
  staticTypes := #[.boolean]
  resolved := Array.replicate 395 none
  statics := none }

def pool12 : Array CpInfo := pool [(2, .class_ 4), (1, u "java/lang/Object"), (0, u "<init>"), (0, u "()V"), (17, .class_ 26), (1, u "jdk/internal/util/Preconditions"), (28, .class_ 56), (0, u "jdk/internal/util/Preconditions$4"), (57, .class_ 115), (0, u "jdk/internal/util/Preconditions$1"), (7, u "SIOOBE_FORMATTER"), (0, u "Ljava/util/function/BiFunction;"), (0, .class_ 126), (0, u "jdk/internal/util/Preconditions$2"), (3, u "AIOOBE_FORMATTER"), (0, .class_ 132), (0, u "jdk/internal/util/Preconditions$3"), (3, u "IOOBE_FORMATTER")] 57

def k12m0 : Method := { name := "<init>", desc := "()V", sig := { parameters := [], returnType := none }, accessFlags := 1, code := none }
/-- jdk/internal/util/Preconditions -/
def k12 : Class := { plain "jdk/internal/util/Preconditions" (some 0) with
  accessFlags := 33
  interfaces := #[]
  cf := some (fileOf pool12 24 #[.nestMembers #[55, 131, 125, 114]] #[{ accessFlags := 1, nameIndex := 5, descriptorIndex := 6, attributes := #[] }] 33 2 #[] #[{ accessFlags := 25, nameIndex := 123, descriptorIndex := 124, attributes := #[] }, { accessFlags := 25, nameIndex := 130, descriptorIndex := 124, attributes := #[] }, { accessFlags := 25, nameIndex := 136, descriptorIndex := 124, attributes := #[] }])
  fields := #[{ name := "SIOOBE_FORMATTER", type := (.object "java/util/function/BiFunction"), accessFlags := 25, slot := 0, constantValue := 0 }, { name := "AIOOBE_FORMATTER", type := (.object "java/util/function/BiFunction"), accessFlags := 25, slot := 1, constantValue := 0 }, { name := "IOOBE_FORMATTER", type := (.object "java/util/function/BiFunction"), accessFlags := 25, slot := 2, constantValue := 0 }]
  methods := #[k12m0]
  instanceTypes := #[]
  staticTypes := #[(.object "java/util/function/BiFunction"), (.object "java/util/function/BiFunction"), (.object "java/util/function/BiFunction")]
  resolved := Array.replicate 194 none
  statics := some 2 }

def pool13 : Array CpInfo := pool [(9, u "<init>"), (6, .class_ 18), (1, u "java/lang/Object"), (0, u "()V"), (1, .class_ 23), (1, u "jdk/internal/util/ArraysSupport"), (0, u "LOG2_ARRAY_LONG_INDEX_SCALE"), (0, u "I"), (2, u "U"), (0, u "Ljdk/internal/misc/Unsafe;"), (8, u "BIG_ENDIAN"), (0, u "Z"), (8, u "LOG2_BYTE_BIT_SIZE"), (4, u "LOG2_ARRAY_INT_INDEX_SCALE"), (54, u "JLA"), (0, u "Ljdk/internal/access/JavaLangAccess;"), (11, u "LOG2_ARRAY_BOOLEAN_INDEX_SCALE"), (9, u "LOG2_ARRAY_BYTE_INDEX_SCALE"), (5, u "LOG2_ARRAY_CHAR_INDEX_SCALE"), (5, u "LOG2_ARRAY_SHORT_INDEX_SCALE"), (18, u "LOG2_ARRAY_FLOAT_INDEX_SCALE"), (24, u "LOG2_ARRAY_DOUBLE_INDEX_SCALE"), (89, u "T_BOOLEAN"), (2, u "T_CHAR"), (1, u "T_FLOAT"), (1, u "T_DOUBLE"), (1, u "T_BYTE"), (1, u "T_SHORT"), (1, u "T_INT"), (1, u "T_LONG"), (1, u "SOFT_MAX_ARRAY_LENGTH")] 83

def k13m0 : Method := { name := "<init>", desc := "()V", sig := { parameters := [], returnType := none }, accessFlags := 2, code := none }
/-- jdk/internal/util/ArraysSupport -/
def k13 : Class := { plain "jdk/internal/util/ArraysSupport" (some 0) with
  accessFlags := 33
  interfaces := #[]
  cf := some (fileOf pool13 21 #[] #[{ accessFlags := 2, nameIndex := 9, descriptorIndex := 19, attributes := #[] }] 33 16 #[] #[{ accessFlags := 24, nameIndex := 28, descriptorIndex := 29, attributes := #[] }, { accessFlags := 26, nameIndex := 38, descriptorIndex := 39, attributes := #[] }, { accessFlags := 25, nameIndex := 121, descriptorIndex := 25, attributes := #[] }, { accessFlags := 25, nameIndex := 131, descriptorIndex := 25, attributes := #[] }, { accessFlags := 25, nameIndex := 137, descriptorIndex := 25, attributes := #[] }, { accessFlags := 25, nameIndex := 143, descriptorIndex := 25, attributes := #[] }, { accessFlags := 25, nameIndex := 53, descriptorIndex := 25, attributes := #[] }, { accessFlags := 25, nameIndex := 24, descriptorIndex := 25, attributes := #[] }, { accessFlags := 25, nameIndex := 162, descriptorIndex := 25, attributes := #[] }, { accessFlags := 25, nameIndex := 187, descriptorIndex := 25, attributes := #[] }, { accessFlags := 26, nameIndex := 48, descriptorIndex := 25, attributes := #[] }, { accessFlags := 25, nameIndex := 277, descriptorIndex := 25, attributes := #[] }, { accessFlags := 25, nameIndex := 280, descriptorIndex := 25, attributes := #[] }, { accessFlags := 25, nameIndex := 282, descriptorIndex := 25, attributes := #[] }, { accessFlags := 25, nameIndex := 284, descriptorIndex := 25, attributes := #[] }, { accessFlags := 25, nameIndex := 286, descriptorIndex := 25, attributes := #[] }, { accessFlags := 25, nameIndex := 288, descriptorIndex := 25, attributes := #[] }, { accessFlags := 25, nameIndex := 290, descriptorIndex := 25, attributes := #[] }, { accessFlags := 25, nameIndex := 292, descriptorIndex := 25, attributes := #[] }, { accessFlags := 26, nameIndex := 108, descriptorIndex := 109, attributes := #[] }, { accessFlags := 25, nameIndex := 294, descriptorIndex := 25, attributes := #[] }])
  fields := #[{ name := "U", type := (.object "jdk/internal/misc/Unsafe"), accessFlags := 24, slot := 0, constantValue := 0 }, { name := "BIG_ENDIAN", type := .boolean, accessFlags := 26, slot := 1, constantValue := 0 }, { name := "LOG2_ARRAY_BOOLEAN_INDEX_SCALE", type := .int, accessFlags := 25, slot := 2, constantValue := 0 }, { name := "LOG2_ARRAY_BYTE_INDEX_SCALE", type := .int, accessFlags := 25, slot := 3, constantValue := 0 }, { name := "LOG2_ARRAY_CHAR_INDEX_SCALE", type := .int, accessFlags := 25, slot := 4, constantValue := 0 }, { name := "LOG2_ARRAY_SHORT_INDEX_SCALE", type := .int, accessFlags := 25, slot := 5, constantValue := 0 }, { name := "LOG2_ARRAY_INT_INDEX_SCALE", type := .int, accessFlags := 25, slot := 6, constantValue := 0 }, { name := "LOG2_ARRAY_LONG_INDEX_SCALE", type := .int, accessFlags := 25, slot := 7, constantValue := 0 }, { name := "LOG2_ARRAY_FLOAT_INDEX_SCALE", type := .int, accessFlags := 25, slot := 8, constantValue := 0 }, { name := "LOG2_ARRAY_DOUBLE_INDEX_SCALE", type := .int, accessFlags := 25, slot := 9, constantValue := 0 }, { name := "LOG2_BYTE_BIT_SIZE", type := .int, accessFlags := 26, slot := 10, constantValue := 0 }, { name := "T_BOOLEAN", type := .int, accessFlags := 25, slot := 11, constantValue := 0 }, { name := "T_CHAR", type := .int, accessFlags := 25, slot := 12, constantValue := 0 }, { name := "T_FLOAT", type := .int, accessFlags := 25, slot := 13, constantValue := 0 }, { name := "T_DOUBLE", type := .int, accessFlags := 25, slot := 14, constantValue := 0 }, { name := "T_BYTE", type := .int, accessFlags := 25, slot := 15, constantValue := 0 }, { name := "T_SHORT", type := .int, accessFlags := 25, slot := 16, constantValue := 0 }, { name := "T_INT", type := .int, accessFlags := 25, slot := 17, constantValue := 0 }, { name := "T_LONG", type := .int, accessFlags := 25, slot := 18, constantValue := 0 }, { name := "JLA", type := (.object "jdk/internal/access/JavaLangAccess"), accessFlags := 26, slot := 19, constantValue := 0 }, { name := "SOFT_MAX_ARRAY_LENGTH", type := .int, accessFlags := 25, slot := 20, constantValue := 0 }]
  methods := #[k13m0]
  instanceTypes := #[]
  staticTypes := #[(.object "jdk/internal/misc/Unsafe"), .boolean, .int, .int, .int, .int, .int, .int, .int, .int, .int, .int, .int, .int, .int, .int, .int, .int, .int, (.object "jdk/internal/access/JavaLangAccess"), .int]
  resolved := Array.replicate 378 none
  statics := none }

def pool14 : Array CpInfo := pool [(1, u "java/lang/Cloneable"), (0, .class_ 1), (0, u "java/lang/Object"), (0, .class_ 3)] 3

/-- java/lang/Cloneable -/
def k14 : Class := { plain "java/lang/Cloneable" (some 0) with
  accessFlags := 1537
  interfaces := #[]
  cf := some (fileOf pool14 2 #[] #[] 1537 4 #[] #[])
  fields := #[]
  methods := #[]
  instanceTypes := #[]
  staticTypes := #[]
  resolved := Array.replicate 8 none
  statics := none }

/-- the primitive byte -/
def k15 : Class := { plain "byte" none with kind := .primitive 'B', accessFlags := 0x411 }
/-- [B -/
def k16 : Class := { plain "[B" (some 0) with kind := .array 15 .byte, interfaces := #[14, 2], accessFlags := 1041 }

/-- the primitive char -/
def k17 : Class := { plain "char" none with kind := .primitive 'C', accessFlags := 0x411 }
/-- [C -/
def k18 : Class := { plain "[C" (some 0) with kind := .array 17 .char, interfaces := #[14, 2], accessFlags := 1041 }

/-- the primitive int -/
def k19 : Class := { plain "int" none with kind := .primitive 'I', accessFlags := 0x411 }
/-- [I -/
def k20 : Class := { plain "[I" (some 0) with kind := .array 19 .int, interfaces := #[14, 2], accessFlags := 1041 }

def heap : Heap := #[{ cls := 7, slots := #[.long 0, .int 1, .null, .int 0, .null, .int 0, .int 0], vm := .statics 7 },
  { cls := 8, slots := #[.int 0, .int 8, .int 0, .int 1], vm := .statics 8 },
  { cls := 12, slots := #[.null, .null, .null], vm := .statics 12 }]
def classes : Array Class := #[k0, k1, k2, k3, k4, k5, k6, k7, k8, k9, k10, k11, k12, k13, k14, k15, k16, k17, k18, k19, k20]
def interned : List (Array UInt16 × Addr) := []
def slotsUsed : Nat := 14
def theMethod : MethodId := ⟨1, 1⟩
def args0 : Array Value := #[.int 5, .int 300, .int 2, .int 1, .int 2, .int 7]
def aboutOver (below : List Frame) : State where
  vm := { classes := classes, interned := interned.toArray }
  heap := heap
  slotsUsed := slotsUsed
  threads := #[{ frames := .invoking theMethod args0 :: below }]
def below0 : List Frame := [.native { method := ⟨0, 0⟩, args := #[] }]
def about1 : State := aboutOver below0
def p0 : Program := .bare "" "" ""
def e0 : Env := launch0.env 0 0 0
theorem w_frames : about1.frames = Frame.invoking theMethod args0 :: below0 := rfl
set_option maxRecDepth 65536 in
theorem w_args : argsFit about1.vm theMethod args0 = true := by decide +kernel
set_option maxRecDepth 65536 in
theorem w_heap : heapFits about1 = true := by decide +kernel
set_option maxRecDepth 65536 in
theorem w_runnable : about1.curStatus? = some .runnable := by decide +kernel
set_option maxRecDepth 65536 in
theorem w_alone : about1.alone = true := by decide +kernel
set_option maxRecDepth 65536 in
theorem w_named : about1.methodNamed? x = some theMethod := by decide +kernel
set_option maxRecDepth 65536 in
theorem w_hears : about1.hears theMethod below0 = true := by decide +kernel
set_option maxRecDepth 65536 in
theorem w_ripe : about1.ripe theMethod args0 below0 = true := by decide +kernel
theorem w_running : about1.status = .running := rfl
set_option maxRecDepth 65536 in
theorem w_room : about1.hasRoom e0.platform room_1 = true :=
  launch0.hasRoom_least _ room_1 (by decide +kernel) (by decide +kernel) (by decide +kernel) (by decide +kernel) (by decide +kernel) (by decide +kernel)
theorem allAtoms_all (ts : List Jvm.Cond) (a : Array Jvm.Value) (st : Jvm.State) : (allAtoms ts).before a st = ts.all (fun c => c.before a st) := by
  induction ts with
  | nil => rfl
  | cons c t ih =>
    show (Jvm.Cond.and c (allAtoms t)).before a st = _
    rw [Jvm.Cond.before_and, ih, List.all_cons]
def words1 : List Jvm.Cond := Jvm.Cond.code x code maxLocals ret :: tables_1
/-- a 'code' word, met by the world's own term for the bytes: nothing is compared byte by byte -/
theorem code_word {y : MethodName} {bytes : ByteArray} {mx : Nat} {rt : Option FieldType} {a : Array Value} {s : State} {m : MethodId} {meth : Method} {c : Code} (h1 : s.methodNamed? y = some m) (h2 : s.vm.method? m = some meth) (h3 : meth.code = some c) (h4 : c.code = bytes)
    (h5 : (c.maxLocals == mx && c.exceptionTable.isEmpty && decide (c.maxStack ≤ mostOperands) && decide (meth.sig.returnType = rt) && !meth.locks && decide (parseMethodDescriptor y.desc = some meth.sig)) = true) : (Jvm.Cond.code y bytes mx rt).before a s = true := by
  simp only [Bool.and_eq_true, beq_iff_eq, Bool.not_eq_true', decide_eq_true_eq] at h5
  obtain ⟨⟨⟨⟨⟨g1, g2⟩, g3⟩, g4⟩, g5⟩, g6⟩ := h5
  simp [Cond.before, Cond.holds, Cond.value, h1, h2, h3, h4, g1, g2, g3, g4, g5, g6]
def isCode : Jvm.Cond → Bool
  | .code _ _ _ _ => true
  | _ => false
theorem all_split {L : List Jvm.Cond} {P : Jvm.Cond → Bool} (h1 : L.all (fun c => isCode c || P c) = true) (h2 : ∀ c ∈ L.filter isCode, P c = true) : L.all P = true := by
  refine List.all_eq_true.mpr fun c hc => ?_
  have h := List.all_eq_true.mp h1 c hc
  rcases Bool.eq_false_or_eq_true (isCode c) with hi | hi
  · exact h2 c (List.mem_filter.mpr ⟨hc, hi⟩)
  · simpa [hi] using h
set_option maxRecDepth 65536 in
theorem w_c0 : (Jvm.Cond.code x code maxLocals ret).before args0 about1 = true := code_word (m := ⟨1, 1⟩) (meth := k1m1) (c := k1c1) (by decide +kernel) rfl rfl rfl (by decide +kernel)
set_option maxRecDepth 65536 in
theorem w_c1 : (Jvm.Cond.code ({ cls := "java/lang/String", name := "<init>", desc := "([C)V" } : Jvm.MethodName) jdk_42_method_3_code (2 : Nat) (Option.none : Option Jvm.ClassFile.FieldType)).before args0 about1 = true := code_word (m := ⟨7, 1⟩) (meth := k7m1) (c := k7c1) (by decide +kernel) rfl rfl rfl (by decide +kernel)
set_option maxRecDepth 65536 in
theorem w_c2 : (Jvm.Cond.code ({ cls := "java/lang/String", name := "<init>", desc := "([CIILjava/lang/Void;)V" } : Jvm.MethodName) jdk_42_method_149_code (6 : Nat) (Option.none : Option Jvm.ClassFile.FieldType)).before args0 about1 = true := code_word (m := ⟨7, 4⟩) (meth := k7m4) (c := k7c4) (by decide +kernel) rfl rfl rfl (by decide +kernel)
set_option maxRecDepth 65536 in
theorem w_c3 : (Jvm.Cond.code ({ cls := "java/lang/Object", name := "<init>", desc := "()V" } : Jvm.MethodName) object_method_1_code (1 : Nat) (Option.none : Option Jvm.ClassFile.FieldType)).before args0 about1 = true := code_word (m := ⟨0, 0⟩) (meth := k0m0) (c := k0c0) (by decide +kernel) rfl rfl rfl (by decide +kernel)
set_option maxRecDepth 65536 in
theorem w_c4 : (Jvm.Cond.code ({ cls := "java/lang/StringUTF16", name := "compress", desc := "([CII)[B" } : Jvm.MethodName) jdk_52_method_16_code (6 : Nat) (Option.some (Jvm.ClassFile.FieldType.array Jvm.ClassFile.FieldType.byte))).before args0 about1 = true := code_word (m := ⟨8, 7⟩) (meth := k8m7) (c := k8c7) (by decide +kernel) rfl rfl rfl (by decide +kernel)
set_option maxRecDepth 65536 in
theorem w_c5 : (Jvm.Cond.code ({ cls := "java/lang/StringUTF16", name := "compress", desc := "([CI[BII)I" } : Jvm.MethodName) jdk_52_method_21_code (7 : Nat) (Option.some Jvm.ClassFile.FieldType.int)).before args0 about1 = true := code_word (m := ⟨8, 8⟩) (meth := k8m8) (c := k8c8) (by decide +kernel) rfl rfl rfl (by decide +kernel)
set_option maxRecDepth 65536 in
theorem w_c6 : (Jvm.Cond.code ({ cls := "java/lang/StringUTF16", name := "coderFromArrayLen", desc := "([BI)B" } : Jvm.MethodName) jdk_52_method_15_code (2 : Nat) (Option.some Jvm.ClassFile.FieldType.byte)).before args0 about1 = true := code_word (m := ⟨8, 6⟩) (meth := k8m6) (c := k8c6) (by decide +kernel) rfl rfl rfl (by decide +kernel)
set_option maxRecDepth 65536 in
theorem w_c7 : (Jvm.Cond.code ({ cls := "com/example/cerrojo/cerrojo/lock/Keys", name := "checkName", desc := "(Ljava/lang/String;Ljava/lang/String;)Ljava/lang/String;" } : Jvm.MethodName) prog_10_method_2_code (2 : Nat) (Option.some (Jvm.ClassFile.FieldType.object "java/lang/String"))).before args0 about1 = true := code_word (m := ⟨9, 1⟩) (meth := k9m1) (c := k9c1) (by decide +kernel) rfl rfl rfl (by decide +kernel)
set_option maxRecDepth 65536 in
theorem w_c8 : (Jvm.Cond.code ({ cls := "java/util/Objects", name := "requireNonNull", desc := "(Ljava/lang/Object;Ljava/lang/String;)Ljava/lang/Object;" } : Jvm.MethodName) jdk_31_method_11_code (2 : Nat) (Option.some (Jvm.ClassFile.FieldType.object "java/lang/Object"))).before args0 about1 = true := code_word (m := ⟨10, 1⟩) (meth := k10m1) (c := k10c1) (by decide +kernel) rfl rfl rfl (by decide +kernel)
set_option maxRecDepth 65536 in
theorem w_c9 : (Jvm.Cond.code ({ cls := "java/lang/String", name := "isEmpty", desc := "()Z" } : Jvm.MethodName) jdk_42_method_55_code (1 : Nat) (Option.some Jvm.ClassFile.FieldType.boolean)).before args0 about1 = true := code_word (m := ⟨7, 2⟩) (meth := k7m2) (c := k7c2) (by decide +kernel) rfl rfl rfl (by decide +kernel)
set_option maxRecDepth 65536 in
theorem w_c10 : (Jvm.Cond.code ({ cls := "java/lang/String", name := "valueOf", desc := "(C)Ljava/lang/String;" } : Jvm.MethodName) jdk_42_method_139_code (1 : Nat) (Option.some (Jvm.ClassFile.FieldType.object "java/lang/String"))).before args0 about1 = true := code_word (m := ⟨7, 3⟩) (meth := k7m3) (c := k7c3) (by decide +kernel) rfl rfl rfl (by decide +kernel)
set_option maxRecDepth 65536 in
theorem w_c11 : (Jvm.Cond.code ({ cls := "java/lang/StringLatin1", name := "canEncode", desc := "(C)Z" } : Jvm.MethodName) jdk_43_method_3_code (1 : Nat) (Option.some Jvm.ClassFile.FieldType.boolean)).before args0 about1 = true := code_word (m := ⟨11, 1⟩) (meth := k11m1) (c := k11c1) (by decide +kernel) rfl rfl rfl (by decide +kernel)
set_option maxRecDepth 65536 in
theorem w_c12 : (Jvm.Cond.code ({ cls := "java/lang/StringLatin1", name := "toBytes", desc := "(C)[B" } : Jvm.MethodName) jdk_43_method_46_code (1 : Nat) (Option.some (Jvm.ClassFile.FieldType.array Jvm.ClassFile.FieldType.byte))).before args0 about1 = true := code_word (m := ⟨11, 2⟩) (meth := k11m2) (c := k11c2) (by decide +kernel) rfl rfl rfl (by decide +kernel)
set_option maxRecDepth 65536 in
theorem w_c13 : (Jvm.Cond.code ({ cls := "java/lang/String", name := "<init>", desc := "([BB)V" } : Jvm.MethodName) jdk_42_method_151_code (3 : Nat) (Option.none : Option Jvm.ClassFile.FieldType)).before args0 about1 = true := code_word (m := ⟨7, 5⟩) (meth := k7m5) (c := k7c5) (by decide +kernel) rfl rfl rfl (by decide +kernel)
set_option maxRecDepth 65536 in
theorem w_c14 : (Jvm.Cond.code ({ cls := "java/lang/StringUTF16", name := "toBytes", desc := "([CII)[B" } : Jvm.MethodName) jdk_52_method_14_code (5 : Nat) (Option.some (Jvm.ClassFile.FieldType.array Jvm.ClassFile.FieldType.byte))).before args0 about1 = true := code_word (m := ⟨8, 5⟩) (meth := k8m5) (c := k8c5) (by decide +kernel) rfl rfl rfl (by decide +kernel)
set_option maxRecDepth 65536 in
theorem w_c15 : (Jvm.Cond.code ({ cls := "java/lang/StringUTF16", name := "newBytesFor", desc := "(I)[B" } : Jvm.MethodName) jdk_52_method_2_code (1 : Nat) (Option.some (Jvm.ClassFile.FieldType.array Jvm.ClassFile.FieldType.byte))).before args0 about1 = true := code_word (m := ⟨8, 1⟩) (meth := k8m1) (c := k8c1) (by decide +kernel) rfl rfl rfl (by decide +kernel)
set_option maxRecDepth 65536 in
theorem w_c16 : (Jvm.Cond.code ({ cls := "java/lang/StringUTF16", name := "newBytesLength", desc := "(I)I" } : Jvm.MethodName) jdk_52_method_3_code (1 : Nat) (Option.some Jvm.ClassFile.FieldType.int)).before args0 about1 = true := code_word (m := ⟨8, 2⟩) (meth := k8m2) (c := k8c2) (by decide +kernel) rfl rfl rfl (by decide +kernel)
set_option maxRecDepth 65536 in
theorem w_c17 : (Jvm.Cond.code ({ cls := "java/lang/StringUTF16", name := "putChar", desc := "([BII)V" } : Jvm.MethodName) jdk_52_method_4_code (3 : Nat) (Option.none : Option Jvm.ClassFile.FieldType)).before args0 about1 = true := code_word (m := ⟨8, 3⟩) (meth := k8m3) (c := k8c3) (by decide +kernel) rfl rfl rfl (by decide +kernel)
set_option maxRecDepth 65536 in
theorem w_c18 : (Jvm.Cond.code ({ cls := "java/lang/StringUTF16", name := "getChar", desc := "([BI)C" } : Jvm.MethodName) jdk_52_method_5_code (2 : Nat) (Option.some Jvm.ClassFile.FieldType.char)).before args0 about1 = true := code_word (m := ⟨8, 4⟩) (meth := k8m4) (c := k8c4) (by decide +kernel) rfl rfl rfl (by decide +kernel)
set_option maxRecDepth 65536 in
theorem w_c19 : (Jvm.Cond.code ({ cls := "java/lang/StringUTF16", name := "toBytes", desc := "(C)[B" } : Jvm.MethodName) jdk_52_method_24_code (2 : Nat) (Option.some (Jvm.ClassFile.FieldType.array Jvm.ClassFile.FieldType.byte))).before args0 about1 = true := code_word (m := ⟨8, 9⟩) (meth := k8m9) (c := k8c9) (by decide +kernel) rfl rfl rfl (by decide +kernel)
def codes1 : List Jvm.Cond := [Jvm.Cond.code x code maxLocals ret, Jvm.Cond.code ({ cls := "java/lang/String", name := "<init>", desc := "([C)V" } : Jvm.MethodName) jdk_42_method_3_code (2 : Nat) (Option.none : Option Jvm.ClassFile.FieldType), Jvm.Cond.code ({ cls := "java/lang/String", name := "<init>", desc := "([CIILjava/lang/Void;)V" } : Jvm.MethodName) jdk_42_method_149_code (6 : Nat) (Option.none : Option Jvm.ClassFile.FieldType), Jvm.Cond.code ({ cls := "java/lang/Object", name := "<init>", desc := "()V" } : Jvm.MethodName) object_method_1_code (1 : Nat) (Option.none : Option Jvm.ClassFile.FieldType), Jvm.Cond.code ({ cls := "java/lang/StringUTF16", name := "compress", desc := "([CII)[B" } : Jvm.MethodName) jdk_52_method_16_code (6 : Nat) (Option.some (Jvm.ClassFile.FieldType.array Jvm.ClassFile.FieldType.byte)), Jvm.Cond.code ({ cls := "java/lang/StringUTF16", name := "compress", desc := "([CI[BII)I" } : Jvm.MethodName) jdk_52_method_21_code (7 : Nat) (Option.some Jvm.ClassFile.FieldType.int), Jvm.Cond.code ({ cls := "java/lang/StringUTF16", name := "coderFromArrayLen", desc := "([BI)B" } : Jvm.MethodName) jdk_52_method_15_code (2 : Nat) (Option.some Jvm.ClassFile.FieldType.byte), Jvm.Cond.code ({ cls := "com/example/cerrojo/cerrojo/lock/Keys", name := "checkName", desc := "(Ljava/lang/String;Ljava/lang/String;)Ljava/lang/String;" } : Jvm.MethodName) prog_10_method_2_code (2 : Nat) (Option.some (Jvm.ClassFile.FieldType.object "java/lang/String")), Jvm.Cond.code ({ cls := "java/util/Objects", name := "requireNonNull", desc := "(Ljava/lang/Object;Ljava/lang/String;)Ljava/lang/Object;" } : Jvm.MethodName) jdk_31_method_11_code (2 : Nat) (Option.some (Jvm.ClassFile.FieldType.object "java/lang/Object")), Jvm.Cond.code ({ cls := "java/lang/String", name := "isEmpty", desc := "()Z" } : Jvm.MethodName) jdk_42_method_55_code (1 : Nat) (Option.some Jvm.ClassFile.FieldType.boolean), Jvm.Cond.code ({ cls := "java/lang/String", name := "valueOf", desc := "(C)Ljava/lang/String;" } : Jvm.MethodName) jdk_42_method_139_code (1 : Nat) (Option.some (Jvm.ClassFile.FieldType.object "java/lang/String")), Jvm.Cond.code ({ cls := "java/lang/StringLatin1", name := "canEncode", desc := "(C)Z" } : Jvm.MethodName) jdk_43_method_3_code (1 : Nat) (Option.some Jvm.ClassFile.FieldType.boolean), Jvm.Cond.code ({ cls := "java/lang/StringLatin1", name := "toBytes", desc := "(C)[B" } : Jvm.MethodName) jdk_43_method_46_code (1 : Nat) (Option.some (Jvm.ClassFile.FieldType.array Jvm.ClassFile.FieldType.byte)), Jvm.Cond.code ({ cls := "java/lang/String", name := "<init>", desc := "([BB)V" } : Jvm.MethodName) jdk_42_method_151_code (3 : Nat) (Option.none : Option Jvm.ClassFile.FieldType), Jvm.Cond.code ({ cls := "java/lang/StringUTF16", name := "toBytes", desc := "([CII)[B" } : Jvm.MethodName) jdk_52_method_14_code (5 : Nat) (Option.some (Jvm.ClassFile.FieldType.array Jvm.ClassFile.FieldType.byte)), Jvm.Cond.code ({ cls := "java/lang/StringUTF16", name := "newBytesFor", desc := "(I)[B" } : Jvm.MethodName) jdk_52_method_2_code (1 : Nat) (Option.some (Jvm.ClassFile.FieldType.array Jvm.ClassFile.FieldType.byte)), Jvm.Cond.code ({ cls := "java/lang/StringUTF16", name := "newBytesLength", desc := "(I)I" } : Jvm.MethodName) jdk_52_method_3_code (1 : Nat) (Option.some Jvm.ClassFile.FieldType.int), Jvm.Cond.code ({ cls := "java/lang/StringUTF16", name := "putChar", desc := "([BII)V" } : Jvm.MethodName) jdk_52_method_4_code (3 : Nat) (Option.none : Option Jvm.ClassFile.FieldType), Jvm.Cond.code ({ cls := "java/lang/StringUTF16", name := "getChar", desc := "([BI)C" } : Jvm.MethodName) jdk_52_method_5_code (2 : Nat) (Option.some Jvm.ClassFile.FieldType.char), Jvm.Cond.code ({ cls := "java/lang/StringUTF16", name := "toBytes", desc := "(C)[B" } : Jvm.MethodName) jdk_52_method_24_code (2 : Nat) (Option.some (Jvm.ClassFile.FieldType.array Jvm.ClassFile.FieldType.byte))]
set_option maxRecDepth 65536 in
theorem codes_eq : words1.filter isCode = codes1 := rfl
theorem w_codes : ∀ c ∈ words1.filter isCode, c.before args0 about1 = true := by
  rw [codes_eq]
  intro c hc
  simp only [codes1, List.mem_cons, List.not_mem_nil, or_false] at hc
  rcases hc with rfl | rfl | rfl | rfl | rfl | rfl | rfl | rfl | rfl | rfl | rfl | rfl | rfl | rfl | rfl | rfl | rfl | rfl | rfl | rfl
  · exact w_c0
  · exact w_c1
  · exact w_c2
  · exact w_c3
  · exact w_c4
  · exact w_c5
  · exact w_c6
  · exact w_c7
  · exact w_c8
  · exact w_c9
  · exact w_c10
  · exact w_c11
  · exact w_c12
  · exact w_c13
  · exact w_c14
  · exact w_c15
  · exact w_c16
  · exact w_c17
  · exact w_c18
  · exact w_c19
set_option maxRecDepth 65536 in
theorem w_t1 : (words1.take 24).all (fun c => isCode c || c.before args0 about1) = true := by decide +kernel
set_option maxRecDepth 65536 in
theorem w_t2 : ((words1.drop 24).take 24).all (fun c => isCode c || c.before args0 about1) = true := by decide +kernel
set_option maxRecDepth 65536 in
theorem w_t3 : (((words1.drop 24).drop 24).take 24).all (fun c => isCode c || c.before args0 about1) = true := by decide +kernel
set_option maxRecDepth 65536 in
theorem w_t4 : (((words1.drop 24).drop 24).drop 24).all (fun c => isCode c || c.before args0 about1) = true := by decide +kernel
theorem w_tables : (allAtoms (Jvm.Cond.code x code maxLocals ret :: tables_1)).before args0 about1 = true := by
  rw [allAtoms_all]
  show words1.all (fun c => c.before args0 about1) = true
  refine all_split ?_ w_codes
  rw [← List.take_append_drop 24 words1, List.all_append, w_t1, ← List.take_append_drop 24 (words1.drop 24), List.all_append, w_t2, ← List.take_append_drop 24 ((words1.drop 24).drop 24), List.all_append, w_t3, w_t4]
  rfl
set_option maxRecDepth 65536 in
theorem w_rest : rest_1_c.before args0 about1 = true := by decide +kernel
set_option maxRecDepth 65536 in
theorem w_case : (Jvm.Cond.and given_1 narrow_1).before args0 about1 = true := by decide +kernel
theorem w_applies : (headSpec (Jvm.Cond.code x code maxLocals ret :: tables_1) room_1).applies x e0.platform about1 = true :=
  (Spec.applies_iff w_frames).mpr ⟨w_running, w_runnable, w_alone, w_named, w_hears, w_ripe, w_room, w_tables⟩
theorem atStart : AtStart classFile x code maxLocals ret World_1 tables_1 room_1 Calls_1 rest_1 Pre_1 launch0 p0 e0 about1 theMethod args0 below0 :=
  ⟨lists_1, trivial, launch0.admits_env _ _ _, launch0.least_env, fairChoices_fair.cas, fairChoices_fair.clock, w_frames, w_args, w_heap, w_applies, trivial, w_rest, w_case⟩
end start1
theorem witness_1 : WitnessClaimed_1 := ⟨start1.p0, start1.e0, start1.about1, start1.theMethod, start1.args0, start1.below0, start1.atStart⟩
end Jvm.Pilot.@@N@@
