import JvmDerived
import JvmDerived.Pilot.@@N@@Statement
import JvmDerived.Pilot.@@N@@Code
set_option linter.unusedVariables false
set_option linter.unusedSimpArgs false

/- laws to paste: Road.backV, Road.lenW, Road.chN, Road.eqW, Road.codOf (cut by pick.py; bodies as the Statement names them) -/
namespace Jvm.Pilot.@@N@@
namespace StrChars
open Jvm Sem ClassFile Op Lib Jvm.Stand Jvm.Free.XT Jvm.Free.ALB Jvm.Free.JM Jvm.Free
open Jvm.Lib.Cold (StaticIs)
/-- a char array whose places are chars -/
def Ch (a : Addr) (A : Cell) (U : State) : Prop := Arr .char a A U ∧ Typed .char A
theorem Ch.mv {a : Addr} {A : Cell} {U U' : State} (h : Ch a A U) (hal : U.vm.Alike U'.vm) (hh : U'.heap = U.heap) : Ch a A U' := ⟨h.1.mv hal hh, h.2⟩
theorem Ch.keep {a : Addr} {A : Cell} {U U' : State} (h : Ch a A U) (hal : U.vm.Alike U'.vm) (hk : U'.heap[a]? = some A) : Ch a A U' := ⟨h.1.keep hal hk, h.2⟩
/-- what place i of a char[]'s cell holds -/
def cv (A : Cell) (i : Nat) : Int32 := match A.slots[i]? with | some (.int x) => x | _ => 0
theorem Ch.get {a : Addr} {A : Cell} {U : State} (h : Ch a A U) {i : Nat} (hi : i < A.slots.size) : A.slots[i]? = some (.int (cv A i)) := by
  have e := Array.getElem?_eq_getElem hi
  have f := h.2 i _ e
  unfold cv; rw [e]
  generalize A.slots[i] = v at f
  cases v <;> simp [fits] at f ⊢
/-- the byte that i2b leaves of a char -/
def lo8 (x : Int32) : Int32 := x.toInt8.toInt32
theorem fits_lo8 (y : Int32) : fits .byte (.int (lo8 y)) = true := by
  have h1 := y.toInt8.le_toInt
  have h2 := y.toInt8.toInt_lt
  simp only [lo8, fits, Bool.and_eq_true, decide_eq_true_eq, Int32.le_iff_toInt_le, Int8.toInt_toInt32, show (-128 : Int32).toInt = -128 from by decide, show (127 : Int32).toInt = 127 from by decide]
  omega
/-- A' is A but that each place j of lo .. hi - 1 holds f j -/
def Laid (A A' : Cell) (lo hi : Nat) (f : Nat → Value) : Prop := A'.cls = A.cls ∧ A'.vm = A.vm ∧ A'.slots.size = A.slots.size ∧ ∀ i, A'.slots[i]? = if lo ≤ i ∧ i < hi then some (f i) else A.slots[i]?
theorem Laid.zero (A : Cell) (lo : Nat) (f : Nat → Value) : Laid A A lo (lo + 0) f := ⟨rfl, rfl, rfl, fun i => by rw [if_neg (by omega)]⟩
theorem Laid.step {A Ak : Cell} {lo k : Nat} {f : Nat → Value} {v : Value} (h : Laid A Ak lo k f) (hlo : lo ≤ k) (hk : k < Ak.slots.size) (hv : v = f k) : Laid A (Ak.setSlot k v) lo (k + 1) f := by
  refine ⟨h.1, h.2.1, by simpa [Cell.setSlot] using h.2.2.1, fun i => ?_⟩
  by_cases e : k = i
  · subst e; rw [Cell.slots_setSlot_self v hk, if_pos (by omega), hv]
  · rw [Cell.slots_setSlot_ne v e, h.2.2.2 i]
    by_cases q : lo ≤ i ∧ i < k
    · rw [if_pos q, if_pos (by omega)]
    · rw [if_neg q, if_neg (by omega)]
def U16 : String := "java/lang/StringUTF16"
namespace Cmp5
def yN : MethodName := ⟨"java/lang/StringUTF16", "compress", "([CI[BII)I"⟩
abbrev yB : ByteArray := jdk_52_method_21_code
theorem d0 : decode yB 0 = .ok (.iconst 0, 1) := by decide +kernel
theorem d1 : decode yB 1 = .ok (.istore 5, 2) := by decide +kernel
theorem d3 : decode yB 3 = .ok (.iload 5, 2) := by decide +kernel
theorem d5 : decode yB 5 = .ok (.iload 4, 2) := by decide +kernel
theorem d7 : decode yB 7 = .ok (.if_icmp (.ge) 37, 3) := by decide +kernel
theorem d10 : decode yB 10 = .ok (.aload_n 0, 1) := by decide +kernel
theorem d11 : decode yB 11 = .ok (.iload_n 1, 1) := by decide +kernel
theorem d12 : decode yB 12 = .ok (.caload, 1) := by decide +kernel
theorem d13 : decode yB 13 = .ok (.istore 6, 2) := by decide +kernel
theorem d15 : decode yB 15 = .ok (.iload 6, 2) := by decide +kernel
theorem d17 : decode yB 17 = .ok (.sipush 255, 3) := by decide +kernel
theorem d20 : decode yB 20 = .ok (.if_icmp (.le) 6, 3) := by decide +kernel
theorem d26 : decode yB 26 = .ok (.aload_n 2, 1) := by decide +kernel
theorem d27 : decode yB 27 = .ok (.iload_n 3, 1) := by decide +kernel
theorem d28 : decode yB 28 = .ok (.iload 6, 2) := by decide +kernel
theorem d30 : decode yB 30 = .ok (.i2b, 1) := by decide +kernel
theorem d31 : decode yB 31 = .ok (.bastore, 1) := by decide +kernel
theorem d32 : decode yB 32 = .ok (.iinc 1 1, 3) := by decide +kernel
theorem d35 : decode yB 35 = .ok (.iinc 3 1, 3) := by decide +kernel
theorem d38 : decode yB 38 = .ok (.iinc 5 1, 3) := by decide +kernel
theorem d41 : decode yB 41 = .ok (.goto (-38), 3) := by decide +kernel
theorem d44 : decode yB 44 = .ok (.iload 4, 2) := by decide +kernel
theorem d46 : decode yB 46 = .ok (.ireturn, 1) := by decide +kernel
def site : List Cond := []
def tab : Cond := tabOf yN yB 7 (some .int) site
def P (b : Addr) (A : Cell) (d : Addr) (B : Cell) (o q len : Nat) (args : Array Value) (s : State) : Prop := args = #[.ref b, .int (Int32.ofNat o), .ref d, .int (Int32.ofNat q), .int (Int32.ofNat len)] ∧ Ch b A s ∧ Arr .byte d B s ∧ b ≠ d ∧ o + len ≤ A.slots.size ∧ q + len ≤ B.slots.size ∧ ∀ i, i < len → ¬ 255 < cv A (o + i)
def E (b : Addr) (A : Cell) (d : Addr) (B : Cell) (o q len : Nat) (r : Option Value) (s u : State) : Prop := r = some (.int (Int32.ofNat len)) ∧ ∃ B', Put d B' s u ∧ Laid B B' q (q + len) (fun j => Value.int (lo8 (cv A (o + (j - q)))))
/-- no char of the range above 255: len; the places written hold each char's low byte -/
theorem law (l : Launch) (b : Addr) (A : Cell) (d : Addr) (B : Cell) (o q len : Nat) : Law l yN 5 5 0 0 yB 7 (some .int) site (P b A d B o q len) (E b A d B o q len) (copyLocs d q len) 0 0 := by
  refine Law.of_walk (plainFor_of_name (by decide +kernel)) (by decide +kernel) (by decide +kernel) (by decide) (fun _ _ h => by rw [h.1]; rfl) (fun _ U U' hal hh h => ⟨h.1, h.2.1.mv hal hh, h.2.2.1.mv hal hh, h.2.2.2⟩) (fun r U U' V V' h1 hal h2 h => ⟨h.1, h.2.elim fun B' q => ⟨B', q.1.mv h1 h2, q.2⟩⟩) ?_
  intro p e s m args below meth c s₁ X0 hexec hbytes hml hret hlk hnm hown hh0 W hP
  obtain ⟨rfl, hA, hB, hne, l1, l2, hp⟩ := hP
  have c1 : Steps p.tables e below (s₁.setTop (entryFrame m #[.ref b, .int (Int32.ofNat o), .ref d, .int (Int32.ofNat q), .int (Int32.ofNat len)] 7)) (s₁.setTop (mkF m 0 #[.val (.ref b), .val (.int (Int32.ofNat o)), .val (.ref d), .val (.int (Int32.ofNat q)), .val (.int (Int32.ofNat len)), .unset, .unset] [])) := entry rfl
  have hA0 := hA.1.mv X0.warmed.alike hh0
  have hB0 := hB.mv X0.warmed.alike hh0
  have a31 := hA.1.2.2.2
  have c2 : Steps p.tables e below (s₁.setTop (entryFrame m #[.ref b, .int (Int32.ofNat o), .ref d, .int (Int32.ofNat q), .int (Int32.ofNat len)] 7)) (s₁.setTop (mkF m 3 #[.val (.ref b), .val (.int (Int32.ofNat o)), .val (.ref d), .val (.int (Int32.ofNat q)), .val (.int (Int32.ofNat len)), .val (.int 0), .unset] [])) := c1.trans (by
    refine iconstV X0.here hexec rfl 0 (hb hbytes d0) (by decide) ?_
    refine XS.istore X0.here hexec rfl (hb hbytes d1) rfl rfl ?_
    exact Steps.refl _)
  have loop : ∀ (r i : Nat), i + r = len → ∀ (z : Slot), (z = .unset ∨ ∃ w, z = .val w ∧ w.category = 1) → ∀ (Tl : State) (Bk : Cell), Stand p l e { frames := 0, locals := 0, cells := 0, slots := 0 } s m #[.ref b, .int (Int32.ofNat o), .ref d, .int (Int32.ofNat q), .int (Int32.ofNat len)] below meth c Tl ([] ++ copyLocs d q i) 0 0 → Put d Bk s₁ Tl → Laid B Bk q (q + i) (fun j => Value.int (lo8 (cv A (o + (j - q))))) →
      Steps p.tables e below (s₁.setTop (entryFrame m #[.ref b, .int (Int32.ofNat o), .ref d, .int (Int32.ofNat q), .int (Int32.ofNat len)] 7)) (Tl.setTop (mkF m 3 #[.val (.ref b), .val (.int (Int32.ofNat (o + i))), .val (.ref d), .val (.int (Int32.ofNat (q + i))), .val (.int (Int32.ofNat len)), .val (.int (Int32.ofNat i)), z] [])) → ∃ (T' : State) (B' : Cell) (z' : Slot), Stand p l e { frames := 0, locals := 0, cells := 0, slots := 0 } s m #[.ref b, .int (Int32.ofNat o), .ref d, .int (Int32.ofNat q), .int (Int32.ofNat len)] below meth c T' ([] ++ copyLocs d q len) 0 0 ∧ Put d B' s₁ T' ∧ Laid B B' q (q + len) (fun j => Value.int (lo8 (cv A (o + (j - q))))) ∧
      Steps p.tables e below (s₁.setTop (entryFrame m #[.ref b, .int (Int32.ofNat o), .ref d, .int (Int32.ofNat q), .int (Int32.ofNat len)] 7)) (T'.setTop (mkF m 3 #[.val (.ref b), .val (.int (Int32.ofNat (o + len))), .val (.ref d), .val (.int (Int32.ofNat (q + len))), .val (.int (Int32.ofNat len)), .val (.int (Int32.ofNat len)), z'] [])) := by
    intro r
    induction r with
    | zero =>
      intro i hi z hz Tl Bk Xl pl fl cl
      have hil : i = len := by omega
      rw [hil] at Xl fl cl
      exact ⟨Tl, Bk, z, Xl, pl, fl, cl⟩
    | succ r ih =>
      intro i hi z hz Tl Bk Xl pl fl cl
      have all := X0.warmed.alike.symm.trans Xl.warmed.alike
      have hAl := hA0.keep all (pl.other hne hA0.1)
      have hBk := hB0.like all pl.1 fl.1 fl.2.1 fl.2.2.1
      have hlt : q + i < Bk.slots.size := by rw [fl.2.2.1]; omega
      have c3 : Steps p.tables e below (s₁.setTop (entryFrame m #[.ref b, .int (Int32.ofNat o), .ref d, .int (Int32.ofNat q), .int (Int32.ofNat len)] 7)) (Tl.setTop (mkF m 12 #[.val (.ref b), .val (.int (Int32.ofNat (o + i))), .val (.ref d), .val (.int (Int32.ofNat (q + i))), .val (.int (Int32.ofNat len)), .val (.int (Int32.ofNat i)), z] [.int (Int32.ofNat (o + i)), .ref b])) := cl.trans (by
        refine XS.iload Xl.here hexec rfl (hb hbytes d3) rfl ?_
        refine XS.iload Xl.here hexec rfl (hb hbytes d5) rfl ?_
        refine XS.icmpNo Xl.here hexec rfl (hb hbytes d7) rfl (ii_ge_f (lt32 (by omega) (by omega))) ?_
        refine XS.aloadN Xl.here hexec rfl (hb hbytes d10) rfl rfl ?_
        refine XS.iloadN Xl.here hexec rfl (hb hbytes d11) rfl ?_
        exact Steps.refl _)
      have c4 : Steps p.tables e below (s₁.setTop (entryFrame m #[.ref b, .int (Int32.ofNat o), .ref d, .int (Int32.ofNat q), .int (Int32.ofNat len)] 7)) (Tl.setTop (mkF m 13 #[.val (.ref b), .val (.int (Int32.ofNat (o + i))), .val (.ref d), .val (.int (Int32.ofNat (q + i))), .val (.int (Int32.ofNat len)), .val (.int (Int32.ofNat i)), z] [.int (cv A (o + i))])) := c3.trans (by
        refine Xl.aget hexec hAl rfl (hA.get (i := o + i) (by omega)) rfl rfl (hb hbytes d12) ?_
        exact Steps.refl _)
      have c5 : Steps p.tables e below (s₁.setTop (entryFrame m #[.ref b, .int (Int32.ofNat o), .ref d, .int (Int32.ofNat q), .int (Int32.ofNat len)] 7)) (Tl.setTop (mkF m 15 #[.val (.ref b), .val (.int (Int32.ofNat (o + i))), .val (.ref d), .val (.int (Int32.ofNat (q + i))), .val (.int (Int32.ofNat len)), .val (.int (Int32.ofNat i)), .val (.int (cv A (o + i)))] [])) := c4.trans (by
        refine XS.istoreS Xl.here hexec rfl (hb hbytes d13) rfl rfl hz ?_
        exact Steps.refl _)
      have c6 : Steps p.tables e below (s₁.setTop (entryFrame m #[.ref b, .int (Int32.ofNat o), .ref d, .int (Int32.ofNat q), .int (Int32.ofNat len)] 7)) (Tl.setTop (mkF m 31 #[.val (.ref b), .val (.int (Int32.ofNat (o + i))), .val (.ref d), .val (.int (Int32.ofNat (q + i))), .val (.int (Int32.ofNat len)), .val (.int (Int32.ofNat i)), .val (.int (cv A (o + i)))] [.int (lo8 (cv A (o + i))), .int (Int32.ofNat (q + i)), .ref d])) := c5.trans (by
        refine XS.iload Xl.here hexec rfl (hb hbytes d15) rfl ?_
        refine sipushV Xl.here hexec rfl 255 (hb hbytes d17) (by decide) ?_
        refine XS.icmpYes Xl.here hexec rfl (pc0 := 20) rfl (hb hbytes d20) rfl (ii_le_t (hp i (by omega))) (by decide) rfl ?_
        refine XS.aloadN Xl.here hexec rfl (hb hbytes d26) rfl rfl ?_
        refine XS.iloadN Xl.here hexec rfl (hb hbytes d27) rfl ?_
        refine XS.iload Xl.here hexec rfl (hb hbytes d28) rfl ?_
        refine i2b Xl.here hexec rfl (hb hbytes d30) rfl ?_
        exact Steps.refl _)
      obtain ⟨T7, X7, p7, st7⟩ := Xl.aput hexec hBk rfl hlt rfl (fits_lo8 (cv A (o + i))) (g := (mkF m 31 #[.val (.ref b), .val (.int (Int32.ofNat (o + i))), .val (.ref d), .val (.int (Int32.ofNat (q + i))), .val (.int (Int32.ofNat len)), .val (.int (Int32.ofNat i)), .val (.int (cv A (o + i)))] [.int (lo8 (cv A (o + i))), .int (Int32.ofNat (q + i)), .ref d])) rfl (rest := []) rfl (hb hbytes d31)
      have c8 : Steps p.tables e below (s₁.setTop (entryFrame m #[.ref b, .int (Int32.ofNat o), .ref d, .int (Int32.ofNat q), .int (Int32.ofNat len)] 7)) (T7.setTop (mkF m 32 #[.val (.ref b), .val (.int (Int32.ofNat (o + i))), .val (.ref d), .val (.int (Int32.ofNat (q + i))), .val (.int (Int32.ofNat len)), .val (.int (Int32.ofNat i)), .val (.int (cv A (o + i)))] [])) := c6.trans (st7 _ (Steps.refl _))
      have c9 : Steps p.tables e below (s₁.setTop (entryFrame m #[.ref b, .int (Int32.ofNat o), .ref d, .int (Int32.ofNat q), .int (Int32.ofNat len)] 7)) (T7.setTop (mkF m 3 #[.val (.ref b), .val (.int (Int32.ofNat (o + i) + 1)), .val (.ref d), .val (.int (Int32.ofNat (q + i) + 1)), .val (.int (Int32.ofNat len)), .val (.int (Int32.ofNat i + 1)), .val (.int (cv A (o + i)))] [])) := c8.trans (by
        refine iincV X7.here hexec rfl 1 (hb hbytes d32) (by decide) rfl rfl ?_
        refine iincV X7.here hexec rfl 1 (hb hbytes d35) (by decide) rfl rfl ?_
        refine iincV X7.here hexec rfl 1 (hb hbytes d38) (by decide) rfl rfl ?_
        refine XS.goto X7.here hexec rfl (pc0 := 41) rfl (hb hbytes d41) (by decide) rfl ?_
        exact Steps.refl _)
      have c10 : Steps p.tables e below (s₁.setTop (entryFrame m #[.ref b, .int (Int32.ofNat o), .ref d, .int (Int32.ofNat q), .int (Int32.ofNat len)] 7)) (T7.setTop (mkF m 3 #[.val (.ref b), .val (.int (Int32.ofNat (o + (i + 1)))), .val (.ref d), .val (.int (Int32.ofNat (q + (i + 1)))), .val (.int (Int32.ofNat len)), .val (.int (Int32.ofNat (i + 1))), .val (.int (cv A (o + i)))] [])) := by
        have := c9
        rw [succ32, succ32, succ32] at this
        exact this
      exact ih (i + 1) (by omega) _ (Or.inr ⟨_, rfl, rfl⟩) T7 _ (by rw [copyLocs_step, ← List.append_assoc]; exact X7) (pl.trans p7) (fl.step (by omega) hlt (by simp)) c10
  obtain ⟨T9, B9, z9, X9, p9, f9, g9⟩ := loop len 0 (by omega) .unset (Or.inl rfl) s₁ B (by simpa [copyLocs] using X0) ⟨hB0.1, fun _ _ => rfl, rfl⟩ (Laid.zero _ _ _) c2
  have c11 : Steps p.tables e below (s₁.setTop (entryFrame m #[.ref b, .int (Int32.ofNat o), .ref d, .int (Int32.ofNat q), .int (Int32.ofNat len)] 7)) (T9.setTop (mkF m 46 #[.val (.ref b), .val (.int (Int32.ofNat (o + len))), .val (.ref d), .val (.int (Int32.ofNat (q + len))), .val (.int (Int32.ofNat len)), .val (.int (Int32.ofNat len)), z9] [.int (Int32.ofNat len)])) := g9.trans (by
    refine XS.iload X9.here hexec rfl (hb hbytes d3) rfl ?_
    refine XS.iload X9.here hexec rfl (hb hbytes d5) rfl ?_
    refine XS.icmpYes X9.here hexec rfl (pc0 := 7) rfl (hb hbytes d7) rfl (ii_ge_t (nlt32 (by omega) (Nat.le_refl _))) (by decide) rfl ?_
    refine XS.iload X9.here hexec rfl (hb hbytes d44) rfl ?_
    exact Steps.refl _)
  exact ⟨T9, some (.int (Int32.ofNat len)), _, _, _, X9, by simp, rfl, rfl, (fun h => by cases h), ⟨rfl, B9, p9.from hh0, f9⟩, fun fs hl => c11.trans (X9.ireturnOut hexec hret rfl (Or.inl rfl) (hb hbytes d46) hl)⟩
end Cmp5
namespace Cmp3
def yN : MethodName := ⟨"java/lang/StringUTF16", "compress", "([CII)[B"⟩
abbrev yB : ByteArray := jdk_52_method_16_code
theorem d0 : decode yB 0 = .ok (.iload_n 2, 1) := by decide +kernel
theorem d1 : decode yB 1 = .ok (.newarray .byte, 2) := by decide +kernel
theorem d3 : decode yB 3 = .ok (.astore_n 3, 1) := by decide +kernel
theorem d4 : decode yB 4 = .ok (.aload_n 0, 1) := by decide +kernel
theorem d5 : decode yB 5 = .ok (.iload_n 1, 1) := by decide +kernel
theorem d6 : decode yB 6 = .ok (.aload_n 3, 1) := by decide +kernel
theorem d7 : decode yB 7 = .ok (.iconst 0, 1) := by decide +kernel
theorem d8 : decode yB 8 = .ok (.iload_n 2, 1) := by decide +kernel
theorem d9 : decode yB 9 = .ok (.invokestatic 115, 3) := by decide +kernel
theorem d12 : decode yB 12 = .ok (.istore 4, 2) := by decide +kernel
theorem d14 : decode yB 14 = .ok (.iload 4, 2) := by decide +kernel
theorem d16 : decode yB 16 = .ok (.iload_n 2, 1) := by decide +kernel
theorem d17 : decode yB 17 = .ok (.if_icmp (.eq) 40, 3) := by decide +kernel
theorem d57 : decode yB 57 = .ok (.aload_n 3, 1) := by decide +kernel
theorem d58 : decode yB 58 = .ok (.areturn, 1) := by decide +kernel
def site : List Cond := [.arrayClass .byte, Cmp5.tab] ++ staticW U16 115 Cmp5.yN
def tab : Cond := tabOf yN yB 6 (some (.array .byte)) site
def P (b : Addr) (A : Cell) (o len : Nat) (args : Array Value) (s : State) : Prop := args = #[.ref b, .int (Int32.ofNat o), .int (Int32.ofNat len)] ∧ Ch b A s ∧ o + len ≤ A.slots.size ∧ len ≤ 536870912 ∧ ∀ i, i < len → ¬ 255 < cv A (o + i)
def E (b : Addr) (A : Cell) (o len : Nat) (r : Option Value) (s u : State) : Prop := NewArr .byte "[B" len (fun j => .int (lo8 (cv A (o + j)))) r s u ∧ u.heap.size = s.heap.size + 1
/-- no char of the range above 255: a new byte[] of their low bytes -/
theorem law (l : Launch) (b : Addr) (A : Cell) (o len : Nat) : Law l yN 3 3 1 18 yB 6 (some (.array .byte)) site (P b A o len) (E b A o len) [] 1 len := by
  refine Law.of_walk (plainFor_of_name (by decide +kernel)) (by decide +kernel) (by decide +kernel) (by decide) (fun _ _ h => by rw [h.1]; rfl) (fun _ U U' hal hh h => ⟨h.1, h.2.1.mv hal hh, h.2.2⟩) (fun r U U' V V' h1 hal h2 h => ⟨NewArr.mv r U U' V V' h1 hal h2 h.1, by rw [h1, h2]; exact h.2⟩) ?_
  intro p e s m args below meth c s₁ X0 hexec hbytes hml hret hlk hnm hown hh0 W hP
  obtain ⟨rfl, hA, l1, l2, hp⟩ := hP
  have a31 := hA.1.2.2.2
  have c1 : Steps p.tables e below (s₁.setTop (entryFrame m #[.ref b, .int (Int32.ofNat o), .int (Int32.ofNat len)] 6)) (s₁.setTop (mkF m 0 #[.val (.ref b), .val (.int (Int32.ofNat o)), .val (.int (Int32.ofNat len)), .unset, .unset, .unset] [])) := entry rfl
  have c2 : Steps p.tables e below (s₁.setTop (entryFrame m #[.ref b, .int (Int32.ofNat o), .int (Int32.ofNat len)] 6)) (s₁.setTop (mkF m 1 #[.val (.ref b), .val (.int (Int32.ofNat o)), .val (.int (Int32.ofNat len)), .unset, .unset, .unset] [.int (Int32.ofNat len)])) := c1.trans (by
    refine XS.iloadN X0.here hexec rfl (hb hbytes d0) rfl ?_
    exact Steps.refl _)
  obtain ⟨T3, B3, X3, ba3, bs3, bv3, bh3, bf3, st3⟩ := X0.anew hexec (atype := .byte) (wk W (.arrayClass .byte)) rfl (by show len * 1 ≤ _; omega) (by omega) (g := (mkF m 1 #[.val (.ref b), .val (.int (Int32.ofNat o)), .val (.int (Int32.ofNat len)), .unset, .unset, .unset] [.int (Int32.ofNat len)])) rfl (hb hbytes d1) (rest := []) rfl (Nat.le_refl _) (by show 0 + len ≤ len; omega)
  rw [hh0] at ba3 st3
  have kp3 : XT.Kept s T3 := (XT.Kept.of_eq hh0).push bh3
  have hA3 := hA.keep X3.warmed.alike (kp3 _ _ hA.1.1)
  have hne : b ≠ s.heap.size := hA.1.ne
  have c4 : Steps p.tables e below (s₁.setTop (entryFrame m #[.ref b, .int (Int32.ofNat o), .int (Int32.ofNat len)] 6)) (T3.setTop (mkF m 3 #[.val (.ref b), .val (.int (Int32.ofNat o)), .val (.int (Int32.ofNat len)), .unset, .unset, .unset] [.ref s.heap.size])) := c2.trans (st3 _ (Steps.refl _))
  have c5 : Steps p.tables e below (s₁.setTop (entryFrame m #[.ref b, .int (Int32.ofNat o), .int (Int32.ofNat len)] 6)) (T3.setTop (mkF m 9 #[.val (.ref b), .val (.int (Int32.ofNat o)), .val (.int (Int32.ofNat len)), .val (.ref s.heap.size), .unset, .unset] [.int (Int32.ofNat len), .int 0, .ref s.heap.size, .int (Int32.ofNat o), .ref b])) := c4.trans (by
    refine XS.astoreN X3.here hexec rfl (hb hbytes d3) rfl rfl rfl ?_
    refine XS.aloadN X3.here hexec rfl (hb hbytes d4) rfl rfl ?_
    refine XS.iloadN X3.here hexec rfl (hb hbytes d5) rfl ?_
    refine XS.aloadN X3.here hexec rfl (hb hbytes d6) rfl rfl ?_
    refine iconstV X3.here hexec rfl 0 (hb hbytes d7) (by decide) ?_
    refine XS.iloadN X3.here hexec rfl (hb hbytes d8) rfl ?_
    exact Steps.refl _)
  obtain ⟨v6, T6, X6, E6, g6⟩ := X3.callS hexec (Cmp5.law l b A s.heap.size B3 o 0 len) hown (wks W (staticW U16 115 Cmp5.yN)) (wk W Cmp5.tab) (W := 0) (Nat.le_of_ble_eq_true rfl) (Nat.le_of_ble_eq_true rfl) (Nat.le_refl _) (by show 0 + len + 0 ≤ len; omega) (g := (mkF m 9 #[.val (.ref b), .val (.int (Int32.ofNat o)), .val (.int (Int32.ofNat len)), .val (.ref s.heap.size), .unset, .unset] [.int (Int32.ofNat len), .int (Int32.ofNat 0), .ref s.heap.size, .int (Int32.ofNat o), .ref b])) rfl (by rw [hml]; rfl) c5 (argsL := [.ref b, .int (Int32.ofNat o), .ref s.heap.size, .int (Int32.ofNat 0), .int (Int32.ofNat len)]) (rest := []) rfl rfl (by show 2 * 0 + 0 ≤ _; decide) (hb hbytes d9) (⟨rfl, hA3, ba3, hne, l1, by rw [bs3]; simp, hp⟩)
  obtain ⟨rfl, B6, p6, f6⟩ := E6
  have c7 : Steps p.tables e below (s₁.setTop (entryFrame m #[.ref b, .int (Int32.ofNat o), .int (Int32.ofNat len)] 6)) (T6.setTop (mkF m 12 #[.val (.ref b), .val (.int (Int32.ofNat o)), .val (.int (Int32.ofNat len)), .val (.ref s.heap.size), .unset, .unset] [.int (Int32.ofNat len)])) := g6
  have c8 : Steps p.tables e below (s₁.setTop (entryFrame m #[.ref b, .int (Int32.ofNat o), .int (Int32.ofNat len)] 6)) (T6.setTop (mkF m 58 #[.val (.ref b), .val (.int (Int32.ofNat o)), .val (.int (Int32.ofNat len)), .val (.ref s.heap.size), .val (.int (Int32.ofNat len)), .unset] [.ref s.heap.size])) := c7.trans (by
    refine XS.istore X6.here hexec rfl (hb hbytes d12) rfl rfl ?_
    refine XS.iload X6.here hexec rfl (hb hbytes d14) rfl ?_
    refine XS.iloadN X6.here hexec rfl (hb hbytes d16) rfl ?_
    refine XS.icmpYes X6.here hexec rfl (pc0 := 17) rfl (hb hbytes d17) rfl (ii_eq_t rfl) (by decide) rfl ?_
    refine XS.aloadN X6.here hexec rfl (hb hbytes d57) rfl rfl ?_
    exact Steps.refl _)
  have X8 := X6.wide (L' := []) (cells' := 1) (slots' := len) (fun x hx hlt => by
    simp only [List.nil_append, copyLocs, List.mem_map, List.mem_range] at hx
    obtain ⟨i, -, rfl⟩ := hx
    exact absurd hlt (Nat.lt_irrefl _)) (Nat.le_refl _) (by omega)
  exact ⟨T6, some (.ref s.heap.size), _, _, _, X8, rfl, rfl, rfl, (fun h => by cases h), ⟨⟨rfl, B6, ba3.like (X3.warmed.alike.symm.trans X6.warmed.alike) p6.1 f6.1 f6.2.1 f6.2.2.1, f6.2.1.trans bv3, by rw [X6.warmed.alike.findClass, f6.1]; exact bf3, by rw [f6.2.2.1, bs3]; simp, fun j hj => by rw [f6.2.2.2 j, if_pos (by omega)]; rfl, kp3.put p6 (Nat.le_refl _)⟩, by rw [p6.2.2, bh3, hh0]; simp⟩, fun fs hl => c8.trans (X8.areturnOut hexec rfl hret rfl (hb hbytes d58) hl)⟩
end Cmp3
namespace CodL
def yN : MethodName := ⟨"java/lang/StringUTF16", "coderFromArrayLen", "([BI)B"⟩
abbrev yB : ByteArray := jdk_52_method_15_code
theorem d0 : decode yB 0 = .ok (.iload_n 1, 1) := by decide +kernel
theorem d1 : decode yB 1 = .ok (.aload_n 0, 1) := by decide +kernel
theorem d2 : decode yB 2 = .ok (.arraylength, 1) := by decide +kernel
theorem d3 : decode yB 3 = .ok (.isub, 1) := by decide +kernel
theorem d4 : decode yB 4 = .ok (.bipush 31, 2) := by decide +kernel
theorem d6 : decode yB 6 = .ok (.iushr, 1) := by decide +kernel
theorem d7 : decode yB 7 = .ok (.i2b, 1) := by decide +kernel
theorem d8 : decode yB 8 = .ok (.ireturn, 1) := by decide +kernel
def site : List Cond := []
def tab : Cond := tabOf yN yB 2 (some .byte) site
def P (d : Addr) (B : Cell) (args : Array Value) (s : State) : Prop := args = #[.ref d, .int (Int32.ofNat B.slots.size)] ∧ Arr .byte d B s
def E (r : Option Value) (s u : State) : Prop := XT.PureE (some (.int 0)) r s u
/-- an array as long as the number of chars: LATIN1 -/
theorem law (l : Launch) (d : Addr) (B : Cell) : Law l yN 2 2 0 0 yB 2 (some .byte) site (P d B) E [] 0 0 := by
  refine Law.of_walk (plainFor_of_name (by decide +kernel)) (by decide +kernel) (by decide +kernel) (by decide) (fun _ _ h => by rw [h.1]; rfl) (fun _ U U' hal hh h => ⟨h.1, h.2.mv hal hh⟩) (fun r U U' V V' h1 hal h2 h => XT.PureE.mv r U U' V V' h1 hal h2 h) ?_
  intro p e s m args below meth c s₁ X0 hexec hbytes hml hret hlk hnm hown hh0 W hP
  obtain ⟨rfl, hB⟩ := hP
  have hB0 := hB.mv X0.warmed.alike hh0
  have c1 : Steps p.tables e below (s₁.setTop (entryFrame m #[.ref d, .int (Int32.ofNat B.slots.size)] 2)) (s₁.setTop (mkF m 0 #[.val (.ref d), .val (.int (Int32.ofNat B.slots.size))] [])) := entry rfl
  have c2 : Steps p.tables e below (s₁.setTop (entryFrame m #[.ref d, .int (Int32.ofNat B.slots.size)] 2)) (s₁.setTop (mkF m 2 #[.val (.ref d), .val (.int (Int32.ofNat B.slots.size))] [.ref d, .int (Int32.ofNat B.slots.size)])) := c1.trans (by
    refine XS.iloadN X0.here hexec rfl (hb hbytes d0) rfl ?_
    refine XS.aloadN X0.here hexec rfl (hb hbytes d1) rfl rfl ?_
    exact Steps.refl _)
  have c3 : Steps p.tables e below (s₁.setTop (entryFrame m #[.ref d, .int (Int32.ofNat B.slots.size)] 2)) (s₁.setTop (mkF m 8 #[.val (.ref d), .val (.int (Int32.ofNat B.slots.size))] [.int (lo8 (ushr (Int32.ofNat B.slots.size - Int32.ofNat B.slots.size) 31))])) := c2.trans (by
    refine X0.alen hexec hB0 rfl rfl (hb hbytes d2) ?_
    refine XS.isub X0.here hexec rfl (hb hbytes d3) rfl ?_
    refine bipushV X0.here hexec rfl 31 (hb hbytes d4) (by decide) ?_
    refine iushr X0.here hexec rfl (hb hbytes d6) rfl ?_
    refine i2b X0.here hexec rfl (hb hbytes d7) rfl ?_
    exact Steps.refl _)
  have e0 : lo8 (ushr (Int32.ofNat B.slots.size - Int32.ofNat B.slots.size) 31) = 0 := by rw [Int32.sub_self]; decide
  rw [e0] at c3
  exact ⟨s₁, some (.int 0), _, _, _, X0, rfl, rfl, rfl, (fun h => by cases h), ⟨rfl, hh0⟩, fun fs hl => c3.trans (X0.ireturnOut hexec hret rfl (Or.inr (Or.inr (Or.inl rfl))) (hb hbytes d8) hl)⟩
end CodL
/-- the String at a is Latin-1 over a new byte[] (the heap's one new cell): the low bytes of the len chars of A from o on; every cell but a is kept -/
def Got (a : Addr) (D : Cell) (fV fC : Field) (A : Cell) (o len : Nat) (r : Option Value) (s u : State) : Prop := r = none ∧ ∃ D' V : Cell, Blank "java/lang/String" a D' u ∧ Same D D' [fV.slot, fC.slot] ∧ D'.slots[fV.slot]? = some (.ref s.heap.size) ∧ D'.slots[fC.slot]? = some (.int 0) ∧ Arr .byte s.heap.size V u ∧ V.vm = .none ∧ u.vm.findClass "[B" = some V.cls ∧ V.slots.size = len ∧ (∀ j, j < len → V.slots[j]? = some (.int (lo8 (cv A (o + j))))) ∧ (∀ (y : Addr) (c : Cell), y ≠ a → s.heap[y]? = some c → u.heap[y]? = some c) ∧ u.heap.size = s.heap.size + 1
theorem Got.mv {a : Addr} {D A : Cell} {fV fC : Field} {o len : Nat} : ∀ r (U U' V V' : State), U'.heap = U.heap → V.vm.Alike V'.vm → V'.heap = V.heap → Got a D fV fC A o len r U V → Got a D fV fC A o len r U' V' :=
  fun r U U' V V' h1 hal h2 ⟨e0, D', X, a1, a2, a3, a4, a5, a6, a7, a8, a9, a10, a11⟩ => ⟨e0, D', X, a1.mv hal h2, a2, by rw [h1]; exact a3, a4, by rw [h1]; exact a5.mv hal h2, a6, by rw [hal.findClass]; exact a7, a8, a9, by rw [h1, h2]; exact a10, by rw [h1, h2]; exact a11⟩
namespace New4
def yN : MethodName := ⟨"java/lang/String", "<init>", "([CIILjava/lang/Void;)V"⟩
abbrev yB : ByteArray := jdk_42_method_149_code
theorem d0 : decode yB 0 = .ok (.aload_n 0, 1) := by decide +kernel
theorem d1 : decode yB 1 = .ok (.invokespecial 1, 3) := by decide +kernel
theorem d4 : decode yB 4 = .ok (.iload_n 3, 1) := by decide +kernel
theorem d5 : decode yB 5 = .ok (.ifCond (.ne) 22, 3) := by decide +kernel
theorem d27 : decode yB 27 = .ok (.getstatic 38, 3) := by decide +kernel
theorem d30 : decode yB 30 = .ok (.ifCond (.eq) 28, 3) := by decide +kernel
theorem d33 : decode yB 33 = .ok (.aload_n 1, 1) := by decide +kernel
theorem d34 : decode yB 34 = .ok (.iload_n 2, 1) := by decide +kernel
theorem d35 : decode yB 35 = .ok (.iload_n 3, 1) := by decide +kernel
theorem d36 : decode yB 36 = .ok (.invokestatic 177, 3) := by decide +kernel
theorem d39 : decode yB 39 = .ok (.astore 5, 2) := by decide +kernel
theorem d41 : decode yB 41 = .ok (.aload_n 0, 1) := by decide +kernel
theorem d42 : decode yB 42 = .ok (.aload 5, 2) := by decide +kernel
theorem d44 : decode yB 44 = .ok (.iload_n 3, 1) := by decide +kernel
theorem d45 : decode yB 45 = .ok (.invokestatic 47, 3) := by decide +kernel
theorem d48 : decode yB 48 = .ok (.putfield 15, 3) := by decide +kernel
theorem d51 : decode yB 51 = .ok (.aload_n 0, 1) := by decide +kernel
theorem d52 : decode yB 52 = .ok (.aload 5, 2) := by decide +kernel
theorem d54 : decode yB 54 = .ok (.putfield 9, 3) := by decide +kernel
theorem d57 : decode yB 57 = .ok (.return_, 1) := by decide +kernel
def site : List Cond := [.fieldLink "java/lang/String" 38 "java/lang/String" "COMPACT_STRINGS" "Z", Cmp3.tab, CodL.tab, .laysFinal "java/lang/String" "java/lang/String" "value" "[B", .fieldLink "java/lang/String" 9 "java/lang/String" "value" "[B", .laysFinal "java/lang/String" "java/lang/String" "coder" "B", .fieldLink "java/lang/String" 15 "java/lang/String" "coder" "B"] ++ objW "java/lang/String" 1 ++ staticW "java/lang/String" 177 Cmp3.yN ++ staticW "java/lang/String" 47 CodL.yN
def tab : Cond := tabOf yN yB 6 none site
def P (a : Addr) (D : Cell) (fV fC : Field) (b : Addr) (A : Cell) (z : Int32) (o len : Nat) (args : Array Value) (s : State) : Prop := args = #[.ref a, .ref b, .int (Int32.ofNat o), .int (Int32.ofNat len), .null] ∧ Blank "java/lang/String" a D s ∧ Found "java/lang/String" "value" "[B" fV s ∧ Found "java/lang/String" "coder" "B" fC s ∧ Ch b A s ∧ StaticIs s "java/lang/String" "COMPACT_STRINGS" "Z" (.int z) ∧ ¬ z = 0 ∧ 0 < len ∧ o + len ≤ A.slots.size ∧ len ≤ 536870912 ∧ ∀ i, i < len → ¬ 255 < cv A (o + i)
def E (a : Addr) (D : Cell) (fV fC : Field) (A : Cell) (o len : Nat) (r : Option Value) (s u : State) : Prop := Got a D fV fC A o len r s u
/-- len > 0, no char of the range above 255: a Latin-1 String of their low bytes -/
theorem law (l : Launch) (a : Addr) (D : Cell) (fV fC : Field) (b : Addr) (A : Cell) (z : Int32) (o len : Nat) : Law l yN 5 4 2 35 yB 6 none site (P a D fV fC b A z o len) (E a D fV fC A o len) [⟨a, fC.slot⟩, ⟨a, fV.slot⟩] 1 len := by
  refine Law.of_walk (plainFor_of_name (by decide +kernel)) (by decide +kernel) (by decide +kernel) (by decide) (fun _ _ h => by rw [h.1]; rfl) (fun _ U U' hal hh h => ⟨h.1, h.2.1.mv hal hh, h.2.2.1.al hal, h.2.2.2.1.al hal, h.2.2.2.2.1.mv hal hh, h.2.2.2.2.2.1.there hal hh, h.2.2.2.2.2.2⟩) (fun r U U' V V' h1 hal h2 h => Got.mv r U U' V V' h1 hal h2 h) ?_
  intro p e s m args below meth c s₁ X0 hexec hbytes hml hret hlk hnm hown hh0 W hP
  obtain ⟨rfl, hB, f1, f2, hA, s1, hz, l0, l1, l2, hp⟩ := hP
  have a31 := hA.1.2.2.2
  have c1 : Steps p.tables e below (s₁.setTop (entryFrame m #[.ref a, .ref b, .int (Int32.ofNat o), .int (Int32.ofNat len), .null] 6)) (s₁.setTop (mkF m 0 #[.val (.ref a), .val (.ref b), .val (.int (Int32.ofNat o)), .val (.int (Int32.ofNat len)), .val .null, .unset] [])) := entry rfl
  have c2 : Steps p.tables e below (s₁.setTop (entryFrame m #[.ref a, .ref b, .int (Int32.ofNat o), .int (Int32.ofNat len), .null] 6)) (s₁.setTop (mkF m 1 #[.val (.ref a), .val (.ref b), .val (.int (Int32.ofNat o)), .val (.int (Int32.ofNat len)), .val .null, .unset] [.ref a])) := c1.trans (by
    refine XS.aloadN X0.here hexec rfl (hb hbytes d0) rfl rfl ?_
    exact Steps.refl _)
  obtain ⟨T3, X3, q3, st3⟩ := X0.oinit hexec hown (wks W (objW "java/lang/String" 1)) (g := (mkF m 1 #[.val (.ref a), .val (.ref b), .val (.int (Int32.ofNat o)), .val (.int (Int32.ofNat len)), .val .null, .unset] [.ref a])) rfl (by rw [hml]; rfl) (rest := []) rfl (hb hbytes d1) (W := 0) (by show 2 * 0 + 0 ≤ _; decide) (Nat.le_of_ble_eq_true rfl) (Nat.le_of_ble_eq_true rfl)
  have hh3 := q3.trans hh0
  have c4 : Steps p.tables e below (s₁.setTop (entryFrame m #[.ref a, .ref b, .int (Int32.ofNat o), .int (Int32.ofNat len), .null] 6)) (T3.setTop (mkF m 27 #[.val (.ref a), .val (.ref b), .val (.int (Int32.ofNat o)), .val (.int (Int32.ofNat len)), .val .null, .unset] [])) := (c2.trans (st3 _ (Steps.refl _))).trans (by
    refine XS.iloadN X3.here hexec rfl (hb hbytes d4) rfl ?_
    refine XS.ifYes X3.here hexec rfl (pc0 := 5) rfl (hb hbytes d5) rfl (i0_ne_t (nz32 (by omega) l0)) (by decide) rfl ?_
    exact Steps.refl _)
  obtain ⟨T5, X5, q5, st5⟩ := X3.sget hexec hown (wk W (.fieldLink "java/lang/String" 38 "java/lang/String" "COMPACT_STRINGS" "Z")) s1 (fun _ _ h => by rw [hh3]; exact h) (g := (mkF m 27 #[.val (.ref a), .val (.ref b), .val (.int (Int32.ofNat o)), .val (.int (Int32.ofNat len)), .val .null, .unset] [])) rfl (hb hbytes d27)
  have hh5 := q5.trans hh3
  have c6 : Steps p.tables e below (s₁.setTop (entryFrame m #[.ref a, .ref b, .int (Int32.ofNat o), .int (Int32.ofNat len), .null] 6)) (T5.setTop (mkF m 30 #[.val (.ref a), .val (.ref b), .val (.int (Int32.ofNat o)), .val (.int (Int32.ofNat len)), .val .null, .unset] [.int z])) := c4.trans (st5 _ (Steps.refl _))
  have c7 : Steps p.tables e below (s₁.setTop (entryFrame m #[.ref a, .ref b, .int (Int32.ofNat o), .int (Int32.ofNat len), .null] 6)) (T5.setTop (mkF m 36 #[.val (.ref a), .val (.ref b), .val (.int (Int32.ofNat o)), .val (.int (Int32.ofNat len)), .val .null, .unset] [.int (Int32.ofNat len), .int (Int32.ofNat o), .ref b])) := c6.trans (by
    refine XS.ifNo X5.here hexec rfl (hb hbytes d30) rfl (i0_eq_f hz) ?_
    refine XS.aloadN X5.here hexec rfl (hb hbytes d33) rfl rfl ?_
    refine XS.iloadN X5.here hexec rfl (hb hbytes d34) rfl ?_
    refine XS.iloadN X5.here hexec rfl (hb hbytes d35) rfl ?_
    exact Steps.refl _)
  obtain ⟨v8, T8, X8, E8, g8⟩ := X5.callS hexec (Cmp3.law l b A o len) hown (wks W (staticW "java/lang/String" 177 Cmp3.yN)) (wk W Cmp3.tab) (W := 0) (Nat.le_of_ble_eq_true rfl) (Nat.le_of_ble_eq_true rfl) (Nat.le_refl _) (by show 0 + len ≤ len; omega) (g := (mkF m 36 #[.val (.ref a), .val (.ref b), .val (.int (Int32.ofNat o)), .val (.int (Int32.ofNat len)), .val .null, .unset] [.int (Int32.ofNat len), .int (Int32.ofNat o), .ref b])) rfl (by rw [hml]; rfl) c7 (argsL := [.ref b, .int (Int32.ofNat o), .int (Int32.ofNat len)]) (rest := []) rfl rfl (by show 2 * 0 + 0 ≤ _; decide) (hb hbytes d36) (⟨rfl, hA.mv X5.warmed.alike hh5, l1, l2, hp⟩)
  obtain ⟨e8, z8⟩ := E8
  obtain ⟨rfl, N, n1, n2, n3, n4, n5, n6⟩ := NewArr.mv _ T5 s _ _ hh5.symm (Vm.Alike.refl _) rfl e8
  rw [hh5] at z8
  have hB1 := hB.keep X8.warmed.alike (n6 _ _ hB.1)
  have hne : s.heap.size ≠ a := (Nat.ne_of_lt (Array.getElem?_eq_some_iff.mp hB.1).1).symm
  have c9 : Steps p.tables e below (s₁.setTop (entryFrame m #[.ref a, .ref b, .int (Int32.ofNat o), .int (Int32.ofNat len), .null] 6)) (T8.setTop (mkF m 39 #[.val (.ref a), .val (.ref b), .val (.int (Int32.ofNat o)), .val (.int (Int32.ofNat len)), .val .null, .unset] [.ref s.heap.size])) := g8
  have c10 : Steps p.tables e below (s₁.setTop (entryFrame m #[.ref a, .ref b, .int (Int32.ofNat o), .int (Int32.ofNat len), .null] 6)) (T8.setTop (mkF m 45 #[.val (.ref a), .val (.ref b), .val (.int (Int32.ofNat o)), .val (.int (Int32.ofNat len)), .val .null, .val (.ref s.heap.size)] [.int (Int32.ofNat N.slots.size), .ref s.heap.size, .ref a])) := by
    have hc : Steps p.tables e below (s₁.setTop (entryFrame m #[.ref a, .ref b, .int (Int32.ofNat o), .int (Int32.ofNat len), .null] 6)) (T8.setTop (mkF m 45 #[.val (.ref a), .val (.ref b), .val (.int (Int32.ofNat o)), .val (.int (Int32.ofNat len)), .val .null, .val (.ref s.heap.size)] [.int (Int32.ofNat len), .ref s.heap.size, .ref a])) := c9.trans (by
      refine XS.astore X8.here hexec rfl (hb hbytes d39) rfl rfl rfl ?_
      refine XS.aloadN X8.here hexec rfl (hb hbytes d41) rfl rfl ?_
      refine XS.aload X8.here hexec rfl (hb hbytes d42) rfl rfl ?_
      refine XS.iloadN X8.here hexec rfl (hb hbytes d44) rfl ?_
      exact Steps.refl _)
    rw [n4]; exact hc
  obtain ⟨v11, T11, X11, E11, g11⟩ := X8.callS hexec (CodL.law l s.heap.size N) hown (wks W (staticW "java/lang/String" 47 CodL.yN)) (wk W CodL.tab) (W := 1) (Nat.le_of_ble_eq_true rfl) (Nat.le_of_ble_eq_true rfl) (Nat.le_refl _) (by show 0 + len + 0 ≤ len; omega) (g := (mkF m 45 #[.val (.ref a), .val (.ref b), .val (.int (Int32.ofNat o)), .val (.int (Int32.ofNat len)), .val .null, .val (.ref s.heap.size)] [.int (Int32.ofNat N.slots.size), .ref s.heap.size, .ref a])) rfl (by rw [hml]; rfl) c10 (argsL := [.ref s.heap.size, .int (Int32.ofNat N.slots.size)]) (rest := [.ref a]) rfl rfl (by show 2 * 0 + (1 + 0) ≤ _; decide) (hb hbytes d45) (⟨rfl, n1⟩)
  obtain ⟨rfl, q11⟩ := E11
  have hB11 := hB1.mv (X8.warmed.alike.symm.trans X11.warmed.alike) q11
  have c12 : Steps p.tables e below (s₁.setTop (entryFrame m #[.ref a, .ref b, .int (Int32.ofNat o), .int (Int32.ofNat len), .null] 6)) (T11.setTop (mkF m 48 #[.val (.ref a), .val (.ref b), .val (.int (Int32.ofNat o)), .val (.int (Int32.ofNat len)), .val .null, .val (.ref s.heap.size)] [.int 0, .ref a])) := g11
  obtain ⟨T13, X13, p13, bl13, sl13, st13⟩ := X11.finit hexec hown (wk W (.fieldLink "java/lang/String" 15 "java/lang/String" "coder" "B")) (Or.inr ⟨_, (wk W (.laysFinal "java/lang/String" "java/lang/String" "coder" "B"))⟩) (Or.inl ⟨rfl, hnm⟩) f2 (Or.inl rfl) hB11 (t := .byte) (by decide +kernel) rfl (g := (mkF m 48 #[.val (.ref a), .val (.ref b), .val (.int (Int32.ofNat o)), .val (.int (Int32.ofNat len)), .val .null, .val (.ref s.heap.size)] [.int 0, .ref a])) rfl (rest := []) rfl (hb hbytes d48)
  have c14 : Steps p.tables e below (s₁.setTop (entryFrame m #[.ref a, .ref b, .int (Int32.ofNat o), .int (Int32.ofNat len), .null] 6)) (T13.setTop (mkF m 54 #[.val (.ref a), .val (.ref b), .val (.int (Int32.ofNat o)), .val (.int (Int32.ofNat len)), .val .null, .val (.ref s.heap.size)] [.ref s.heap.size, .ref a])) := (c12.trans (st13 _ (Steps.refl _))).trans (by
    refine XS.aloadN X13.here hexec rfl (hb hbytes d51) rfl rfl ?_
    refine XS.aload X13.here hexec rfl (hb hbytes d52) rfl rfl ?_
    exact Steps.refl _)
  obtain ⟨T15, X15, p15, bl15, sl15, st15⟩ := X13.finit hexec hown (wk W (.fieldLink "java/lang/String" 9 "java/lang/String" "value" "[B")) (Or.inr ⟨_, (wk W (.laysFinal "java/lang/String" "java/lang/String" "value" "[B"))⟩) (Or.inl ⟨rfl, hnm⟩) f1 (Or.inl rfl) bl13 (t := (.array .byte)) (by decide +kernel) rfl (g := (mkF m 54 #[.val (.ref a), .val (.ref b), .val (.int (Int32.ofNat o)), .val (.int (Int32.ofNat len)), .val .null, .val (.ref s.heap.size)] [.ref s.heap.size, .ref a])) rfl (rest := []) rfl (hb hbytes d54)
  have c16 : Steps p.tables e below (s₁.setTop (entryFrame m #[.ref a, .ref b, .int (Int32.ofNat o), .int (Int32.ofNat len), .null] 6)) (T15.setTop (mkF m 57 #[.val (.ref a), .val (.ref b), .val (.int (Int32.ofNat o)), .val (.int (Int32.ofNat len)), .val .null, .val (.ref s.heap.size)] [])) := c14.trans (st15 _ (Steps.refl _))
  have ap := apart (Or.inr ⟨_, (wk W (.laysFinal "java/lang/String" "java/lang/String" "value" "[B"))⟩) (Or.inr ⟨_, (wk W (.laysFinal "java/lang/String" "java/lang/String" "coder" "B"))⟩) f1 f2 (t₁ := .array .byte) (t₂ := .byte) (by decide +kernel) (by decide +kernel) (by decide)
  have al := X8.warmed.alike.symm.trans X15.warmed.alike
  have n7 : T11.heap[s.heap.size]? = some N := by rw [q11]; exact n1.1
  exact ⟨T15, none, _, _, _, X15, by simp, rfl, by omega, (fun _ => rfl), ⟨rfl, _, N, bl15, ((Same.refl D _).set _ (by simp)).set _ (by simp), sl15, (Cell.slots_setSlot_ne _ ap).trans sl13, n1.keep al (p15.other hne (p13.other hne n7)), n2, by rw [al.findClass]; exact n3, n4, n5, fun y c h1 h2 => p15.other h1 (p13.other h1 (by rw [q11]; exact n6 y c h2)), by rw [p15.2.2, p13.2.2, q11]; exact z8⟩, fun fs hl => c16.trans (X15.returnOut hexec hret (hb hbytes d57) hl)⟩
end New4
namespace New1
def yN : MethodName := ⟨"java/lang/String", "<init>", "([C)V"⟩
abbrev yB : ByteArray := jdk_42_method_3_code
theorem d0 : decode yB 0 = .ok (.aload_n 0, 1) := by decide +kernel
theorem d1 : decode yB 1 = .ok (.aload_n 1, 1) := by decide +kernel
theorem d2 : decode yB 2 = .ok (.iconst 0, 1) := by decide +kernel
theorem d3 : decode yB 3 = .ok (.aload_n 1, 1) := by decide +kernel
theorem d4 : decode yB 4 = .ok (.arraylength, 1) := by decide +kernel
theorem d5 : decode yB 5 = .ok (.aconst_null, 1) := by decide +kernel
theorem d6 : decode yB 6 = .ok (.invokespecial 27, 3) := by decide +kernel
theorem d9 : decode yB 9 = .ok (.return_, 1) := by decide +kernel
def site : List Cond := [New4.tab] ++ initW "java/lang/String" 27 New4.yN
def tab : Cond := tabOf yN yB 2 none site
def P (a : Addr) (D : Cell) (fV fC : Field) (b : Addr) (A : Cell) (z : Int32) (args : Array Value) (s : State) : Prop := args = #[.ref a, .ref b] ∧ Blank "java/lang/String" a D s ∧ Found "java/lang/String" "value" "[B" fV s ∧ Found "java/lang/String" "coder" "B" fC s ∧ Ch b A s ∧ StaticIs s "java/lang/String" "COMPACT_STRINGS" "Z" (.int z) ∧ ¬ z = 0 ∧ 0 < A.slots.size ∧ A.slots.size ≤ 536870912 ∧ ∀ i, i < A.slots.size → ¬ 255 < cv A i
def E (a : Addr) (D : Cell) (fV fC : Field) (A : Cell) (r : Option Value) (s u : State) : Prop := Got a D fV fC A 0 A.slots.size r s u
/-- new String(chars), not empty, no char above 255: a Latin-1 String of their low bytes -/
theorem law (l : Launch) (a : Addr) (D : Cell) (fV fC : Field) (b : Addr) (A : Cell) (z : Int32) : Law l yN 2 1 3 52 yB 2 none site (P a D fV fC b A z) (E a D fV fC A) [⟨a, fC.slot⟩, ⟨a, fV.slot⟩] 1 A.slots.size := by
  refine Law.of_walk (plainFor_of_name (by decide +kernel)) (by decide +kernel) (by decide +kernel) (by decide) (fun _ _ h => by rw [h.1]; rfl) (fun _ U U' hal hh h => ⟨h.1, h.2.1.mv hal hh, h.2.2.1.al hal, h.2.2.2.1.al hal, h.2.2.2.2.1.mv hal hh, h.2.2.2.2.2.1.there hal hh, h.2.2.2.2.2.2⟩) (fun r U U' V V' h1 hal h2 h => Got.mv r U U' V V' h1 hal h2 h) ?_
  intro p e s m args below meth c s₁ X0 hexec hbytes hml hret hlk hnm hown hh0 W hP
  obtain ⟨rfl, hB, f1, f2, hA, s1, hz, l0, l2, hp⟩ := hP
  have c1 : Steps p.tables e below (s₁.setTop (entryFrame m #[.ref a, .ref b] 2)) (s₁.setTop (mkF m 0 #[.val (.ref a), .val (.ref b)] [])) := entry rfl
  have c2 : Steps p.tables e below (s₁.setTop (entryFrame m #[.ref a, .ref b] 2)) (s₁.setTop (mkF m 6 #[.val (.ref a), .val (.ref b)] [.null, .int (Int32.ofNat A.slots.size), .int 0, .ref b, .ref a])) := c1.trans (by
    refine XS.aloadN X0.here hexec rfl (hb hbytes d0) rfl rfl ?_
    refine XS.aloadN X0.here hexec rfl (hb hbytes d1) rfl rfl ?_
    refine iconstV X0.here hexec rfl 0 (hb hbytes d2) (by decide) ?_
    refine XS.aloadN X0.here hexec rfl (hb hbytes d3) rfl rfl ?_
    refine X0.alen hexec (hA.1.mv X0.warmed.alike hh0) rfl rfl (hb hbytes d4) ?_
    refine XS.aconstNull X0.here hexec rfl (hb hbytes d5) ?_
    exact Steps.refl _)
  obtain ⟨v3, T3, X3, E3, g3⟩ := X0.callN hexec (New4.law l a D fV fC b A z 0 A.slots.size) rfl hown (wks W (initW "java/lang/String" 27 New4.yN)) (W New4.tab (by simp only [site, List.mem_cons, List.mem_append, true_or, or_true])) (W := 0) (Nat.le_of_ble_eq_true rfl) (Nat.le_of_ble_eq_true rfl) (Nat.le_refl _) (by show 0 + A.slots.size ≤ A.slots.size; omega) (g := (mkF m 6 #[.val (.ref a), .val (.ref b)] [.null, .int (Int32.ofNat A.slots.size), .int (Int32.ofNat 0), .ref b, .ref a])) rfl (by rw [hml]; rfl) c2 (argsL := [.ref b, .int (Int32.ofNat 0), .int (Int32.ofNat A.slots.size), .null]) (rest := []) rfl rfl (by show 2 * 0 + 0 ≤ _; decide) (hb hbytes d6) (⟨rfl, hB.mv X0.warmed.alike hh0, f1.al X0.warmed.alike, f2.al X0.warmed.alike, hA.mv X0.warmed.alike hh0, s1.there X0.warmed.alike hh0, hz, l0, by omega, l2, fun i hi => by rw [Nat.zero_add]; exact hp i hi⟩)
  have e0 := Got.mv _ s₁ s _ _ hh0.symm (Vm.Alike.refl _) rfl E3
  obtain rfl := e0.1
  have c4 : Steps p.tables e below (s₁.setTop (entryFrame m #[.ref a, .ref b] 2)) (T3.setTop (mkF m 9 #[.val (.ref a), .val (.ref b)] [])) := g3
  exact ⟨T3, none, _, _, _, X3, by simp, rfl, by omega, (fun _ => rfl), e0, fun fs hl => c4.trans (X3.returnOut hexec hret (hb hbytes d9) hl)⟩
theorem pays {l : Launch} {R : Room} {p : Program} {e : Env} {below : List Frame} {s : State} {sargs : Array Value} {len W : Nat} (a : Addr) (D : Cell) (fV fC : Field) (b : Addr) (A : Cell) (z : Int32) (htab : tab.before sargs s = true) (hfr : 4 ≤ R.frames) (hlo : W + 65 ≤ R.locals) :
    Back l R p e below s sargs yN len W (fun A₁ a₁ => A₁.cells + 1 ≤ R.cells ∧ A₁.slots + A.slots.size ≤ R.slots ∧ P a D fV fC b A z a₁ A₁.U) (fun A₁ _ v₁ B₁ => E a D fV fC A v₁ A₁.U B₁.U ∧ B₁.locs = A₁.locs ++ [⟨a, fC.slot⟩, ⟨a, fV.slot⟩] ∧ B₁.cells = A₁.cells + 1 ∧ B₁.slots = A₁.slots + A.slots.size) :=
  (law l a D fV fC b A z).pays htab hfr (by omega)
end New1
/-- the byte, read back as charAt reads it, is the char -/
theorem lo8_mask {x : Int32} (h0 : ¬ x < 0) (h1 : ¬ 255 < x) : lo8 x &&& 255 = x := by
  have t : ∀ k : Fin 256, lo8 (Int32.ofNat k.val) &&& 255 = Int32.ofNat k.val := by decide +kernel
  rw [Int32.lt_iff_toInt_lt] at h0 h1
  have e0 : (0 : Int32).toInt = 0 := rfl
  have e1 : (255 : Int32).toInt = 255 := rfl
  obtain ⟨k, hk⟩ : ∃ k : Nat, x.toInt = k := ⟨x.toInt.toNat, by omega⟩
  have hx : x = Int32.ofNat k := Int32.toInt_inj.mp (by rw [hk, Int32.toInt_ofNat_small (by omega)])
  rw [hx]
  exact t ⟨k, by omega⟩
end StrChars
namespace StrChars.Road
open Jvm Sem ClassFile Op Lib Jvm.Stand Jvm.Free Jvm.Free.XT
open Jvm.Lib.Cold (StaticIs)
abbrev ST : String := "java/lang/String"
/-- every table word that New1's law asks, flat -/
abbrev words : List Jvm.Cond := [.code New1.yN New1.yB 2 none, .initialized ST, .methodLink ST 27 New4.yN, .instanceMethod New4.yN,
  .code New4.yN New4.yB 6 none, .fieldLink ST 38 ST "COMPACT_STRINGS" "Z", .laysFinal ST ST "value" "[B", .fieldLink ST 9 ST "value" "[B", .laysFinal ST ST "coder" "B", .fieldLink ST 15 ST "coder" "B",
  .methodLink ST 1 Lib.objectInit, .instanceMethod Lib.objectInit, .code Lib.objectInit ⟨#[0xb1]⟩ 1 none, .methodLink ST 177 Cmp3.yN, .static Cmp3.yN, .methodLink ST 47 CodL.yN, .static CodL.yN,
  .code Cmp3.yN Cmp3.yB 6 (some (.array .byte)), .initialized U16, .arrayClass .byte, .methodLink U16 115 Cmp5.yN, .static Cmp5.yN, .code Cmp5.yN Cmp5.yB 7 (some .int), .code CodL.yN CodL.yB 2 (some .byte)]
theorem tab_of {a : Array Value} {s : State} (h : ∀ w ∈ words, w.before a s = true) : New1.tab.before a s = true := by
  have h5 : Cmp5.tab.before a s = true := unparts (wk h (.code Cmp5.yN Cmp5.yB 7 (some .int))) (wks h (.initialized Cmp5.yN.cls :: Cmp5.site))
  have hc : CodL.tab.before a s = true := unparts (wk h (.code CodL.yN CodL.yB 2 (some .byte))) (wks h (.initialized CodL.yN.cls :: CodL.site))
  have q5 : ∀ w ∈ Cmp5.tab :: words, w.before a s = true := fun w hw => (List.mem_cons.mp hw).elim (fun e => e ▸ h5) (h w)
  have h3 : Cmp3.tab.before a s = true := unparts (wk q5 (.code Cmp3.yN Cmp3.yB 6 (some (.array .byte)))) (wks q5 (.initialized Cmp3.yN.cls :: Cmp3.site))
  have q3 : ∀ w ∈ Cmp3.tab :: CodL.tab :: words, w.before a s = true := fun w hw => (List.mem_cons.mp hw).elim (fun e => e ▸ h3) fun hw => (List.mem_cons.mp hw).elim (fun e => e ▸ hc) (h w)
  have h4 : New4.tab.before a s = true := unparts (wk q3 (.code New4.yN New4.yB 6 none)) (wks q3 (.initialized New4.yN.cls :: New4.site))
  have q4 : ∀ w ∈ New4.tab :: words, w.before a s = true := fun w hw => (List.mem_cons.mp hw).elim (fun e => e ▸ h4) (h w)
  exact unparts (wk q4 (.code New1.yN New1.yB 2 none)) (wks q4 (.initialized New1.yN.cls :: New1.site))
/-- the words ride from the start Z to the walk's own state -/
theorem moved {Z s : State} {a0 args : Array Value} (hZ : Z.Warmed39 s.vm) (hw : ∀ d ∈ words, d.before a0 Z = true) : ∀ d ∈ words, d.before args s = true := fun d hd => by
  have q := hw d hd
  have t : ∀ d ∈ words, d = .arrayClass .byte ∨ (d.onTables && d.keepsFace) = true := by decide +kernel
  rcases t d hd with rfl | t
  · exact RoadKit.mvA hZ q
  · exact RoadKit.mv hZ q t
/-- WHAT COMES BACK, over the tables of the start Z: h the heap at the call, h' behind it -/
def Q (Z : State) (x : Addr) (A : Cell) (h : Heap) (v : Option Value) (h' : Heap) (L : List Loc) : Prop := v = none ∧ (∀ y ∈ L, y.base = x) ∧ RoadKit.Keep h h' [x] ∧ h'.size = h.size + 1 ∧ RoadKit.Exa Z h' x ST ∧ RoadKit.Fld Z h' x ST "value" "[B" (.ref h.size) ∧ RoadKit.Fld Z h' x ST "coder" "B" (.int 0) ∧
  (∃ V : Cell, RoadKit.Arr Z h' h.size V .byte ∧ V.vm = .none ∧ Z.vm.findClass "[B" = some V.cls ∧ V.slots.size = A.slots.size ∧ ∀ j, j < A.slots.size → V.slots[j]? = some (.int (lo8 (cv A j)))) ∧
  ∀ (O n d : String) (w : Value), RoadKit.Fld Z h x O n d w → RoadKit.slotOf Z O n d ≠ RoadKit.slotOf Z ST "value" "[B" → RoadKit.slotOf Z O n d ≠ RoadKit.slotOf Z ST "coder" "B" → RoadKit.Fld Z h' x O n d w
/-- **new String(chars) AT A CALL, IN THE ROAD'S FORM**: for specialBack behind newO: x the fresh String, b the char[] with the cell A -/
theorem back {p : Program} {l : Launch} {e : Env} {R : Room} {s : State} {args : Array Value} {below : List Frame} {len W : Nat} {Z : State} {a0 : Array Value} {h : Heap} (hZ : Z.Warmed39 s.vm) (hw : ∀ d ∈ words, d.before a0 Z = true) {kI : Nat} (wi : (Jvm.Cond.instantiable ST kI).before a0 Z = true)
    {x b : Addr} {A : Cell} {z : Int32} {v0 c0 : Value} (E : RoadKit.Exa Z h x ST) (V : RoadKit.Fld Z h x ST "value" "[B" v0) (C : RoadKit.Fld Z h x ST "coder" "B" c0) (K : RoadKit.Arr Z h b A .char) (hty : Typed .char A) (S : RoadKit.Sta Z h ST "COMPACT_STRINGS" "Z" (.int z)) (hz : ¬ z = 0)
    (l0 : 0 < A.slots.size) (l2 : A.slots.size ≤ 536870912) (hp : ∀ i, i < A.slots.size → ¬ 255 < cv A i) (hfr : 4 ≤ R.frames) (hlo : W + 65 ≤ R.locals) :
    Back l R p e below s args New1.yN len W (fun P a => a = #[.ref x, .ref b] ∧ P.U.heap = h ∧ P.cells + 1 ≤ R.cells ∧ P.slots + A.slots.size ≤ R.slots)
      (fun P _ v B => ∃ L, Q Z x A h v B.U.heap L ∧ B.locs = P.locs ++ L ∧ B.cells = P.cells + 1 ∧ B.slots = P.slots + A.slots.size) := by
  intro m meth c P g ig mk a X hg hsize hdg hW hn hp'
  obtain ⟨rfl, rfl, r1, r2⟩ := hp'
  have al : Z.vm.Alike P.U.vm := hZ.alike.trans X.warmed.alike
  obtain ⟨D, cfV, kV, iV, fV, hD, gV, stV, knV, obV, asV, slV⟩ := id V
  obtain ⟨D', cfC, kC, iC, fC, hD', gC, stC, -, -, asC, slC⟩ := id C
  cases hD.symm.trans hD'
  obtain ⟨D2, kD, e1, e2, e3, e4, e5⟩ := id E
  cases hD.symm.trans e1
  obtain ⟨c2, k2, i1, i2, i3, -⟩ := Cond.instantiable_spec wi
  cases e2.symm.trans i1
  cases e3.symm.trans i2
  obtain ⟨kU, u1, u2⟩ := al.2.2 _ _ e3
  have hB : Blank ST x D P.U := ⟨hD, ⟨knV, fun q hq => by rw [hq] at obV; cases obV⟩, by rw [al.findClass]; exact e2, kU, u1, by rw [u2]; exact i3, by rw [u2]; exact e5 i3⟩
  have F1 : Found ST "value" "[B" fV P.U := ⟨SBG.found_only al ⟨cfV, kV, iV, gV⟩, stV⟩
  have F2 : Found ST "coder" "B" fC P.U := ⟨SBG.found_only al ⟨cfC, kC, iC, gC⟩, stC⟩
  have hA : Ch b A P.U := ⟨⟨K.1, State.isArrayOf_alike al K.2.1, K.2.2, by omega⟩, hty⟩
  have hS : StaticIs P.U ST "COMPACT_STRINGS" "Z" (.int z) := by
    obtain ⟨cfS, iS, kS, fS, st, cS, t1, t2, t3, t4, t5, t6, t7⟩ := S
    exact StaticIs.there (s := { Z with heap := P.U.heap }) ⟨cfS, iS, kS, fS, st, cS, t1, t2, t3, t4, t5, (fun q => by rw [q] at t6; cases t6), t7⟩ al rfl
  obtain ⟨v, B, X', ⟨⟨hv, E', V', q1, q2, q3, q4, q5, q6, q7, q8, q9, q10, q11⟩, hl, hc, hs⟩, st⟩ := New1.pays x D fV fC b A z (tab_of (moved hZ hw)) hfr hlo m meth c P g ig mk _ X hg hsize hdg hW hn ⟨r1, r2, rfl, hB, F1, F2, hA, hS, hz, l0, l2, hp⟩
  have al' : Z.vm.Alike B.U.vm := hZ.alike.trans X'.warmed.alike
  have hsz : E'.slots.size = D.slots.size := by
    obtain ⟨-, -, -, kB, w1, w2, w3⟩ := q1
    obtain ⟨kB', y1, y2⟩ := al'.2.2 _ _ e3
    rw [q2.2.1] at w1
    cases w1.symm.trans y1
    rw [w3, e5 i3, y2]
  refine ⟨v, B, X', ⟨_, ⟨hv, ?_, ⟨by omega, fun y cy hy hn' => q10 y cy (by simpa using hn') hy, fun y cy hy => ?_⟩, q11, ⟨E', _, q1.1, by rw [q2.2.1]; exact e2, by rw [q2.2.1]; exact e3, by rw [q2.1]; exact obV, fun _ => by rw [hsz]; exact e5 i3⟩,
    ⟨E', cfV, kV, iV, fV, q1.1, gV, stV, by rw [q2.1]; exact knV, by rw [q2.1]; exact obV, by rw [q2.2.1]; exact asV, q3⟩, ⟨E', cfC, kC, iC, fC, q1.1, gC, stC, by rw [q2.1]; exact knV, by rw [q2.1]; exact obV, by rw [q2.2.1]; exact asC, q4⟩,
    ⟨V', ⟨q5.1, State.isArrayOf_alike al'.symm q5.2.1, q5.2.2.1⟩, q6, by rw [← al'.findClass]; exact q7, q8, fun j hj => by have := q9 j hj; rwa [Nat.zero_add] at this⟩, fun O n d w F n1 n2 => ?_⟩, hl, hc, hs⟩, st⟩
  · intro y hy
    simp only [List.mem_cons, List.not_mem_nil, or_false] at hy
    rcases hy with rfl | rfl <;> rfl
  · by_cases q : y = x
    · subst q
      cases hD.symm.trans hy
      exact ⟨E', q1.1, q2.2.1, q2.1, hsz⟩
    · exact ⟨cy, q10 y cy q hy, rfl, rfl, rfl⟩
  · obtain ⟨D3, cf, k, i, f, g1, g2, g3, g4, g5, g6, g7⟩ := F
    cases hD.symm.trans g1
    simp only [RoadKit.slotOf, g2, gV, gC, Option.map_some, Option.getD_some] at n1 n2
    exact ⟨E', cf, k, i, f, q1.1, g2, g3, by rw [q2.1]; exact g4, by rw [q2.1]; exact g5, by rw [q2.2.1]; exact g6, by rw [q2.2.2 f.slot (by simp [n1, n2])]; exact g7⟩
end StrChars.Road
namespace StrChars.Road
open Jvm Sem ClassFile Op Lib Jvm.Stand Jvm.Free Jvm.Free.XT
/-- WHAT COMES BACK, the byte[] as a list of values -/
def QA (Z : State) (x : Addr) (zn : Int32) (cs : List Int32) (h : Heap) (v : Option Value) (h' : Heap) (L : List Loc) : Prop := v = none ∧ (∀ y ∈ L, y.base = x) ∧ RoadKit.Keep h h' [x] ∧ h'.size = h.size + 1 ∧ RoadKit.Exa Z h' x ST ∧ RoadKit.Fld Z h' x ST "value" "[B" (.ref h.size) ∧ RoadKit.Fld Z h' x ST "coder" "B" (.int 0) ∧
  (∃ kb, Z.vm.findClass "[B" = some kb ∧ RoadKit.Arv Z h' h.size kb .byte zn (cs.map fun c => .int (lo8 c)) (.int 0)) ∧
  ∀ (O n d : String) (w : Value), RoadKit.Fld Z h x O n d w → RoadKit.slotOf Z O n d ≠ RoadKit.slotOf Z ST "value" "[B" → RoadKit.slotOf Z O n d ≠ RoadKit.slotOf Z ST "coder" "B" → RoadKit.Fld Z h' x O n d w
/-- **new String(chars) AT A CALL, THE ARRAYS AS LISTS**: the char[] at b holds cs, not empty, no char above 255 -/
theorem backArv {p : Program} {l : Launch} {e : Env} {R : Room} {s : State} {args : Array Value} {below : List Frame} {len W : Nat} {Z : State} {a0 : Array Value} {h : Heap} (hZ : Z.Warmed39 s.vm) (hw : ∀ d ∈ words, d.before a0 Z = true) {kI : Nat} (wi : (Jvm.Cond.instantiable ST kI).before a0 Z = true)
    {x b : Addr} {k : ClassId} {zn z : Int32} {cs : List Int32} {dv v0 c0 : Value} (E : RoadKit.Exa Z h x ST) (V : RoadKit.Fld Z h x ST "value" "[B" v0) (C : RoadKit.Fld Z h x ST "coder" "B" c0) (K : RoadKit.Arv Z h b k .char zn (cs.map Value.int) dv) (S : RoadKit.Sta Z h ST "COMPACT_STRINGS" "Z" (.int z)) (hz : ¬ z = 0)
    (hlen : zn.toNatClampNeg = cs.length) (h0 : 0 < cs.length) (hbig : cs.length ≤ 536870912) (hall : ∀ c ∈ cs, ¬ 255 < c) (hfr : 4 ≤ R.frames) (hlo : W + 65 ≤ R.locals) :
    Back l R p e below s args New1.yN len W (fun P a => a = #[.ref x, .ref b] ∧ P.U.heap = h ∧ P.cells + 1 ≤ R.cells ∧ P.slots + cs.length ≤ R.slots)
      (fun P _ v B => ∃ L, QA Z x zn cs h v B.U.heap L ∧ B.locs = P.locs ++ L ∧ B.cells = P.cells + 1 ∧ B.slots = P.slots + cs.length) := by
  obtain ⟨A, K1, K2, K3, K4, K5, K6⟩ := K
  have e : A.slots.size = cs.length := K3.trans hlen
  have hat : ∀ (i : Nat) (hi : i < cs.length), A.slots[i]? = some (.int cs[i]) := fun i hi => by rw [K5 i (by omega)]; simp [List.getD_eq_getElem?_getD, hi]
  have hcv : ∀ (i : Nat) (hi : i < cs.length), cv A i = cs[i] := fun i hi => by unfold cv; rw [hat i hi]
  have hty : Typed .char A := fun i v hv => by
    have hi : i < A.slots.size := (Array.getElem?_eq_some_iff.mp hv).1
    have q := K5 i hi
    rw [hv] at q
    rw [Option.some.inj q]
    exact K6 i hi
  refine Back.mono (back hZ hw wi E V C K1 hty S hz (by omega) (by omega) (fun i hi => by rw [hcv i (by omega)]; exact hall _ (List.getElem_mem _)) hfr hlo) (fun P a hp => ⟨hp.1, hp.2.1, hp.2.2.1, by rw [e]; exact hp.2.2.2⟩) (fun P a v B hp hq => ?_)
  obtain ⟨L, ⟨q1, q2, q3, q4, q5, q6, q7, ⟨V', v1, v2, v3, v4, v5⟩, q9⟩, hl, hc, hs⟩ := hq
  refine ⟨L, ⟨q1, q2, q3, q4, q5, q6, q7, ⟨V'.cls, v3, V', v1, rfl, by rw [v4, e, hlen], K4, fun i hi => ?_, fun i hi => ?_⟩, q9⟩, hl, hc, by rw [hs, e]⟩
  · have hi' : i < cs.length := by omega
    rw [v5 i (by omega), hcv i hi']; simp [List.getD_eq_getElem?_getD, hi']
  · have hi' : i < cs.length := by omega
    simp only [List.getD_eq_getElem?_getD, List.getElem?_map, List.getElem?_eq_getElem hi', Option.map_some, Option.getD_some]
    exact fits_lo8 _
end StrChars.Road
namespace StrChars.Road
open Jvm Sem ClassFile Op Lib Jvm.Stand Jvm.Free Jvm.Free.XT
/-- WHAT COMES BACK, in the writer's own shape -/
def QV (Z : State) (x : Addr) (N : Int32) (bs : List Int32) (h : Heap) (n0 : Nat) (v : Option Value) (h' : Heap) (L : List Loc) : Prop := v = none ∧ RoadKit.Fr n0 L ∧ RoadKit.Keep h h' [x] ∧ RoadKit.Exa Z h' x ST ∧ RoadKit.Fld Z h' x ST "coder" "B" (.int 0) ∧
  ∃ (t : Addr) (kb : ClassId), n0 ≤ t ∧ h.size ≤ t ∧ ¬ t = x ∧ RoadKit.Fld Z h' x ST "value" "[B" (.ref t) ∧ RoadKit.Arv Z h' t kb .byte N (bs.map Value.int) (.int 0)
/-- **new String(chars) AT A CALL, FOR THE WRITER**: a char[] of n known ints, each 0 to 255 -/
theorem backV {p : Program} {l : Launch} {e : Env} {R : Room} {s : State} {args : Array Value} {below : List Frame} {len W : Nat} {Z : State} {a0 : Array Value} {h : Heap} (hZ : Z.Warmed39 s.vm) (hw : ∀ d ∈ words, d.before a0 Z = true) {kI : Nat} (wi : (Jvm.Cond.instantiable ST kI).before a0 Z = true)
    {x b : Addr} {kC : ClassId} {cs bs : List Int32} {d v0 c0 : Value} {z N : Int32} {n n0 : Nat} (hx0 : n0 ≤ x) (hh0 : n0 ≤ h.size) (E : RoadKit.Exa Z h x ST) (V : RoadKit.Fld Z h x ST "value" "[B" v0) (C : RoadKit.Fld Z h x ST "coder" "B" c0) (K : RoadKit.Arv Z h b kC .char N (cs.map Value.int) d) (S : RoadKit.Sta Z h ST "COMPACT_STRINGS" "Z" (.int z)) (hz : ¬ z = 0)
    (hn : cs.length = n) (hN : N = Int32.ofNat n) (l0 : 0 < n) (l2 : n ≤ 4000) (hp : ∀ c ∈ cs, ¬ c < 0 ∧ ¬ (255 : Int32) < c) (hb : bs = cs.map (fun c => c.toInt8.toInt32)) (hfr : 4 ≤ R.frames) (hlo : W + 65 ≤ R.locals) :
    Back l R p e below s args (⟨"java/lang/String", "<init>", "([C)V"⟩ : MethodName) len W (fun P a => a = #[.ref x, .ref b] ∧ P.U.heap = h ∧ P.cells + 1 ≤ R.cells ∧ P.slots + n ≤ R.slots)
      (fun P _ v B => ∃ L, QV Z x N bs h n0 v B.U.heap L ∧ B.locs = P.locs ++ L ∧ B.cells = P.cells + 1 ∧ B.slots = P.slots + n) := by
  subst hn hN hb
  refine Back.mono (backArv hZ hw wi E V C K S hz (n32 (by omega)) l0 (by omega) (fun c hc => (hp c hc).2) hfr hlo) (fun P a hp => hp) (fun P a v B hp hq => ?_)
  obtain ⟨L, ⟨q1, q2, q3, q4, q5, q6, q7, ⟨kb, v1, v2⟩, q9⟩, hl, hc, hs⟩ := hq
  exact ⟨L, ⟨q1, fun y hy => by rw [q2 y hy]; exact hx0, q3, q5, q7, h.size, kb, hh0, Nat.le_refl _, Nat.ne_of_gt E.lt, q6, by rw [List.map_map]; exact v2⟩, hl, hc, hs⟩
end StrChars.Road
namespace StrChars
open Jvm Sem ClassFile Op Lib Jvm.Stand Jvm.Free.XT Jvm.Free.ALB Jvm.Free.JM Jvm.Free
open Jvm.Lib.Cold (StaticIs)
def hi8 (x : Int32) : Int32 := lo8 (x >>> ((8 : Int32) &&& 31))
/-- what StringUTF16.getChar makes of two bytes -/
def pairCh (u v : Int32) : Int32 := (((u &&& 255) <<< ((0 : Int32) &&& 31)) ||| ((v &&& 255) <<< ((8 : Int32) &&& 31))).toUInt32.toUInt16.toUInt32.toInt32
theorem shr0 (c : Int32) : c >>> ((0 : Int32) &&& 31) = c := by
  have e : ((0 : Int32) &&& 31) = 0 := by decide
  rw [e]
  apply Int32.toBitVec_inj.mp
  rw [Int32.toBitVec_shiftRight]
  have e1 : ((0 : Int32).toBitVec.smod 32) = 0#32 := by decide
  rw [e1, BitVec.sshiftRight_eq']
  exact BitVec.sshiftRight_zero
theorem lo8_and (x : Int32) : (lo8 x &&& 255).toBitVec.toNat = x.toBitVec.toNat % 256 := by
  have h : (lo8 x).toBitVec = (x.toBitVec.signExtend 8).signExtend 32 := by rw [lo8, Int8.toBitVec_toInt32, Int32.toBitVec_toInt8]
  rw [Int32.toBitVec_and, BitVec.toNat_and, h]
  have e : ((x.toBitVec.signExtend 8).signExtend 32).toNat % 256 = x.toBitVec.toNat % 256 := by
    rw [BitVec.toNat_signExtend]
    have hlt := x.toBitVec.isLt
    simp only [BitVec.toNat_setWidth, BitVec.toNat_signExtend]
    split <;> split <;> omega
  rw [← e]
  exact Nat.and_two_pow_sub_one_eq_mod _ 8
theorem pair_says {c : Int32} (h0 : ¬ c < 0) (h1 : ¬ 65535 < c) : pairCh (lo8 c) (hi8 c) = c := by
  rw [Int32.lt_iff_toInt_lt] at h0 h1
  have e0 : (0 : Int32).toInt = 0 := rfl
  have e1 : (65535 : Int32).toInt = 65535 := rfl
  have hc : c.toInt = c.toBitVec.toNat := by
    have := c.toBitVec.isLt
    have e : c.toInt = c.toBitVec.toInt := rfl
    rw [e] at h0 h1
    rw [e]
    rw [BitVec.toInt_eq_toNat_cond] at h0 h1 ⊢
    split at h0 <;> split <;> omega
  have hn : c.toBitVec.toNat < 65536 := by omega
  have a1 := lo8_and c
  have a2 : (hi8 c &&& 255).toBitVec.toNat = c.toBitVec.toNat / 256 := by
    rw [hi8, lo8_and]
    have e : ((8 : Int32) &&& 31) = 8 := by decide
    rw [e, Int32.toBitVec_shiftRight]
    have e2 : ((8 : Int32).toBitVec.smod 32) = 8#32 := by decide
    rw [e2, BitVec.sshiftRight_eq', BitVec.toNat_sshiftRight_of_msb_false (by rw [BitVec.msb_eq_false_iff_two_mul_lt]; omega)]
    show c.toBitVec.toNat >>> 8 % 256 = _
    rw [Nat.shiftRight_eq_div_pow]
    omega
  unfold pairCh
  apply Int32.toBitVec_inj.mp
  apply BitVec.eq_of_toNat_eq
  have f0 : ((0 : Int32) &&& 31) = 0 := by decide
  have f8 : ((8 : Int32) &&& 31) = 8 := by decide
  rw [f0, f8]
  have g : (((lo8 c &&& 255) <<< (0 : Int32)) ||| ((hi8 c &&& 255) <<< (8 : Int32))).toBitVec.toNat = c.toBitVec.toNat := by
    rw [Int32.toBitVec_or, Int32.toBitVec_shiftLeft, Int32.toBitVec_shiftLeft]
    have s0 : ((0 : Int32).toBitVec.smod 32) = 0#32 := by decide
    have s8 : ((8 : Int32).toBitVec.smod 32) = 8#32 := by decide
    rw [s0, s8, BitVec.toNat_or]
    simp only [BitVec.shiftLeft_eq', BitVec.toNat_shiftLeft, a1, a2]
    show (c.toBitVec.toNat % 256) <<< 0 % 2 ^ 32 ||| (c.toBitVec.toNat / 256) <<< 8 % 2 ^ 32 = _
    rw [Nat.shiftLeft_zero, Nat.mod_eq_of_lt (show c.toBitVec.toNat % 256 < 2 ^ 32 by omega), Nat.mod_eq_of_lt (show (c.toBitVec.toNat / 256) <<< 8 < 2 ^ 32 by rw [Nat.shiftLeft_eq]; omega), Nat.or_comm, ← Nat.shiftLeft_add_eq_or_of_lt (by omega), Nat.shiftLeft_eq]
    omega
  show BitVec.toNat (((((lo8 c &&& 255) <<< (0 : Int32)) ||| ((hi8 c &&& 255) <<< (8 : Int32))).toBitVec.setWidth 16).setWidth 32) = _
  rw [BitVec.toNat_setWidth, BitVec.toNat_setWidth, g]
  omega
end StrChars
namespace StrChars
open Jvm Sem ClassFile Op Lib Jvm.Stand Jvm.Free.XT Jvm.Free.ALB Jvm.Free.JM Jvm.Free
open Jvm.Lib.Cold (StaticIs)
theorem shr1 {n : Nat} (h : 2 * n < 2 ^ 31) : Int32.ofNat (2 * n) >>> ((1 : Int32) &&& 31) = Int32.ofNat n := by
  have e : ((1 : Int32) &&& 31) = 1 := by decide
  rw [e]
  apply Int32.toBitVec_inj.mp
  rw [Int32.toBitVec_shiftRight]
  have e1 : ((1 : Int32).toBitVec.smod 32) = 1#32 := by decide
  have hm : (BitVec.ofNat 32 (2 * n)).toNat = 2 * n := by rw [BitVec.toNat_ofNat, Nat.mod_eq_of_lt (by omega)]
  rw [e1, BitVec.sshiftRight_eq']
  apply BitVec.eq_of_toNat_eq
  show ((BitVec.ofNat 32 (2 * n)).sshiftRight 1).toNat = (BitVec.ofNat 32 n).toNat
  rw [BitVec.toNat_sshiftRight_of_msb_false (by rw [BitVec.msb_eq_false_iff_two_mul_lt, hm]; omega), hm, BitVec.toNat_ofNat, Nat.shiftRight_eq_div_pow]
  omega
/-- charAt's cast of a byte read back -/
def chr8 (u : Int32) : Int32 := (u &&& 255).toUInt32.toUInt16.toUInt32.toInt32
theorem chr8_lo8 {c : Int32} (h0 : ¬ c < 0) (h1 : ¬ 255 < c) : chr8 (lo8 c) = c := by
  have t : ∀ k : Fin 256, (Int32.ofNat k.val).toUInt32.toUInt16.toUInt32.toInt32 = Int32.ofNat k.val := by decide +kernel
  unfold chr8
  rw [lo8_mask h0 h1]
  rw [Int32.lt_iff_toInt_lt] at h0 h1
  have e0 : (0 : Int32).toInt = 0 := rfl
  have e1 : (255 : Int32).toInt = 255 := rfl
  obtain ⟨k, hk⟩ : ∃ k : Nat, c.toInt = k := ⟨c.toInt.toNat, by omega⟩
  have hx : c = Int32.ofNat k := Int32.toInt_inj.mp (by rw [hk, Int32.toInt_ofNat_small (by omega)])
  rw [hx]
  exact t ⟨k, by omega⟩
theorem narrow_ch {c : Int32} (h0 : ¬ c < 0) (h1 : ¬ 65535 < c) : narrow .char (.int c) = .int c := by
  have q : narrow .char (.int (pairCh (lo8 c) (hi8 c))) = .int (pairCh (lo8 c) (hi8 c)) := narrow_c _
  rwa [pair_says h0 h1] at q
/-- the array's cell V codes the n chars f 0 .. f (n - 1) by the coder cd, as the JDK does: coder 1 just where some char is above 255 -/
def Cod (cd : Int32) (n : Nat) (f : Nat → Int32) (V : Cell) : Prop := (cd = 0 ∧ V.slots.size = n ∧ ∀ j, j < n → V.slots[j]? = some (.int (lo8 (f j))) ∧ ¬ 255 < f j) ∨ (cd = 1 ∧ V.slots.size = 2 * n ∧ (∀ j, j < n → V.slots[2 * j]? = some (.int (lo8 (f j))) ∧ V.slots[2 * j + 1]? = some (.int (hi8 (f j)))) ∧ ∃ j, j < n ∧ 255 < f j)
theorem Cod.cd {cd : Int32} {n : Nat} {f : Nat → Int32} {V : Cell} (h : Cod cd n f V) : cd = 0 ∨ cd = 1 := h.imp (fun q => q.1) fun q => q.1
theorem Cod.len {cd : Int32} {n : Nat} {f : Nat → Int32} {V : Cell} (h : Cod cd n f V) (hs : V.slots.size < 2 ^ 31) : Int32.ofNat V.slots.size >>> (cd &&& 31) = Int32.ofNat n := by
  rcases h with ⟨rfl, h, -⟩ | ⟨rfl, h, -⟩
  · rw [shr0, h]
  · rw [h, shr1 (by omega)]
/-- **x is a String of the n chars f 0 .. f (n - 1)**, Latin-1 or UTF-16; its array at t has the cell V -/
def Txt (x t : Addr) (V : Cell) (cd : Int32) (n : Nat) (f : Nat → Int32) (U : State) : Prop := Exact "java/lang/String" x U ∧ Has x "java/lang/String" "value" "[B" (.ref t) U ∧ Has x "java/lang/String" "coder" "B" (.int cd) U ∧ XT.Arr .byte t V U ∧ Cod cd n f V ∧ ∀ j, j < n → ¬ f j < 0 ∧ ¬ 65535 < f j
theorem Txt.mv {x t : Addr} {V : Cell} {cd : Int32} {n : Nat} {f : Nat → Int32} {U U' : State} (h : Txt x t V cd n f U) (hal : U.vm.Alike U'.vm) (hh : U'.heap = U.heap) : Txt x t V cd n f U' := ⟨h.1.mv hal hh, h.2.1.mv hal hh, h.2.2.1.mv hal hh, h.2.2.2.1.mv hal hh, h.2.2.2.2⟩
namespace Cdr
def yN : MethodName := ⟨"java/lang/String", "coder", "()B"⟩
abbrev yB : ByteArray := jdk_42_method_152_code
theorem d0 : decode yB 0 = .ok (.getstatic 38, 3) := by decide +kernel
theorem d3 : decode yB 3 = .ok (.ifCond (.eq) 10, 3) := by decide +kernel
theorem d6 : decode yB 6 = .ok (.aload_n 0, 1) := by decide +kernel
theorem d7 : decode yB 7 = .ok (.getfield 15, 3) := by decide +kernel
theorem d10 : decode yB 10 = .ok (.goto 4, 3) := by decide +kernel
theorem d14 : decode yB 14 = .ok (.ireturn, 1) := by decide +kernel
def site : List Cond := [.fieldLink "java/lang/String" 38 "java/lang/String" "COMPACT_STRINGS" "Z", .fieldLink "java/lang/String" 15 "java/lang/String" "coder" "B"]
def tab : Cond := tabOf yN yB 1 (some .byte) site
def P (x : Addr) (cd z : Int32) (args : Array Value) (s : State) : Prop := args = #[.ref x] ∧ Has x "java/lang/String" "coder" "B" (.int cd) s ∧ (cd = 0 ∨ cd = 1) ∧ StaticIs s "java/lang/String" "COMPACT_STRINGS" "Z" (.int z) ∧ ¬ z = 0
def E (cd : Int32) (r : Option Value) (s u : State) : Prop := XT.PureE (some (.int cd)) r s u
theorem law (l : Launch) (x : Addr) (cd z : Int32) : Law l yN 1 0 0 0 yB 1 (some .byte) site (P x cd z) (E cd) [] 0 0 := by
  refine Law.of_walk (plainFor_of_name (by decide +kernel)) (by decide +kernel) (by decide +kernel) (by decide) (fun _ _ h => by rw [h.1]; rfl) (fun _ U U' hal hh h => ⟨h.1, h.2.1.mv hal hh, h.2.2.1, h.2.2.2.1.there hal hh, h.2.2.2.2⟩) (fun r U U' V V' h1 hal h2 h => XT.PureE.mv r U U' V V' h1 hal h2 h) ?_
  intro p e s m args below meth c s₁ X0 hexec hbytes hml hret hlk hnm hown hh0 W hP
  obtain ⟨rfl, hx, hc, s1, hz⟩ := hP
  have c1 : Steps p.tables e below (s₁.setTop (entryFrame m #[.ref x] 1)) (s₁.setTop (mkF m 0 #[.val (.ref x)] [])) := entry rfl
  obtain ⟨T2, X2, q2, st2⟩ := X0.sget hexec hown (wk W (.fieldLink "java/lang/String" 38 "java/lang/String" "COMPACT_STRINGS" "Z")) s1 (fun _ _ h => by rw [hh0]; exact h) (g := (mkF m 0 #[.val (.ref x)] [])) rfl (hb hbytes d0)
  have hh2 := q2.trans hh0
  have c3 : Steps p.tables e below (s₁.setTop (entryFrame m #[.ref x] 1)) (T2.setTop (mkF m 7 #[.val (.ref x)] [.ref x])) := (c1.trans (st2 _ (Steps.refl _))).trans (by
    refine XS.ifNo X2.here hexec rfl (hb hbytes d3) rfl (i0_eq_f hz) ?_
    refine XS.aloadN X2.here hexec rfl (hb hbytes d6) rfl rfl ?_
    exact Steps.refl _)
  obtain ⟨T4, X4, q4, st4⟩ := X2.hget hexec hown (wk W (.fieldLink "java/lang/String" 15 "java/lang/String" "coder" "B")) (hx.mv X2.warmed.alike hh2) (g := (mkF m 7 #[.val (.ref x)] [.ref x])) rfl (rest := []) rfl (hb hbytes d7)
  have c5 : Steps p.tables e below (s₁.setTop (entryFrame m #[.ref x] 1)) (T4.setTop (mkF m 14 #[.val (.ref x)] [.int cd])) := (c3.trans (st4 _ (Steps.refl _))).trans (by
    refine XS.goto X4.here hexec rfl (pc0 := 10) rfl (hb hbytes d10) (by decide) rfl ?_
    exact Steps.refl _)
  exact ⟨T4, some (.int cd), _, _, _, X4, rfl, rfl, rfl, (fun h => by cases h), ⟨rfl, q4.trans hh2⟩, fun fs hl => c5.trans (X4.ireturnOut hexec hret (by rcases hc with rfl | rfl <;> rfl) (Or.inr (Or.inr (Or.inl rfl))) (hb hbytes d14) hl)⟩
end Cdr
namespace Len
def yN : MethodName := ⟨"java/lang/String", "length", "()I"⟩
abbrev yB : ByteArray := jdk_42_method_54_code
theorem d0 : decode yB 0 = .ok (.aload_n 0, 1) := by decide +kernel
theorem d1 : decode yB 1 = .ok (.getfield 9, 3) := by decide +kernel
theorem d4 : decode yB 4 = .ok (.arraylength, 1) := by decide +kernel
theorem d5 : decode yB 5 = .ok (.aload_n 0, 1) := by decide +kernel
theorem d6 : decode yB 6 = .ok (.invokevirtual 335, 3) := by decide +kernel
theorem d9 : decode yB 9 = .ok (.ishr, 1) := by decide +kernel
theorem d10 : decode yB 10 = .ok (.ireturn, 1) := by decide +kernel
def site : List Cond := [.fieldLink "java/lang/String" 9 "java/lang/String" "value" "[B", Cdr.tab] ++ virtW "java/lang/String" 335 "java/lang/String" Cdr.yN Cdr.yN
def tab : Cond := tabOf yN yB 1 (some .int) site
def P (x t : Addr) (V : Cell) (cd : Int32) (n : Nat) (f : Nat → Int32) (z : Int32) (args : Array Value) (s : State) : Prop := args = #[.ref x] ∧ Txt x t V cd n f s ∧ StaticIs s "java/lang/String" "COMPACT_STRINGS" "Z" (.int z) ∧ ¬ z = 0
def E (n : Nat) (r : Option Value) (s u : State) : Prop := XT.PureE (some (.int (Int32.ofNat n))) r s u
/-- length() of a String of n chars, in either coding -/
theorem law (l : Launch) (x t : Addr) (V : Cell) (cd : Int32) (n : Nat) (f : Nat → Int32) (z : Int32) : Law l yN 1 0 1 13 yB 1 (some .int) site (P x t V cd n f z) (E n) [] 0 0 := by
  refine Law.of_walk (plainFor_of_name (by decide +kernel)) (by decide +kernel) (by decide +kernel) (by decide) (fun _ _ h => by rw [h.1]; rfl) (fun _ U U' hal hh h => ⟨h.1, h.2.1.mv hal hh, h.2.2.1.there hal hh, h.2.2.2⟩) (fun r U U' V V' h1 hal h2 h => XT.PureE.mv r U U' V V' h1 hal h2 h) ?_
  intro p e s m args below meth c s₁ X0 hexec hbytes hml hret hlk hnm hown hh0 W hP
  obtain ⟨rfl, hx, s1, hz⟩ := hP
  have v31 := hx.2.2.2.1.2.2.2
  have c1 : Steps p.tables e below (s₁.setTop (entryFrame m #[.ref x] 1)) (s₁.setTop (mkF m 1 #[.val (.ref x)] [.ref x])) := Steps.trans (entry rfl) (by
    show Steps p.tables e below (s₁.setTop (mkF m 0 #[.val (.ref x)] [])) _
    refine XS.aloadN X0.here hexec rfl (hb hbytes d0) rfl rfl ?_
    exact Steps.refl _)
  obtain ⟨T2, X2, q2, st2⟩ := X0.hget hexec hown (wk W (.fieldLink "java/lang/String" 9 "java/lang/String" "value" "[B")) (hx.mv X0.warmed.alike hh0).2.1 (g := (mkF m 1 #[.val (.ref x)] [.ref x])) rfl (rest := []) rfl (hb hbytes d1)
  have hh2 := q2.trans hh0
  have hx2 := hx.mv X2.warmed.alike hh2
  have c3 : Steps p.tables e below (s₁.setTop (entryFrame m #[.ref x] 1)) (T2.setTop (mkF m 6 #[.val (.ref x)] [.ref x, .int (Int32.ofNat V.slots.size)])) := (c1.trans (st2 _ (Steps.refl _))).trans (by
    refine X2.alen hexec hx2.2.2.2.1 rfl rfl (hb hbytes d4) ?_
    refine XS.aloadN X2.here hexec rfl (hb hbytes d5) rfl rfl ?_
    exact Steps.refl _)
  obtain ⟨v4, T4, X4, E4, g4⟩ := X2.callV hexec (Cdr.law l x cd z) hown (wks W (virtW "java/lang/String" 335 "java/lang/String" Cdr.yN Cdr.yN)) rfl (by decide) (wk W Cdr.tab) (W := 1) (Nat.le_of_ble_eq_true rfl) (Nat.le_of_ble_eq_true rfl) (Nat.le_refl _) (Nat.le_refl _) (hx2.1.fc X2.warmed.alike) hx2.1.is (g := (mkF m 6 #[.val (.ref x)] [.ref x, .int (Int32.ofNat V.slots.size)])) rfl (by rw [hml]; rfl) c3 (argsL := []) (rest := [.int (Int32.ofNat V.slots.size)]) rfl rfl (by show 2 * 0 + (1 + 0) ≤ _; decide) (hb hbytes d6) (⟨rfl, hx2.2.2.1, hx.2.2.2.2.1.cd, s1.there X2.warmed.alike hh2, hz⟩)
  obtain ⟨rfl, q4⟩ := E4
  have c5 : Steps p.tables e below (s₁.setTop (entryFrame m #[.ref x] 1)) (T4.setTop (mkF m 10 #[.val (.ref x)] [.int (Int32.ofNat V.slots.size >>> (cd &&& 31))])) := Steps.trans g4 (by
    refine ishr X4.here hexec rfl (hb hbytes d9) rfl ?_
    exact Steps.refl _)
  rw [hx.2.2.2.2.1.len v31] at c5
  exact ⟨T4, some (.int (Int32.ofNat n)), _, _, _, X4, rfl, rfl, rfl, (fun h => by cases h), ⟨rfl, q4.trans hh2⟩, fun fs hl => c5.trans (X4.ireturnOut hexec hret rfl (Or.inl rfl) (hb hbytes d10) hl)⟩
theorem pays {l : Launch} {R : Room} {p : Program} {e : Env} {below : List Frame} {s : State} {sargs : Array Value} {len W : Nat} (x t : Addr) (V : Cell) (cd : Int32) (n : Nat) (f : Nat → Int32) (z : Int32) (htab : tab.before sargs s = true) (hfr : 2 ≤ R.frames) (hlo : W + 25 ≤ R.locals) :
    Back l R p e below s sargs yN len W (fun A₁ a₁ => A₁.cells + 0 ≤ R.cells ∧ A₁.slots + 0 ≤ R.slots ∧ P x t V cd n f z a₁ A₁.U) (fun A₁ _ v₁ B₁ => E n v₁ A₁.U B₁.U ∧ B₁.locs = A₁.locs ++ [] ∧ B₁.cells = A₁.cells + 0 ∧ B₁.slots = A₁.slots + 0) :=
  (law l x t V cd n f z).pays htab hfr (by omega)
end Len
namespace IsL
def yN : MethodName := ⟨"java/lang/String", "isLatin1", "()Z"⟩
abbrev yB : ByteArray := jdk_42_method_154_code
theorem d0 : decode yB 0 = .ok (.getstatic 38, 3) := by decide +kernel
theorem d3 : decode yB 3 = .ok (.ifCond (.eq) 14, 3) := by decide +kernel
theorem d6 : decode yB 6 = .ok (.aload_n 0, 1) := by decide +kernel
theorem d7 : decode yB 7 = .ok (.getfield 15, 3) := by decide +kernel
theorem d10 : decode yB 10 = .ok (.ifCond (.ne) 7, 3) := by decide +kernel
theorem d13 : decode yB 13 = .ok (.iconst 1, 1) := by decide +kernel
theorem d14 : decode yB 14 = .ok (.goto 4, 3) := by decide +kernel
theorem d17 : decode yB 17 = .ok (.iconst 0, 1) := by decide +kernel
theorem d18 : decode yB 18 = .ok (.ireturn, 1) := by decide +kernel
def site : List Cond := [.fieldLink "java/lang/String" 38 "java/lang/String" "COMPACT_STRINGS" "Z", .fieldLink "java/lang/String" 15 "java/lang/String" "coder" "B"]
def tab : Cond := tabOf yN yB 1 (some .boolean) site
def P (x : Addr) (cd z : Int32) (args : Array Value) (s : State) : Prop := args = #[.ref x] ∧ Has x "java/lang/String" "coder" "B" (.int cd) s ∧ (cd = 0 ∨ cd = 1) ∧ StaticIs s "java/lang/String" "COMPACT_STRINGS" "Z" (.int z) ∧ ¬ z = 0
def E (cd : Int32) (r : Option Value) (s u : State) : Prop := XT.PureE (some (.int (1 - cd))) r s u
theorem law (l : Launch) (x : Addr) (cd z : Int32) : Law l yN 1 0 0 0 yB 1 (some .boolean) site (P x cd z) (E cd) [] 0 0 := by
  refine Law.of_walk (plainFor_of_name (by decide +kernel)) (by decide +kernel) (by decide +kernel) (by decide) (fun _ _ h => by rw [h.1]; rfl) (fun _ U U' hal hh h => ⟨h.1, h.2.1.mv hal hh, h.2.2.1, h.2.2.2.1.there hal hh, h.2.2.2.2⟩) (fun r U U' V V' h1 hal h2 h => XT.PureE.mv r U U' V V' h1 hal h2 h) ?_
  intro p e s m args below meth c s₁ X0 hexec hbytes hml hret hlk hnm hown hh0 W hP
  obtain ⟨rfl, hx, hc, s1, hz⟩ := hP
  have c1 : Steps p.tables e below (s₁.setTop (entryFrame m #[.ref x] 1)) (s₁.setTop (mkF m 0 #[.val (.ref x)] [])) := entry rfl
  obtain ⟨T2, X2, q2, st2⟩ := X0.sget hexec hown (wk W (.fieldLink "java/lang/String" 38 "java/lang/String" "COMPACT_STRINGS" "Z")) s1 (fun _ _ h => by rw [hh0]; exact h) (g := (mkF m 0 #[.val (.ref x)] [])) rfl (hb hbytes d0)
  have hh2 := q2.trans hh0
  have c3 : Steps p.tables e below (s₁.setTop (entryFrame m #[.ref x] 1)) (T2.setTop (mkF m 7 #[.val (.ref x)] [.ref x])) := (c1.trans (st2 _ (Steps.refl _))).trans (by
    refine XS.ifNo X2.here hexec rfl (hb hbytes d3) rfl (i0_eq_f hz) ?_
    refine XS.aloadN X2.here hexec rfl (hb hbytes d6) rfl rfl ?_
    exact Steps.refl _)
  obtain ⟨T4, X4, q4, st4⟩ := X2.hget hexec hown (wk W (.fieldLink "java/lang/String" 15 "java/lang/String" "coder" "B")) (hx.mv X2.warmed.alike hh2) (g := (mkF m 7 #[.val (.ref x)] [.ref x])) rfl (rest := []) rfl (hb hbytes d7)
  have c5 : Steps p.tables e below (s₁.setTop (entryFrame m #[.ref x] 1)) (T4.setTop (mkF m 10 #[.val (.ref x)] [.int cd])) := c3.trans (st4 _ (Steps.refl _))
  have c6 : Steps p.tables e below (s₁.setTop (entryFrame m #[.ref x] 1)) (T4.setTop (mkF m 18 #[.val (.ref x)] [.int (1 - cd)])) := by
    rcases hc with rfl | rfl
    · exact c5.trans (by
        refine XS.ifNo X4.here hexec rfl (hb hbytes d10) rfl (i0_ne_f rfl) ?_
        refine iconstV X4.here hexec rfl 1 (hb hbytes d13) (by decide) ?_
        refine XS.goto X4.here hexec rfl (pc0 := 14) rfl (hb hbytes d14) (by decide) rfl ?_
        exact Steps.refl _)
    · exact c5.trans (by
        refine XS.ifYes X4.here hexec rfl (pc0 := 10) rfl (hb hbytes d10) rfl (i0_ne_t (by decide)) (by decide) rfl ?_
        refine iconstV X4.here hexec rfl 0 (hb hbytes d17) (by decide) ?_
        exact Steps.refl _)
  exact ⟨T4, some (.int (1 - cd)), _, _, _, X4, rfl, rfl, rfl, (fun h => by cases h), ⟨rfl, q4.trans hh2⟩, fun fs hl => c6.trans (X4.ireturnOut hexec hret (by rcases hc with rfl | rfl <;> rfl) (Or.inr (Or.inl rfl)) (hb hbytes d18) hl)⟩
end IsL
namespace LChA
def yN : MethodName := ⟨"java/lang/StringLatin1", "charAt", "([BI)C"⟩
abbrev yB : ByteArray := jdk_43_method_2_code
theorem d0 : decode yB 0 = .ok (.iload_n 1, 1) := by decide +kernel
theorem d1 : decode yB 1 = .ok (.aload_n 0, 1) := by decide +kernel
theorem d2 : decode yB 2 = .ok (.arraylength, 1) := by decide +kernel
theorem d3 : decode yB 3 = .ok (.invokestatic 9, 3) := by decide +kernel
theorem d6 : decode yB 6 = .ok (.aload_n 0, 1) := by decide +kernel
theorem d7 : decode yB 7 = .ok (.iload_n 1, 1) := by decide +kernel
theorem d8 : decode yB 8 = .ok (.baload, 1) := by decide +kernel
theorem d9 : decode yB 9 = .ok (.sipush 255, 3) := by decide +kernel
theorem d12 : decode yB 12 = .ok (.iand, 1) := by decide +kernel
theorem d13 : decode yB 13 = .ok (.i2c, 1) := by decide +kernel
theorem d14 : decode yB 14 = .ok (.ireturn, 1) := by decide +kernel
def site : List Cond := [JO.Str_checkIndex.tab] ++ staticW "java/lang/StringLatin1" 9 JO.Str_checkIndex.yN
def tab : Cond := tabOf yN yB 2 (some .char) site
def P (t : Addr) (V : Cell) (i : Nat) (u : Int32) (fm : Value) (args : Array Value) (s : State) : Prop := args = #[.ref t, .int (Int32.ofNat i)] ∧ XT.Arr .byte t V s ∧ V.slots[i]? = some (.int u) ∧ (StaticIs s "jdk/internal/util/Preconditions" "SIOOBE_FORMATTER" "Ljava/util/function/BiFunction;" fm ∧ fm.isRef = true)
def E (u : Int32) (r : Option Value) (s w : State) : Prop := XT.PureE (some (.int (chr8 u))) r s w
theorem law (l : Launch) (t : Addr) (V : Cell) (i : Nat) (u : Int32) (fm : Value) : Law l yN 2 2 2 27 yB 2 (some .char) site (P t V i u fm) (E u) [] 0 0 := by
  refine Law.of_walk (plainFor_of_name (by decide +kernel)) (by decide +kernel) (by decide +kernel) (by decide) (fun _ _ h => by rw [h.1]; rfl) (fun _ U U' hal hh h => ⟨h.1, h.2.1.mv hal hh, h.2.2.1, h.2.2.2.1.there hal hh, h.2.2.2.2⟩) (fun r U U' V V' h1 hal h2 h => XT.PureE.mv r U U' V V' h1 hal h2 h) ?_
  intro p e s m args below meth c s₁ X0 hexec hbytes hml hret hlk hnm hown hh0 W hP
  obtain ⟨rfl, hV, hu, s1, rf⟩ := hP
  have v31 := hV.2.2.2
  have hi : i < V.slots.size := (Array.getElem?_eq_some_iff.mp hu).1
  have c1 : Steps p.tables e below (s₁.setTop (entryFrame m #[.ref t, .int (Int32.ofNat i)] 2)) (s₁.setTop (mkF m 0 #[.val (.ref t), .val (.int (Int32.ofNat i))] [])) := entry rfl
  have c2 : Steps p.tables e below (s₁.setTop (entryFrame m #[.ref t, .int (Int32.ofNat i)] 2)) (s₁.setTop (mkF m 3 #[.val (.ref t), .val (.int (Int32.ofNat i))] [.int (Int32.ofNat V.slots.size), .int (Int32.ofNat i)])) := c1.trans (by
    refine XS.iloadN X0.here hexec rfl (hb hbytes d0) rfl ?_
    refine XS.aloadN X0.here hexec rfl (hb hbytes d1) rfl rfl ?_
    refine X0.alen hexec (hV.mv X0.warmed.alike hh0) rfl rfl (hb hbytes d2) ?_
    exact Steps.refl _)
  obtain ⟨v3, T3, X3, E3, g3⟩ := X0.callS hexec (JO.Str_checkIndex.law l (Int32.ofNat i) (Int32.ofNat V.slots.size) fm) hown (wks W (staticW "java/lang/StringLatin1" 9 JO.Str_checkIndex.yN)) (wk W JO.Str_checkIndex.tab) (W := 0) (Nat.le_of_ble_eq_true rfl) (Nat.le_of_ble_eq_true rfl) (Nat.le_refl _) (Nat.le_refl _) (g := (mkF m 3 #[.val (.ref t), .val (.int (Int32.ofNat i))] [.int (Int32.ofNat V.slots.size), .int (Int32.ofNat i)])) rfl (by rw [hml]; rfl) c2 (argsL := [.int (Int32.ofNat i), .int (Int32.ofNat V.slots.size)]) (rest := []) rfl rfl (by show 2 * 0 + 0 ≤ _; decide) (hb hbytes d3) (⟨rfl, rf, s1.there X0.warmed.alike hh0, Int32.ofNat_not_neg (by omega), lt32 v31 hi⟩)
  obtain ⟨rfl, q3⟩ := E3
  have hh3 := q3.trans hh0
  have c4 : Steps p.tables e below (s₁.setTop (entryFrame m #[.ref t, .int (Int32.ofNat i)] 2)) (T3.setTop (mkF m 14 #[.val (.ref t), .val (.int (Int32.ofNat i))] [.int (chr8 u)])) := Steps.trans g3 (by
    refine XS.aloadN X3.here hexec rfl (hb hbytes d6) rfl rfl ?_
    refine XS.iloadN X3.here hexec rfl (hb hbytes d7) rfl ?_
    refine X3.aget hexec (hV.mv X3.warmed.alike hh3) rfl hu rfl rfl (hb hbytes d8) ?_
    refine sipushV X3.here hexec rfl 255 (hb hbytes d9) (by decide) ?_
    refine XS.iand X3.here hexec rfl (hb hbytes d12) rfl ?_
    refine i2c X3.here hexec rfl (hb hbytes d13) rfl ?_
    exact Steps.refl _)
  exact ⟨T3, some (.int (chr8 u)), _, _, _, X3, rfl, rfl, rfl, (fun h => by cases h), ⟨rfl, hh3⟩, fun fs hl => c4.trans (X3.ireturnOut hexec hret (narrow_c _) (Or.inr (Or.inr (Or.inr (Or.inl rfl)))) (hb hbytes d14) hl)⟩
end LChA
end StrChars
namespace StrChars.Road
open Jvm Sem ClassFile Op Lib Jvm.Stand Jvm.Free Jvm.Free.XT
open Jvm.Lib.Cold (StaticIs)
theorem consq {a : Array Value} {s : State} {c : Jvm.Cond} {L : List Jvm.Cond} (h0 : c.before a s = true) (h : ∀ w ∈ L, w.before a s = true) : ∀ w ∈ c :: L, w.before a s = true := fun w hw => (List.mem_cons.mp hw).elim (fun e => e ▸ h0) (h w)
/-- the words of String.length(), either coding -/
abbrev wordsLen : List Jvm.Cond := [.code Len.yN Len.yB 1 (some .int), .initialized ST, .fieldLink ST 9 ST "value" "[B", .fieldLink ST 38 ST "COMPACT_STRINGS" "Z", .fieldLink ST 15 ST "coder" "B", .code Cdr.yN Cdr.yB 1 (some .byte), .methodLink ST 335 Cdr.yN, .declares Cdr.yN, .selects ST Cdr.yN Cdr.yN, .instanceMethod Cdr.yN]
theorem tabLen_of {a : Array Value} {s : State} (h : ∀ w ∈ wordsLen, w.before a s = true) : Len.tab.before a s = true := by
  have hc : Cdr.tab.before a s = true := unparts (wk h (.code Cdr.yN Cdr.yB 1 (some .byte))) (wks h (.initialized Cdr.yN.cls :: Cdr.site))
  have q := consq hc h
  exact unparts (wk q (.code Len.yN Len.yB 1 (some .int))) (wks q (.initialized Len.yN.cls :: Len.site))
theorem movedLen {Z s : State} {a0 args : Array Value} (hZ : Z.Warmed39 s.vm) (hw : ∀ d ∈ wordsLen, d.before a0 Z = true) : ∀ d ∈ wordsLen, d.before args s = true := fun d hd => by
  have q := hw d hd
  have t : ∀ d ∈ wordsLen, d = .arrayClass .byte ∨ (d.onTables && d.keepsFace) = true := by decide +kernel
  rcases t d hd with rfl | t
  · exact RoadKit.mvA hZ q
  · exact RoadKit.mv hZ q t
/-- the bytes of the chars cs, low before high -/
def wideBytes : List Int32 → List Value
  | [] => []
  | c :: cs => .int (lo8 c) :: .int (hi8 c) :: wideBytes cs
theorem wide_lo (d : Value) : ∀ (cs : List Int32) (j : Nat), j < cs.length → (wideBytes cs).getD (2 * j) d = .int (lo8 (cs.getD j 0))
  | [], j, h => absurd h (Nat.not_lt_zero j)
  | c :: cs, 0, _ => rfl
  | c :: cs, j + 1, h => by
    have q := wide_lo d cs j (by simpa using h)
    rw [show 2 * (j + 1) = 2 * j + 1 + 1 from by omega]
    simpa [wideBytes] using q
theorem wide_hi (d : Value) : ∀ (cs : List Int32) (j : Nat), j < cs.length → (wideBytes cs).getD (2 * j + 1) d = .int (hi8 (cs.getD j 0))
  | [], j, h => absurd h (Nat.not_lt_zero j)
  | c :: cs, 0, _ => rfl
  | c :: cs, j + 1, h => by
    have q := wide_hi d cs j (by simpa using h)
    rw [show 2 * (j + 1) + 1 = 2 * j + 1 + 1 + 1 from by omega]
    simpa [wideBytes] using q
theorem low_at (d : Value) (cs : List Int32) (j : Nat) (h : j < cs.length) : (cs.map fun c => Value.int (lo8 c)).getD j d = .int (lo8 (cs.getD j 0)) := by
  simp [List.getD_eq_getElem?_getD, h]
/-- an array of N2 bytes vs codes the chars cs by the coder cd -/
def CodA (cs : List Int32) (cd N2 : Int32) (vs : List Value) : Prop := (cd = 0 ∧ N2 = Int32.ofNat cs.length ∧ vs = (cs.map fun c => Value.int (lo8 c)) ∧ ∀ c ∈ cs, ¬ 255 < c) ∨ (cd = 1 ∧ N2 = Int32.ofNat (2 * cs.length) ∧ vs = wideBytes cs ∧ ∃ c ∈ cs, 255 < c)
theorem CodA.cod {cs : List Int32} {cd N2 : Int32} {vs : List Value} {V : Cell} (h : CodA cs cd N2 vs) (hn : 2 * cs.length < 2 ^ 31) (hs : V.slots.size = N2.toNatClampNeg) (hv : RoadKit.Has V vs (.int 0)) : Cod cd cs.length (fun j => cs.getD j 0) V := by
  rcases h with ⟨rfl, rfl, rfl, h⟩ | ⟨rfl, rfl, rfl, c, hc, hw⟩
  · rw [n32 (by omega)] at hs
    exact Or.inl ⟨rfl, hs, fun j hj => ⟨by rw [hv j (by omega), low_at _ _ _ hj], by
      have e : cs.getD j 0 = cs[j] := by simp [List.getD_eq_getElem?_getD, hj]
      show ¬ 255 < cs.getD j 0
      rw [e]; exact h _ (List.getElem_mem _)⟩⟩
  · rw [n32 (by omega)] at hs
    obtain ⟨j, hj, rfl⟩ := List.getElem_of_mem hc
    exact Or.inr ⟨rfl, hs, fun j hj => ⟨by rw [hv _ (by omega), wide_lo _ _ _ hj], by rw [hv _ (by omega), wide_hi _ _ _ hj]⟩, j, hj, by
      have e : cs.getD j 0 = cs[j] := by simp [List.getD_eq_getElem?_getD, hj]
      show 255 < cs.getD j 0
      rw [e]; exact hw⟩
/-- an object of exactly java/lang/String, its two fields found: as the laws ask it -/
theorem strObj {Z U : State} {a0 : Array Value} {kI : Nat} (wi : (Jvm.Cond.instantiable ST kI).before a0 Z = true) (al : Z.vm.Alike U.vm) {x : Addr} {v0 c0 : Value} (E : RoadKit.Exa Z U.heap x ST) (V : RoadKit.Fld Z U.heap x ST "value" "[B" v0) (C : RoadKit.Fld Z U.heap x ST "coder" "B" c0) :
    ∃ (D : Cell) (fV fC : Field), Blank ST x D U ∧ Found ST "value" "[B" fV U ∧ Found ST "coder" "B" fC U ∧ D.slots[fV.slot]? = some v0 ∧ D.slots[fC.slot]? = some c0 ∧ RoadKit.slotOf Z ST "value" "[B" = fV.slot ∧ RoadKit.slotOf Z ST "coder" "B" = fC.slot := by
  obtain ⟨D, cfV, kV, iV, fV, hD, gV, stV, knV, obV, asV, slV⟩ := V
  obtain ⟨D', cfC, kC, iC, fC, hD', gC, stC, -, -, asC, slC⟩ := C
  cases hD.symm.trans hD'
  obtain ⟨D2, kD, e1, e2, e3, e4, e5⟩ := E
  cases hD.symm.trans e1
  obtain ⟨c2, k2, i1, i2, i3, -⟩ := Cond.instantiable_spec wi
  cases e2.symm.trans i1
  cases e3.symm.trans i2
  obtain ⟨kU, u1, u2⟩ := al.2.2 _ _ e3
  exact ⟨D, fV, fC, ⟨hD, ⟨knV, fun q hq => by rw [hq] at obV; cases obV⟩, by rw [al.findClass]; exact e2, kU, u1, by rw [u2]; exact i3, by rw [u2]; exact e5 i3⟩, ⟨SBG.found_only al ⟨cfV, kV, iV, gV⟩, stV⟩, ⟨SBG.found_only al ⟨cfC, kC, iC, gC⟩, stC⟩, slV, slC, by simp [RoadKit.slotOf, gV], by simp [RoadKit.slotOf, gC]⟩
theorem sta_is {Z U : State} (al : Z.vm.Alike U.vm) {C n d : String} {v : Value} (S : RoadKit.Sta Z U.heap C n d v) : StaticIs U C n d v := by
  obtain ⟨cfS, iS, kS, fS, st, cS, t1, t2, t3, t4, t5, t6, t7⟩ := S
  exact StaticIs.there (s := { Z with heap := U.heap }) ⟨cfS, iS, kS, fS, st, cS, t1, t2, t3, t4, t5, (fun q => by rw [q] at t6; cases t6), t7⟩ al rfl
/-- **length() OF SUCH A STRING** -/
theorem lenW {p : Program} {l : Launch} {e : Env} {R : Room} {s : State} {args : Array Value} {below : List Frame} {len W : Nat} {Z : State} {a0 : Array Value} {h : Heap} (hZ : Z.Warmed39 s.vm) (hw : ∀ d ∈ wordsLen, d.before a0 Z = true) {kI : Nat} (wi : (Jvm.Cond.instantiable ST kI).before a0 Z = true)
    {x t : Addr} {kb : ClassId} {cs : List Int32} {cd N2 z : Int32} {vs : List Value} (E : RoadKit.Exa Z h x ST) (V : RoadKit.Fld Z h x ST "value" "[B" (.ref t)) (C : RoadKit.Fld Z h x ST "coder" "B" (.int cd)) (K : RoadKit.Arv Z h t kb .byte N2 vs (.int 0)) (hc : CodA cs cd N2 vs) (hb : ∀ c ∈ cs, ¬ c < 0 ∧ ¬ (65535 : Int32) < c)
    (S : RoadKit.Sta Z h ST "COMPACT_STRINGS" "Z" (.int z)) (hz : ¬ z = 0) (l2 : cs.length ≤ 4000) (hfr : 2 ≤ R.frames) (hlo : W + 25 ≤ R.locals) :
    Back l R p e below s args (⟨"java/lang/String", "length", "()I"⟩ : MethodName) len W (fun P a => a = #[.ref x] ∧ P.U.heap = h ∧ P.cells + 0 ≤ R.cells ∧ P.slots + 0 ≤ R.slots)
      (fun P _ v B => ∃ L, (v = some (.int (Int32.ofNat cs.length)) ∧ L = [] ∧ B.U.heap = h) ∧ B.locs = P.locs ++ L ∧ B.cells = P.cells + 0 ∧ B.slots = P.slots + 0) := by
  obtain ⟨A, K1, K2, K3, K4, K5, K6⟩ := K
  have hcod := hc.cod (by omega) K3 K5
  intro m meth c P g ig mk a X hg hsize hdg hW hn hp'
  obtain ⟨rfl, rfl, r1, r2⟩ := hp'
  have al : Z.vm.Alike P.U.vm := hZ.alike.trans X.warmed.alike
  obtain ⟨D, fV, fC, hB, F1, F2, g1, g2, -, -⟩ := strObj wi al E V C
  have hx : Txt x t A cd cs.length (fun j => cs.getD j 0) P.U := ⟨⟨_, hB.2.2.1, D, hB.1, rfl, by cases q : D.vm <;> first | rfl | exact absurd q (hB.2.1.2 _)⟩, Has.of hB F1 g1, Has.of hB F2 g2, ⟨K1.1, State.isArrayOf_alike al K1.2.1, K1.2.2, by rcases hcod with ⟨-, q, -⟩ | ⟨-, q, -⟩ <;> omega⟩, hcod, fun j hj => by
    have e : cs.getD j 0 = cs[j] := by simp [List.getD_eq_getElem?_getD, hj]
    show ¬ cs.getD j 0 < 0 ∧ ¬ 65535 < cs.getD j 0
    rw [e]; exact hb _ (List.getElem_mem _)⟩
  obtain ⟨v, B, X', ⟨⟨hv, hh⟩, hl, hk, hs⟩, st⟩ := Len.pays x t A cd cs.length (fun j => cs.getD j 0) z (tabLen_of (movedLen hZ hw)) hfr hlo m meth c P g ig mk _ X hg hsize hdg hW hn ⟨r1, r2, rfl, hx, sta_is al S, hz⟩
  exact ⟨v, B, X', ⟨[], ⟨hv, rfl, hh⟩, hl, hk, hs⟩, st⟩
end StrChars.Road
namespace StrChars
open Jvm Sem ClassFile Op Lib Jvm.Stand Jvm.Free.XT Jvm.Free.ALB Jvm.Free.JM Jvm.Free
open Jvm.Lib.Cold (StaticIs)
/-- what place i of a byte[]'s cell holds -/
def yv (A : Cell) (i : Nat) : Int32 := match A.slots[i]? with | some (.int x) => x | _ => 0
theorem yv_get {a : Addr} {A : Cell} {U : State} (h : XT.Arr .byte a A U) (ht : Typed .byte A) {i : Nat} (hi : i < A.slots.size) : A.slots[i]? = some (.int (yv A i)) := by
  have e := Array.getElem?_eq_getElem hi
  have f := ht i _ e
  unfold yv; rw [e]
  generalize A.slots[i] = v at f
  cases v <;> simp [fits] at f ⊢
/-- the two arrays are equal, place for place -/
def EqC (A B : Cell) : Prop := A.slots.size = B.slots.size ∧ ∀ i, i < A.slots.size → yv A i = yv B i
/-- a boolean that says whether p -/
def Says01 (q : Prop) (r : Option Value) (s u : State) : Prop := ∃ v : Int32, r = some (.int v) ∧ u.heap = s.heap ∧ ((v = 1 ∧ q) ∨ (v = 0 ∧ ¬ q))
theorem Says01.mv {q : Prop} : ∀ r (U U' V V' : State), U'.heap = U.heap → V.vm.Alike V'.vm → V'.heap = V.heap → Says01 q r U V → Says01 q r U' V' :=
  fun r U U' V V' h1 _ h2 ⟨v, a, b, c⟩ => ⟨v, a, by rw [h1, h2]; exact b, c⟩
namespace LEq
def yN : MethodName := ⟨"java/lang/StringLatin1", "equals", "([B[B)Z"⟩
abbrev yB : ByteArray := jdk_43_method_13_code
theorem d0 : decode yB 0 = .ok (.aload_n 0, 1) := by decide +kernel
theorem d1 : decode yB 1 = .ok (.arraylength, 1) := by decide +kernel
theorem d2 : decode yB 2 = .ok (.aload_n 1, 1) := by decide +kernel
theorem d3 : decode yB 3 = .ok (.arraylength, 1) := by decide +kernel
theorem d4 : decode yB 4 = .ok (.if_icmp (.ne) 30, 3) := by decide +kernel
theorem d7 : decode yB 7 = .ok (.iconst 0, 1) := by decide +kernel
theorem d8 : decode yB 8 = .ok (.istore_n 2, 1) := by decide +kernel
theorem d9 : decode yB 9 = .ok (.iload_n 2, 1) := by decide +kernel
theorem d10 : decode yB 10 = .ok (.aload_n 0, 1) := by decide +kernel
theorem d11 : decode yB 11 = .ok (.arraylength, 1) := by decide +kernel
theorem d12 : decode yB 12 = .ok (.if_icmp (.ge) 20, 3) := by decide +kernel
theorem d15 : decode yB 15 = .ok (.aload_n 0, 1) := by decide +kernel
theorem d16 : decode yB 16 = .ok (.iload_n 2, 1) := by decide +kernel
theorem d17 : decode yB 17 = .ok (.baload, 1) := by decide +kernel
theorem d18 : decode yB 18 = .ok (.aload_n 1, 1) := by decide +kernel
theorem d19 : decode yB 19 = .ok (.iload_n 2, 1) := by decide +kernel
theorem d20 : decode yB 20 = .ok (.baload, 1) := by decide +kernel
theorem d21 : decode yB 21 = .ok (.if_icmp (.eq) 5, 3) := by decide +kernel
theorem d24 : decode yB 24 = .ok (.iconst 0, 1) := by decide +kernel
theorem d25 : decode yB 25 = .ok (.ireturn, 1) := by decide +kernel
theorem d26 : decode yB 26 = .ok (.iinc 2 1, 3) := by decide +kernel
theorem d29 : decode yB 29 = .ok (.goto (-20), 3) := by decide +kernel
theorem d32 : decode yB 32 = .ok (.iconst 1, 1) := by decide +kernel
theorem d33 : decode yB 33 = .ok (.ireturn, 1) := by decide +kernel
theorem d34 : decode yB 34 = .ok (.iconst 0, 1) := by decide +kernel
theorem d35 : decode yB 35 = .ok (.ireturn, 1) := by decide +kernel
def site : List Cond := []
def tab : Cond := tabOf yN yB 3 (some .boolean) site
def P (a : Addr) (A : Cell) (b : Addr) (B : Cell) (args : Array Value) (s : State) : Prop := args = #[.ref a, .ref b] ∧ XT.Arr .byte a A s ∧ Typed .byte A ∧ XT.Arr .byte b B s ∧ Typed .byte B
/-- whether two byte[] are equal, place for place -/
theorem law (l : Launch) (a : Addr) (A : Cell) (b : Addr) (B : Cell) : Law l yN 2 2 0 0 yB 3 (some .boolean) site (P a A b B) (Says01 (EqC A B)) [] 0 0 := by
  refine Law.of_walk (plainFor_of_name (by decide +kernel)) (by decide +kernel) (by decide +kernel) (by decide) (fun _ _ h => by rw [h.1]; rfl) (fun _ U U' hal hh h => ⟨h.1, h.2.1.mv hal hh, h.2.2.1, h.2.2.2.1.mv hal hh, h.2.2.2.2⟩) (fun r U U' V V' h1 hal h2 h => Says01.mv r U U' V V' h1 hal h2 h) ?_
  intro p e s m args below meth c s₁ X0 hexec hbytes hml hret hlk hnm hown hh0 W hP
  obtain ⟨rfl, hA, tA, hB, tB⟩ := hP
  have a31 := hA.2.2.2
  have b31 := hB.2.2.2
  have hA0 := hA.mv X0.warmed.alike hh0
  have hB0 := hB.mv X0.warmed.alike hh0
  have c1 : Steps p.tables e below (s₁.setTop (entryFrame m #[.ref a, .ref b] 3)) (s₁.setTop (mkF m 0 #[.val (.ref a), .val (.ref b), .unset] [])) := entry rfl
  have c2 : Steps p.tables e below (s₁.setTop (entryFrame m #[.ref a, .ref b] 3)) (s₁.setTop (mkF m 4 #[.val (.ref a), .val (.ref b), .unset] [.int (Int32.ofNat B.slots.size), .int (Int32.ofNat A.slots.size)])) := c1.trans (by
    refine XS.aloadN X0.here hexec rfl (hb hbytes d0) rfl rfl ?_
    refine X0.alen hexec hA0 rfl rfl (hb hbytes d1) ?_
    refine XS.aloadN X0.here hexec rfl (hb hbytes d2) rfl rfl ?_
    refine X0.alen hexec hB0 rfl rfl (hb hbytes d3) ?_
    exact Steps.refl _)
  by_cases hs : A.slots.size = B.slots.size
  · have c3 : Steps p.tables e below (s₁.setTop (entryFrame m #[.ref a, .ref b] 3)) (s₁.setTop (mkF m 9 #[.val (.ref a), .val (.ref b), .val (.int 0)] [])) := c2.trans (by
      refine XS.icmpNo X0.here hexec rfl (hb hbytes d4) rfl (ii_ne_f (by rw [hs])) ?_
      refine iconstV X0.here hexec rfl 0 (hb hbytes d7) (by decide) ?_
      refine XS.istoreN X0.here hexec rfl (hb hbytes d8) rfl rfl ?_
      exact Steps.refl _)
    have loop : ∀ (r i : Nat), i + r = A.slots.size → (∀ j, j < i → yv A j = yv B j) → Steps p.tables e below (s₁.setTop (entryFrame m #[.ref a, .ref b] 3)) (s₁.setTop (mkF m 9 #[.val (.ref a), .val (.ref b), .val (.int (Int32.ofNat i))] [])) → ∃ (pc : Nat) (Ls : Array Slot) (v : Int32), (pc = 25 ∨ pc = 33) ∧ ((v = 1 ∧ EqC A B) ∨ (v = 0 ∧ ¬ EqC A B)) ∧ Steps p.tables e below (s₁.setTop (entryFrame m #[.ref a, .ref b] 3)) (s₁.setTop (mkF m pc Ls [.int v])) := by
      intro r
      induction r with
      | zero =>
        intro i hi he cl
        exact ⟨33, _, 1, Or.inr rfl, Or.inl ⟨rfl, hs, fun j hj => he j (by omega)⟩, cl.trans (by
          refine XS.iloadN X0.here hexec rfl (hb hbytes d9) rfl ?_
          refine XS.aloadN X0.here hexec rfl (hb hbytes d10) rfl rfl ?_
          refine X0.alen hexec hA0 rfl rfl (hb hbytes d11) ?_
          refine XS.icmpYes X0.here hexec rfl (pc0 := 12) rfl (hb hbytes d12) rfl (ii_ge_t (nlt32 (by omega) (by omega))) (by decide) rfl ?_
          refine iconstV X0.here hexec rfl 1 (hb hbytes d32) (by decide) ?_
          exact Steps.refl _)⟩
      | succ r ih =>
        intro i hi he cl
        have c4 : Steps p.tables e below (s₁.setTop (entryFrame m #[.ref a, .ref b] 3)) (s₁.setTop (mkF m 21 #[.val (.ref a), .val (.ref b), .val (.int (Int32.ofNat i))] [.int (yv B i), .int (yv A i)])) := cl.trans (by
          refine XS.iloadN X0.here hexec rfl (hb hbytes d9) rfl ?_
          refine XS.aloadN X0.here hexec rfl (hb hbytes d10) rfl rfl ?_
          refine X0.alen hexec hA0 rfl rfl (hb hbytes d11) ?_
          refine XS.icmpNo X0.here hexec rfl (hb hbytes d12) rfl (ii_ge_f (lt32 (by omega) (by omega))) ?_
          refine XS.aloadN X0.here hexec rfl (hb hbytes d15) rfl rfl ?_
          refine XS.iloadN X0.here hexec rfl (hb hbytes d16) rfl ?_
          refine X0.aget hexec hA0 rfl (yv_get hA tA (i := i) (by omega)) rfl rfl (hb hbytes d17) ?_
          refine XS.aloadN X0.here hexec rfl (hb hbytes d18) rfl rfl ?_
          refine XS.iloadN X0.here hexec rfl (hb hbytes d19) rfl ?_
          refine X0.aget hexec hB0 rfl (yv_get hB tB (i := i) (by omega)) rfl rfl (hb hbytes d20) ?_
          exact Steps.refl _)
        by_cases hv : yv A i = yv B i
        · have c5 : Steps p.tables e below (s₁.setTop (entryFrame m #[.ref a, .ref b] 3)) (s₁.setTop (mkF m 9 #[.val (.ref a), .val (.ref b), .val (.int (Int32.ofNat i + 1))] [])) := c4.trans (by
            refine XS.icmpYes X0.here hexec rfl (pc0 := 21) rfl (hb hbytes d21) rfl (ii_eq_t hv) (by decide) rfl ?_
            refine iincV X0.here hexec rfl 1 (hb hbytes d26) (by decide) rfl rfl ?_
            refine XS.goto X0.here hexec rfl (pc0 := 29) rfl (hb hbytes d29) (by decide) rfl ?_
            exact Steps.refl _)
          rw [succ32] at c5
          exact ih (i + 1) (by omega) (fun j hj => by
            by_cases e : j = i
            · rw [e]; exact hv
            · exact he j (by omega)) c5
        · exact ⟨25, _, 0, Or.inl rfl, Or.inr ⟨rfl, fun q => hv (q.2 i (by omega))⟩, c4.trans (by
            refine XS.icmpNo X0.here hexec rfl (hb hbytes d21) rfl (ii_eq_f hv) ?_
            refine iconstV X0.here hexec rfl 0 (hb hbytes d24) (by decide) ?_
            exact Steps.refl _)⟩
    obtain ⟨pc, Ls, v, hpc, hv, cz⟩ := loop A.slots.size 0 (by omega) (fun j hj => absurd hj (Nat.not_lt_zero j)) c3
    have nv : narrow .boolean (.int v) = .int v := by rcases hv with ⟨rfl, -⟩ | ⟨rfl, -⟩ <;> rfl
    rcases hpc with rfl | rfl
    · exact ⟨s₁, some (.int v), _, _, _, X0, rfl, rfl, rfl, (fun h => by cases h), ⟨v, rfl, hh0, hv⟩, fun fs hl => cz.trans (X0.ireturnOut hexec hret nv (Or.inr (Or.inl rfl)) (hb hbytes d25) hl)⟩
    · exact ⟨s₁, some (.int v), _, _, _, X0, rfl, rfl, rfl, (fun h => by cases h), ⟨v, rfl, hh0, hv⟩, fun fs hl => cz.trans (X0.ireturnOut hexec hret nv (Or.inr (Or.inl rfl)) (hb hbytes d33) hl)⟩
  · have c3 : Steps p.tables e below (s₁.setTop (entryFrame m #[.ref a, .ref b] 3)) (s₁.setTop (mkF m 35 #[.val (.ref a), .val (.ref b), .unset] [.int 0])) := c2.trans (by
      refine XS.icmpYes X0.here hexec rfl (pc0 := 4) rfl (hb hbytes d4) rfl (ii_ne_t (ne32 a31 b31 hs)) (by decide) rfl ?_
      refine iconstV X0.here hexec rfl 0 (hb hbytes d34) (by decide) ?_
      exact Steps.refl _)
    exact ⟨s₁, some (.int 0), _, _, _, X0, rfl, rfl, rfl, (fun h => by cases h), ⟨0, rfl, hh0, Or.inr ⟨rfl, fun q => hs q.1⟩⟩, fun fs hl => c3.trans (X0.ireturnOut hexec hret rfl (Or.inr (Or.inl rfl)) (hb hbytes d35) hl)⟩
end LEq
theorem Cod.ty {cd : Int32} {n : Nat} {f : Nat → Int32} {V : Cell} (h : Cod cd n f V) : Typed .byte V := fun i v hv => by
  have hi : i < V.slots.size := (Array.getElem?_eq_some_iff.mp hv).1
  rcases h with ⟨-, k1, k2⟩ | ⟨-, k1, k2, -⟩
  · rw [(k2 i (by omega)).1] at hv; cases hv; exact fits_lo8 _
  · rcases Nat.mod_two_eq_zero_or_one i with e | e
    · obtain ⟨j, rfl⟩ : ∃ j, i = 2 * j := ⟨i / 2, by omega⟩
      rw [(k2 j (by omega)).1] at hv; cases hv; exact fits_lo8 _
    · obtain ⟨j, rfl⟩ : ∃ j, i = 2 * j + 1 := ⟨i / 2, by omega⟩
      rw [(k2 j (by omega)).2] at hv; cases hv; exact fits_lo8 _
/-- the same text -/
def SameT (n : Nat) (f : Nat → Int32) (k : Nat) (g : Nat → Int32) : Prop := n = k ∧ ∀ j, j < n → f j = g j
theorem lo8_inj {x y : Int32} (h0 : ¬ x < 0) (h1 : ¬ 255 < x) (k0 : ¬ y < 0) (k1 : ¬ 255 < y) (h : lo8 x = lo8 y) : x = y := by
  rw [← lo8_mask h0 h1, ← lo8_mask k0 k1, h]
/-- arrays coded by one coder are equal just where the texts are -/
theorem Cod.eqv {cd : Int32} {n k : Nat} {f g : Nat → Int32} {V V' : Cell} (h : Cod cd n f V) (h' : Cod cd k g V') (hf : ∀ j, j < n → ¬ f j < 0 ∧ ¬ 65535 < f j) (hg : ∀ j, j < k → ¬ g j < 0 ∧ ¬ 65535 < g j) : EqC V V' ↔ SameT n f k g := by
  have yvv : ∀ {W : Cell} {i : Nat} {x : Int32}, W.slots[i]? = some (.int x) → yv W i = x := fun q => by unfold yv; rw [q]
  rcases h with ⟨rfl, k1, k2⟩ | ⟨rfl, k1, k2, -⟩
  · rcases h' with ⟨-, m1, m2⟩ | ⟨e, -⟩
    · constructor
      · rintro ⟨e1, e2⟩
        refine ⟨by omega, fun j hj => ?_⟩
        have q := e2 j (by omega)
        rw [yvv (k2 j hj).1, yvv (m2 j (by omega)).1] at q
        exact lo8_inj (hf j hj).1 (k2 j hj).2 (hg j (by omega)).1 (m2 j (by omega)).2 q
      · rintro ⟨rfl, e2⟩
        refine ⟨by omega, fun j hj => ?_⟩
        rw [yvv (k2 j (by omega)).1, yvv (m2 j (by omega)).1, e2 j (by omega)]
    · exact absurd e (by decide)
  · rcases h' with ⟨e, -⟩ | ⟨-, m1, m2, -⟩
    · exact absurd e (by decide)
    · constructor
      · rintro ⟨e1, e2⟩
        refine ⟨by omega, fun j hj => ?_⟩
        have q1 := e2 (2 * j) (by omega)
        have q2 := e2 (2 * j + 1) (by omega)
        rw [yvv (k2 j hj).1, yvv (m2 j (by omega)).1] at q1
        rw [yvv (k2 j hj).2, yvv (m2 j (by omega)).2] at q2
        rw [← pair_says (hf j hj).1 (hf j hj).2, ← pair_says (hg j (by omega)).1 (hg j (by omega)).2, q1, q2]
      · rintro ⟨rfl, e2⟩
        refine ⟨by omega, fun i hi => ?_⟩
        rcases Nat.mod_two_eq_zero_or_one i with e | e
        · obtain ⟨j, rfl⟩ : ∃ j, i = 2 * j := ⟨i / 2, by omega⟩
          rw [yvv (k2 j (by omega)).1, yvv (m2 j (by omega)).1, e2 j (by omega)]
        · obtain ⟨j, rfl⟩ : ∃ j, i = 2 * j + 1 := ⟨i / 2, by omega⟩
          rw [yvv (k2 j (by omega)).2, yvv (m2 j (by omega)).2, e2 j (by omega)]
/-- two codings differ: so do the texts -/
theorem Cod.dif {cd cd' : Int32} {n k : Nat} {f g : Nat → Int32} {V V' : Cell} (h : Cod cd n f V) (h' : Cod cd' k g V') (hne : ¬ cd = cd') : ¬ SameT n f k g := by
  rintro ⟨rfl, e⟩
  rcases h with ⟨rfl, -, k2⟩ | ⟨rfl, -, -, j, hj, hw⟩
  · rcases h' with ⟨rfl, -⟩ | ⟨-, -, -, j, hj, hw⟩
    · exact hne rfl
    · exact (k2 j hj).2 (by rw [e j hj]; exact hw)
  · rcases h' with ⟨-, -, m2⟩ | ⟨rfl, -⟩
    · exact (m2 j hj).2 (by rw [← e j hj]; exact hw)
    · exact hne rfl
/-- an object of exactly C is an instance of C -/
theorem cinst {p : Program} {l : Launch} {e : Env} {R : Room} {s : State} {m : MethodId} {args : Array Value} {below : List Frame} {meth : Method} {c : Code} {T : State} {locs : List Loc} {cells slots : Nat} (X : Stand p l e R s m args below meth c T locs cells slots) (hexec : p.tables.exec = Jvm.exec) {own C : String} {index : Nat} (hown : s.vm.findClass own = some m.cls) (hlink : (Cond.classLink own index C).before args s = true) {a : Addr} (hE : Exact C a T)
    {g : JFrame} (hg : g.method = m) {rest : List Value} (hstack : g.stack = .ref a :: rest) (hdg : decode c.code g.pc = .ok (.instanceof index, 3)) :
    ∃ T', Stand p l e R s m args below meth c T' locs cells slots ∧ T'.heap = T.heap ∧ ∀ target, Steps p.tables e below (T'.setTop { g with pc := g.pc + 3, stack := .int 1 :: rest }) target → Steps p.tables e below (T.setTop g) target := by
  obtain ⟨cB, h1, D, h2, h3, h4⟩ := hE
  have h1' : s.vm.findClass C = some cB := by rw [← X.warmed.alike.findClass]; exact h1
  obtain ⟨vm', X', st⟩ := X.instanceofYes hexec hown hlink h2 h4 h1' (by rw [h3]; exact Jvm.Free.SB.assignable_self _ _) hg hstack hdg
  exact ⟨_, X', rfl, st⟩
theorem cself {p : Program} {l : Launch} {e : Env} {R : Room} {s : State} {m : MethodId} {args : Array Value} {below : List Frame} {meth : Method} {c : Code} {T : State} {locs : List Loc} {cells slots : Nat} (X : Stand p l e R s m args below meth c T locs cells slots) (hexec : p.tables.exec = Jvm.exec) {own C : String} {index : Nat} (hown : s.vm.findClass own = some m.cls) (hlink : (Cond.classLink own index C).before args s = true) {a : Addr} (hE : Exact C a T)
    {g : JFrame} (hg : g.method = m) {rest : List Value} (hstack : g.stack = .ref a :: rest) (hdg : decode c.code g.pc = .ok (.checkcast index, 3)) :
    ∃ T', Stand p l e R s m args below meth c T' locs cells slots ∧ T'.heap = T.heap ∧ ∀ target, Steps p.tables e below (T'.setTop { g with pc := g.pc + 3, stack := .ref a :: rest }) target → Steps p.tables e below (T.setTop g) target := by
  obtain ⟨cB, h1, D, h2, h3, h4⟩ := hE
  have h1' : s.vm.findClass C = some cB := by rw [← X.warmed.alike.findClass]; exact h1
  obtain ⟨vm', X', st⟩ := X.checkcastYes hexec hown hlink h2 h4 h1' (by rw [h3]; exact Jvm.Free.SB.assignable_self _ _) hg hstack hdg
  exact ⟨_, X', rfl, fun t h => st t (by rw [← hstack] at h; exact h)⟩
namespace SEq
def yN : MethodName := ⟨"java/lang/String", "equals", "(Ljava/lang/Object;)Z"⟩
abbrev yB : ByteArray := jdk_42_method_66_code
theorem d0 : decode yB 0 = .ok (.aload_n 0, 1) := by decide +kernel
theorem d1 : decode yB 1 = .ok (.aload_n 1, 1) := by decide +kernel
theorem d2 : decode yB 2 = .ok (.if_acmp (.ne) 5, 3) := by decide +kernel
theorem d5 : decode yB 5 = .ok (.iconst 1, 1) := by decide +kernel
theorem d6 : decode yB 6 = .ok (.ireturn, 1) := by decide +kernel
theorem d7 : decode yB 7 = .ok (.aload_n 1, 1) := by decide +kernel
theorem d8 : decode yB 8 = .ok (.instanceof 10, 3) := by decide +kernel
theorem d11 : decode yB 11 = .ok (.ifCond (.eq) 43, 3) := by decide +kernel
theorem d14 : decode yB 14 = .ok (.aload_n 1, 1) := by decide +kernel
theorem d15 : decode yB 15 = .ok (.checkcast 10, 3) := by decide +kernel
theorem d18 : decode yB 18 = .ok (.astore_n 2, 1) := by decide +kernel
theorem d19 : decode yB 19 = .ok (.getstatic 38, 3) := by decide +kernel
theorem d22 : decode yB 22 = .ok (.ifCond (.eq) 14, 3) := by decide +kernel
theorem d25 : decode yB 25 = .ok (.aload_n 0, 1) := by decide +kernel
theorem d26 : decode yB 26 = .ok (.getfield 15, 3) := by decide +kernel
theorem d29 : decode yB 29 = .ok (.aload_n 2, 1) := by decide +kernel
theorem d30 : decode yB 30 = .ok (.getfield 15, 3) := by decide +kernel
theorem d33 : decode yB 33 = .ok (.if_icmp (.ne) 21, 3) := by decide +kernel
theorem d36 : decode yB 36 = .ok (.aload_n 0, 1) := by decide +kernel
theorem d37 : decode yB 37 = .ok (.getfield 9, 3) := by decide +kernel
theorem d40 : decode yB 40 = .ok (.aload_n 2, 1) := by decide +kernel
theorem d41 : decode yB 41 = .ok (.getfield 9, 3) := by decide +kernel
theorem d44 : decode yB 44 = .ok (.invokestatic 541, 3) := by decide +kernel
theorem d47 : decode yB 47 = .ok (.ifCond (.eq) 7, 3) := by decide +kernel
theorem d50 : decode yB 50 = .ok (.iconst 1, 1) := by decide +kernel
theorem d51 : decode yB 51 = .ok (.goto 4, 3) := by decide +kernel
theorem d54 : decode yB 54 = .ok (.iconst 0, 1) := by decide +kernel
theorem d55 : decode yB 55 = .ok (.ireturn, 1) := by decide +kernel
def site : List Cond := [.classLink "java/lang/String" 10 "java/lang/String", .fieldLink "java/lang/String" 38 "java/lang/String" "COMPACT_STRINGS" "Z", .fieldLink "java/lang/String" 15 "java/lang/String" "coder" "B", .fieldLink "java/lang/String" 9 "java/lang/String" "value" "[B", LEq.tab] ++ staticW "java/lang/String" 541 LEq.yN
def tab : Cond := tabOf yN yB 3 (some .boolean) site
def P (x t : Addr) (V : Cell) (cd : Int32) (n : Nat) (f : Nat → Int32) (y t' : Addr) (V' : Cell) (cd' : Int32) (k : Nat) (g : Nat → Int32) (z : Int32) (args : Array Value) (s : State) : Prop := args = #[.ref x, .ref y] ∧ Txt x t V cd n f s ∧ Txt y t' V' cd' k g s ∧ StaticIs s "java/lang/String" "COMPACT_STRINGS" "Z" (.int z) ∧ ¬ z = 0
/-- equals(Object) of two Strings: whether the texts are the same -/
theorem law (l : Launch) (x t : Addr) (V : Cell) (cd : Int32) (n : Nat) (f : Nat → Int32) (y t' : Addr) (V' : Cell) (cd' : Int32) (k : Nat) (g : Nat → Int32) (z : Int32) : Law l yN 2 1 1 14 yB 3 (some .boolean) site (P x t V cd n f y t' V' cd' k g z) (Says01 (SameT n f k g)) [] 0 0 := by
  refine Law.of_walk (plainFor_of_name (by decide +kernel)) (by decide +kernel) (by decide +kernel) (by decide) (fun _ _ h => by rw [h.1]; rfl) (fun _ U U' hal hh h => ⟨h.1, h.2.1.mv hal hh, h.2.2.1.mv hal hh, h.2.2.2.1.there hal hh, h.2.2.2.2⟩) (fun r U U' V V' h1 hal h2 h => Says01.mv r U U' V V' h1 hal h2 h) ?_
  intro p e s m args below meth c s₁ X0 hexec hbytes hml hret hlk hnm hown hh0 W hP
  obtain ⟨rfl, hx, hy, s1, hz⟩ := hP
  have c1 : Steps p.tables e below (s₁.setTop (entryFrame m #[.ref x, .ref y] 3)) (s₁.setTop (mkF m 2 #[.val (.ref x), .val (.ref y), .unset] [.ref y, .ref x])) := Steps.trans (entry rfl) (by
    show Steps p.tables e below (s₁.setTop (mkF m 0 #[.val (.ref x), .val (.ref y), .unset] [])) _
    refine XS.aloadN X0.here hexec rfl (hb hbytes d0) rfl rfl ?_
    refine XS.aloadN X0.here hexec rfl (hb hbytes d1) rfl rfl ?_
    exact Steps.refl _)
  by_cases hxy : x = y
  · have c2 : Steps p.tables e below (s₁.setTop (entryFrame m #[.ref x, .ref y] 3)) (s₁.setTop (mkF m 6 #[.val (.ref x), .val (.ref y), .unset] [.int 1])) := c1.trans (by
      refine acmpNo X0.here hexec rfl (hb hbytes d2) rfl rfl rfl (by simp [acmp, hxy]) ?_
      refine iconstV X0.here hexec rfl 1 (hb hbytes d5) (by decide) ?_
      exact Steps.refl _)
    subst hxy
    have ec : cd = cd' := by
      obtain ⟨D, fd, a1, a2, a3⟩ := hx.2.2.1
      obtain ⟨D', fd', b1, b2, b3⟩ := hy.2.2.1
      cases a1.symm.trans b1
      obtain ⟨q1, q2, q3, q4⟩ := a2.1
      obtain ⟨r1, r2, r3, r4⟩ := b2.1
      cases q4.symm.trans r4
      cases a3.symm.trans b3; rfl
    have et : t = t' := by
      obtain ⟨D, fd, a1, a2, a3⟩ := hx.2.1
      obtain ⟨D', fd', b1, b2, b3⟩ := hy.2.1
      cases a1.symm.trans b1
      obtain ⟨q1, q2, q3, q4⟩ := a2.1
      obtain ⟨r1, r2, r3, r4⟩ := b2.1
      cases q4.symm.trans r4
      cases a3.symm.trans b3; rfl
    subst ec et
    have ev : V = V' := by cases hx.2.2.2.1.1.symm.trans hy.2.2.2.1.1; rfl
    subst ev
    have hs : SameT n f k g := (Cod.eqv hx.2.2.2.2.1 hy.2.2.2.2.1 hx.2.2.2.2.2 hy.2.2.2.2.2).mp ⟨rfl, fun _ _ => rfl⟩
    exact ⟨s₁, some (.int 1), _, _, _, X0, rfl, rfl, rfl, (fun h => by cases h), ⟨1, rfl, hh0, Or.inl ⟨rfl, hs⟩⟩, fun fs hl => c2.trans (X0.ireturnOut hexec hret rfl (Or.inr (Or.inl rfl)) (hb hbytes d6) hl)⟩
  · have c2 : Steps p.tables e below (s₁.setTop (entryFrame m #[.ref x, .ref y] 3)) (s₁.setTop (mkF m 8 #[.val (.ref x), .val (.ref y), .unset] [.ref y])) := c1.trans (by
      refine acmpYes X0.here hexec rfl (pc0 := 2) rfl (hb hbytes d2) rfl rfl rfl (by simp [acmp, hxy]) (by decide) rfl ?_
      refine XS.aloadN X0.here hexec rfl (hb hbytes d7) rfl rfl ?_
      exact Steps.refl _)
    obtain ⟨T3, X3, q3, st3⟩ := cinst X0 hexec hown (wk W (.classLink "java/lang/String" 10 "java/lang/String")) (hy.mv X0.warmed.alike hh0).1 (g := (mkF m 8 #[.val (.ref x), .val (.ref y), .unset] [.ref y])) rfl (rest := []) rfl (hb hbytes d8)
    have hh3 := q3.trans hh0
    have c4 : Steps p.tables e below (s₁.setTop (entryFrame m #[.ref x, .ref y] 3)) (T3.setTop (mkF m 15 #[.val (.ref x), .val (.ref y), .unset] [.ref y])) := (c2.trans (st3 _ (Steps.refl _))).trans (by
      refine XS.ifNo X3.here hexec rfl (hb hbytes d11) rfl (i0_eq_f (by decide)) ?_
      refine XS.aloadN X3.here hexec rfl (hb hbytes d14) rfl rfl ?_
      exact Steps.refl _)
    obtain ⟨T5, X5, q5, st5⟩ := cself X3 hexec hown (wk W (.classLink "java/lang/String" 10 "java/lang/String")) (hy.mv X3.warmed.alike hh3).1 (g := (mkF m 15 #[.val (.ref x), .val (.ref y), .unset] [.ref y])) rfl (rest := []) rfl (hb hbytes d15)
    have hh5 := q5.trans hh3
    have c6 : Steps p.tables e below (s₁.setTop (entryFrame m #[.ref x, .ref y] 3)) (T5.setTop (mkF m 19 #[.val (.ref x), .val (.ref y), .val (.ref y)] [])) := (c4.trans (st5 _ (Steps.refl _))).trans (by
      refine XS.astoreN X5.here hexec rfl (hb hbytes d18) rfl rfl rfl ?_
      exact Steps.refl _)
    obtain ⟨T7, X7, q7, st7⟩ := X5.sget hexec hown (wk W (.fieldLink "java/lang/String" 38 "java/lang/String" "COMPACT_STRINGS" "Z")) s1 (fun _ _ h => by rw [hh5]; exact h) (g := (mkF m 19 #[.val (.ref x), .val (.ref y), .val (.ref y)] [])) rfl (hb hbytes d19)
    have hh7 := q7.trans hh5
    have c8 : Steps p.tables e below (s₁.setTop (entryFrame m #[.ref x, .ref y] 3)) (T7.setTop (mkF m 26 #[.val (.ref x), .val (.ref y), .val (.ref y)] [.ref x])) := (c6.trans (st7 _ (Steps.refl _))).trans (by
      refine XS.ifNo X7.here hexec rfl (hb hbytes d22) rfl (i0_eq_f hz) ?_
      refine XS.aloadN X7.here hexec rfl (hb hbytes d25) rfl rfl ?_
      exact Steps.refl _)
    obtain ⟨T9, X9, q9, st9⟩ := X7.hget hexec hown (wk W (.fieldLink "java/lang/String" 15 "java/lang/String" "coder" "B")) (hx.mv X7.warmed.alike hh7).2.2.1 (g := (mkF m 26 #[.val (.ref x), .val (.ref y), .val (.ref y)] [.ref x])) rfl (rest := []) rfl (hb hbytes d26)
    have hh9 := q9.trans hh7
    have c10 : Steps p.tables e below (s₁.setTop (entryFrame m #[.ref x, .ref y] 3)) (T9.setTop (mkF m 30 #[.val (.ref x), .val (.ref y), .val (.ref y)] [.ref y, .int cd])) := (c8.trans (st9 _ (Steps.refl _))).trans (by
      refine XS.aloadN X9.here hexec rfl (hb hbytes d29) rfl rfl ?_
      exact Steps.refl _)
    obtain ⟨T11, X11, q11, st11⟩ := X9.hget hexec hown (wk W (.fieldLink "java/lang/String" 15 "java/lang/String" "coder" "B")) (hy.mv X9.warmed.alike hh9).2.2.1 (g := (mkF m 30 #[.val (.ref x), .val (.ref y), .val (.ref y)] [.ref y, .int cd])) rfl (rest := [.int cd]) rfl (hb hbytes d30)
    have hh11 := q11.trans hh9
    have c12 : Steps p.tables e below (s₁.setTop (entryFrame m #[.ref x, .ref y] 3)) (T11.setTop (mkF m 33 #[.val (.ref x), .val (.ref y), .val (.ref y)] [.int cd', .int cd])) := c10.trans (st11 _ (Steps.refl _))
    by_cases hcd : cd = cd'
    · subst hcd
      have c13 : Steps p.tables e below (s₁.setTop (entryFrame m #[.ref x, .ref y] 3)) (T11.setTop (mkF m 37 #[.val (.ref x), .val (.ref y), .val (.ref y)] [.ref x])) := c12.trans (by
        refine XS.icmpNo X11.here hexec rfl (hb hbytes d33) rfl (ii_ne_f rfl) ?_
        refine XS.aloadN X11.here hexec rfl (hb hbytes d36) rfl rfl ?_
        exact Steps.refl _)
      obtain ⟨T14, X14, q14, st14⟩ := X11.hget hexec hown (wk W (.fieldLink "java/lang/String" 9 "java/lang/String" "value" "[B")) (hx.mv X11.warmed.alike hh11).2.1 (g := (mkF m 37 #[.val (.ref x), .val (.ref y), .val (.ref y)] [.ref x])) rfl (rest := []) rfl (hb hbytes d37)
      have hh14 := q14.trans hh11
      have c15 : Steps p.tables e below (s₁.setTop (entryFrame m #[.ref x, .ref y] 3)) (T14.setTop (mkF m 41 #[.val (.ref x), .val (.ref y), .val (.ref y)] [.ref y, .ref t])) := (c13.trans (st14 _ (Steps.refl _))).trans (by
        refine XS.aloadN X14.here hexec rfl (hb hbytes d40) rfl rfl ?_
        exact Steps.refl _)
      obtain ⟨T16, X16, q16, st16⟩ := X14.hget hexec hown (wk W (.fieldLink "java/lang/String" 9 "java/lang/String" "value" "[B")) (hy.mv X14.warmed.alike hh14).2.1 (g := (mkF m 41 #[.val (.ref x), .val (.ref y), .val (.ref y)] [.ref y, .ref t])) rfl (rest := [.ref t]) rfl (hb hbytes d41)
      have hh16 := q16.trans hh14
      have c17 : Steps p.tables e below (s₁.setTop (entryFrame m #[.ref x, .ref y] 3)) (T16.setTop (mkF m 44 #[.val (.ref x), .val (.ref y), .val (.ref y)] [.ref t', .ref t])) := c15.trans (st16 _ (Steps.refl _))
      obtain ⟨v18, T18, X18, E18, g18⟩ := X16.callS hexec (LEq.law l t V t' V') hown (wks W (staticW "java/lang/String" 541 LEq.yN)) (wk W LEq.tab) (W := 0) (Nat.le_of_ble_eq_true rfl) (Nat.le_of_ble_eq_true rfl) (Nat.le_refl _) (Nat.le_refl _) (g := (mkF m 44 #[.val (.ref x), .val (.ref y), .val (.ref y)] [.ref t', .ref t])) rfl (by rw [hml]; rfl) c17 (argsL := [.ref t, .ref t']) (rest := []) rfl rfl (by show 2 * 0 + 0 ≤ _; decide) (hb hbytes d44) (⟨rfl, hx.2.2.2.1.mv X16.warmed.alike hh16, hx.2.2.2.2.1.ty, hy.2.2.2.1.mv X16.warmed.alike hh16, hy.2.2.2.2.1.ty⟩)
      obtain ⟨v, rfl, q18, hv⟩ := E18
      have iff := Cod.eqv hx.2.2.2.2.1 hy.2.2.2.2.1 hx.2.2.2.2.2 hy.2.2.2.2.2
      rcases hv with ⟨rfl, he⟩ | ⟨rfl, he⟩
      · have c19 : Steps p.tables e below (s₁.setTop (entryFrame m #[.ref x, .ref y] 3)) (T18.setTop (mkF m 55 #[.val (.ref x), .val (.ref y), .val (.ref y)] [.int 1])) := Steps.trans g18 (by
          refine XS.ifNo X18.here hexec rfl (hb hbytes d47) rfl (i0_eq_f (by decide)) ?_
          refine iconstV X18.here hexec rfl 1 (hb hbytes d50) (by decide) ?_
          refine XS.goto X18.here hexec rfl (pc0 := 51) rfl (hb hbytes d51) (by decide) rfl ?_
          exact Steps.refl _)
        exact ⟨T18, some (.int 1), _, _, _, X18, rfl, rfl, rfl, (fun h => by cases h), ⟨1, rfl, q18.trans hh16, Or.inl ⟨rfl, iff.mp he⟩⟩, fun fs hl => c19.trans (X18.ireturnOut hexec hret rfl (Or.inr (Or.inl rfl)) (hb hbytes d55) hl)⟩
      · have c19 : Steps p.tables e below (s₁.setTop (entryFrame m #[.ref x, .ref y] 3)) (T18.setTop (mkF m 55 #[.val (.ref x), .val (.ref y), .val (.ref y)] [.int 0])) := Steps.trans g18 (by
          refine XS.ifYes X18.here hexec rfl (pc0 := 47) rfl (hb hbytes d47) rfl (i0_eq_t rfl) (by decide) rfl ?_
          refine iconstV X18.here hexec rfl 0 (hb hbytes d54) (by decide) ?_
          exact Steps.refl _)
        exact ⟨T18, some (.int 0), _, _, _, X18, rfl, rfl, rfl, (fun h => by cases h), ⟨0, rfl, q18.trans hh16, Or.inr ⟨rfl, fun q => he (iff.mpr q)⟩⟩, fun fs hl => c19.trans (X18.ireturnOut hexec hret rfl (Or.inr (Or.inl rfl)) (hb hbytes d55) hl)⟩
    · have c13 : Steps p.tables e below (s₁.setTop (entryFrame m #[.ref x, .ref y] 3)) (T11.setTop (mkF m 55 #[.val (.ref x), .val (.ref y), .val (.ref y)] [.int 0])) := c12.trans (by
        refine XS.icmpYes X11.here hexec rfl (pc0 := 33) rfl (hb hbytes d33) rfl (ii_ne_t hcd) (by decide) rfl ?_
        refine iconstV X11.here hexec rfl 0 (hb hbytes d54) (by decide) ?_
        exact Steps.refl _)
      exact ⟨T11, some (.int 0), _, _, _, X11, rfl, rfl, rfl, (fun h => by cases h), ⟨0, rfl, hh11, Or.inr ⟨rfl, Cod.dif hx.2.2.2.2.1 hy.2.2.2.2.1 hcd⟩⟩, fun fs hl => c13.trans (X11.ireturnOut hexec hret rfl (Or.inr (Or.inl rfl)) (hb hbytes d55) hl)⟩
theorem pays {l : Launch} {R : Room} {p : Program} {e : Env} {below : List Frame} {s : State} {sargs : Array Value} {len W : Nat} (x t : Addr) (V : Cell) (cd : Int32) (n : Nat) (f : Nat → Int32) (y t' : Addr) (V' : Cell) (cd' : Int32) (k : Nat) (g : Nat → Int32) (z : Int32) (htab : tab.before sargs s = true) (hfr : 2 ≤ R.frames) (hlo : W + 28 ≤ R.locals) :
    Back l R p e below s sargs yN len W (fun A₁ a₁ => A₁.cells + 0 ≤ R.cells ∧ A₁.slots + 0 ≤ R.slots ∧ P x t V cd n f y t' V' cd' k g z a₁ A₁.U) (fun A₁ _ v₁ B₁ => Says01 (SameT n f k g) v₁ A₁.U B₁.U ∧ B₁.locs = A₁.locs ++ [] ∧ B₁.cells = A₁.cells + 0 ∧ B₁.slots = A₁.slots + 0) :=
  (law l x t V cd n f y t' V' cd' k g z).pays htab hfr (by omega)
end SEq
end StrChars
namespace StrChars.Road
open Jvm Sem ClassFile Op Lib Jvm.Stand Jvm.Free Jvm.Free.XT
open Jvm.Lib.Cold (StaticIs)
/-- the words of String.equals(Object) -/
abbrev wordsEq : List Jvm.Cond := [.code SEq.yN SEq.yB 3 (some .boolean), .initialized ST, .classLink ST 10 ST, .fieldLink ST 38 ST "COMPACT_STRINGS" "Z", .fieldLink ST 15 ST "coder" "B", .fieldLink ST 9 ST "value" "[B", .methodLink ST 541 LEq.yN, .static LEq.yN, .code LEq.yN LEq.yB 3 (some .boolean), .initialized "java/lang/StringLatin1"]
theorem tabEq_of {a : Array Value} {s : State} (h : ∀ w ∈ wordsEq, w.before a s = true) : SEq.tab.before a s = true := by
  have hl : LEq.tab.before a s = true := unparts (wk h (.code LEq.yN LEq.yB 3 (some .boolean))) (wks h (.initialized LEq.yN.cls :: LEq.site))
  have q := consq hl h
  exact unparts (wk q (.code SEq.yN SEq.yB 3 (some .boolean))) (wks q (.initialized SEq.yN.cls :: SEq.site))
theorem movedEq {Z s : State} {a0 args : Array Value} (hZ : Z.Warmed39 s.vm) (hw : ∀ d ∈ wordsEq, d.before a0 Z = true) : ∀ d ∈ wordsEq, d.before args s = true := fun d hd => by
  have t : ∀ d ∈ wordsEq, (d.onTables && d.keepsFace) = true := by decide +kernel
  exact RoadKit.mv hZ (hw d hd) (t d hd)
/-- the road's facts of a String, as the laws ask it -/
theorem txt_of {Z U : State} {a0 : Array Value} {kI : Nat} (wi : (Jvm.Cond.instantiable ST kI).before a0 Z = true) (al : Z.vm.Alike U.vm) {x t : Addr} {kb : ClassId} {cs : List Int32} {cd N2 : Int32} {vs : List Value} (E : RoadKit.Exa Z U.heap x ST) (V : RoadKit.Fld Z U.heap x ST "value" "[B" (.ref t)) (C : RoadKit.Fld Z U.heap x ST "coder" "B" (.int cd)) (K : RoadKit.Arv Z U.heap t kb .byte N2 vs (.int 0)) (hc : CodA cs cd N2 vs) (hb : ∀ c ∈ cs, ¬ c < 0 ∧ ¬ (65535 : Int32) < c) (l2 : cs.length ≤ 4000) :
    ∃ A, Txt x t A cd cs.length (fun j => cs.getD j 0) U := by
  obtain ⟨A, K1, K2, K3, K4, K5, K6⟩ := K
  have hcod := hc.cod (by omega) K3 K5
  obtain ⟨D, fV, fC, hB, F1, F2, g1, g2, -, -⟩ := strObj wi al E V C
  exact ⟨A, ⟨_, hB.2.2.1, D, hB.1, rfl, by cases q : D.vm <;> first | rfl | exact absurd q (hB.2.1.2 _)⟩, Has.of hB F1 g1, Has.of hB F2 g2, ⟨K1.1, State.isArrayOf_alike al K1.2.1, K1.2.2, by rcases hcod with ⟨-, q, -⟩ | ⟨-, q, -⟩ <;> omega⟩, hcod, fun j hj => by
    have e : cs.getD j 0 = cs[j] := by simp [List.getD_eq_getElem?_getD, hj]
    show ¬ cs.getD j 0 < 0 ∧ ¬ 65535 < cs.getD j 0
    rw [e]; exact hb _ (List.getElem_mem _)⟩
theorem same_list (cs ds : List Int32) : SameT cs.length (fun j => cs.getD j 0) ds.length (fun j => ds.getD j 0) ↔ cs = ds := by
  constructor
  · rintro ⟨e, q⟩
    refine List.ext_getElem e fun j h1 h2 => ?_
    have := q j h1
    simpa [List.getD_eq_getElem?_getD, h1, h2] using this
  · rintro rfl
    exact ⟨rfl, fun _ _ => rfl⟩
/-- **equals(Object) OF TWO SUCH STRINGS**: 1 just where the chars are the same -/
theorem eqW {p : Program} {l : Launch} {e : Env} {R : Room} {s : State} {args : Array Value} {below : List Frame} {len W : Nat} {Z : State} {a0 : Array Value} {h : Heap} (hZ : Z.Warmed39 s.vm) (hw : ∀ d ∈ wordsEq, d.before a0 Z = true) {kI : Nat} (wi : (Jvm.Cond.instantiable ST kI).before a0 Z = true)
    {x t : Addr} {kb : ClassId} {cs : List Int32} {cd N2 : Int32} {vs : List Value} (E : RoadKit.Exa Z h x ST) (V : RoadKit.Fld Z h x ST "value" "[B" (.ref t)) (C : RoadKit.Fld Z h x ST "coder" "B" (.int cd)) (K : RoadKit.Arv Z h t kb .byte N2 vs (.int 0)) (hc : CodA cs cd N2 vs) (hb : ∀ c ∈ cs, ¬ c < 0 ∧ ¬ (65535 : Int32) < c) (l2 : cs.length ≤ 4000)
    {y t' : Addr} {kb' : ClassId} {ds : List Int32} {cd' N2' : Int32} {vs' : List Value} (E' : RoadKit.Exa Z h y ST) (V' : RoadKit.Fld Z h y ST "value" "[B" (.ref t')) (C' : RoadKit.Fld Z h y ST "coder" "B" (.int cd')) (K' : RoadKit.Arv Z h t' kb' .byte N2' vs' (.int 0)) (hc' : CodA ds cd' N2' vs') (hb' : ∀ c ∈ ds, ¬ c < 0 ∧ ¬ (65535 : Int32) < c) (l2' : ds.length ≤ 4000)
    {z : Int32} (S : RoadKit.Sta Z h ST "COMPACT_STRINGS" "Z" (.int z)) (hz : ¬ z = 0) (hfr : 2 ≤ R.frames) (hlo : W + 28 ≤ R.locals) :
    Back l R p e below s args (⟨"java/lang/String", "equals", "(Ljava/lang/Object;)Z"⟩ : MethodName) len W (fun P a => a = #[.ref x, .ref y] ∧ P.U.heap = h ∧ P.cells + 0 ≤ R.cells ∧ P.slots + 0 ≤ R.slots)
      (fun P _ v B => ∃ L, (((v = some (.int 1) ∧ cs = ds) ∨ (v = some (.int 0) ∧ ¬ cs = ds)) ∧ L = [] ∧ B.U.heap = h) ∧ B.locs = P.locs ++ L ∧ B.cells = P.cells + 0 ∧ B.slots = P.slots + 0) := by
  intro m meth c P g ig mk a X hg hsize hdg hW hn hp'
  obtain ⟨rfl, rfl, r1, r2⟩ := hp'
  have al : Z.vm.Alike P.U.vm := hZ.alike.trans X.warmed.alike
  obtain ⟨A, hx⟩ := txt_of wi al E V C K hc hb l2
  obtain ⟨A', hy⟩ := txt_of wi al E' V' C' K' hc' hb' l2'
  obtain ⟨v, B, X', ⟨⟨w, hv, hh, hq⟩, hl, hk, hs⟩, st⟩ := SEq.pays x t A cd cs.length (fun j => cs.getD j 0) y t' A' cd' ds.length (fun j => ds.getD j 0) z (tabEq_of (movedEq hZ hw)) hfr hlo m meth c P g ig mk _ X hg hsize hdg hW hn ⟨r1, r2, rfl, hx, hy, sta_is al S, hz⟩
  refine ⟨v, B, X', ⟨[], ⟨?_, rfl, hh⟩, hl, hk, hs⟩, st⟩
  rcases hq with ⟨rfl, q⟩ | ⟨rfl, q⟩
  · exact Or.inl ⟨hv, (same_list cs ds).mp q⟩
  · exact Or.inr ⟨hv, fun e => q ((same_list cs ds).mpr e)⟩
end StrChars.Road
namespace StrChars
open Jvm Sem ClassFile Op Lib Jvm.Stand Jvm.Free.XT Jvm.Free.ALB Jvm.Free.JM Jvm.Free
open Jvm.Lib.Cold (StaticIs)
namespace ChN
def yN : MethodName := ⟨"java/lang/String", "charAt", "(I)C"⟩
abbrev yB : ByteArray := jdk_42_method_56_code
theorem d0 : decode yB 0 = .ok (.aload_n 0, 1) := by decide +kernel
theorem d1 : decode yB 1 = .ok (.invokevirtual 492, 3) := by decide +kernel
theorem d4 : decode yB 4 = .ok (.ifCond (.eq) 12, 3) := by decide +kernel
theorem d7 : decode yB 7 = .ok (.aload_n 0, 1) := by decide +kernel
theorem d8 : decode yB 8 = .ok (.getfield 9, 3) := by decide +kernel
theorem d11 : decode yB 11 = .ok (.iload_n 1, 1) := by decide +kernel
theorem d12 : decode yB 12 = .ok (.invokestatic 495, 3) := by decide +kernel
theorem d15 : decode yB 15 = .ok (.ireturn, 1) := by decide +kernel
def site : List Cond := [.fieldLink "java/lang/String" 9 "java/lang/String" "value" "[B", IsL.tab, LChA.tab] ++ virtW "java/lang/String" 492 "java/lang/String" IsL.yN IsL.yN ++ staticW "java/lang/String" 495 LChA.yN
def tab : Cond := tabOf yN yB 2 (some .char) site
def P (x t : Addr) (V : Cell) (n : Nat) (f : Nat → Int32) (z : Int32) (fm : Value) (i : Nat) (args : Array Value) (s : State) : Prop := args = #[.ref x, .int (Int32.ofNat i)] ∧ Txt x t V 0 n f s ∧ i < n ∧ StaticIs s "java/lang/String" "COMPACT_STRINGS" "Z" (.int z) ∧ ¬ z = 0 ∧ StaticIs s "jdk/internal/util/Preconditions" "SIOOBE_FORMATTER" "Ljava/util/function/BiFunction;" fm ∧ fm.isRef = true
def E (f : Nat → Int32) (i : Nat) (r : Option Value) (s u : State) : Prop := XT.PureE (some (.int (f i))) r s u
/-- charAt(i) of a Latin-1 String of n chars, i < n: f i -/
theorem law (l : Launch) (x t : Addr) (V : Cell) (n : Nat) (f : Nat → Int32) (z : Int32) (fm : Value) (i : Nat) : Law l yN 2 1 3 40 yB 2 (some .char) site (P x t V n f z fm i) (E f i) [] 0 0 := by
  refine Law.of_walk (plainFor_of_name (by decide +kernel)) (by decide +kernel) (by decide +kernel) (by decide) (fun _ _ h => by rw [h.1]; rfl) (fun _ U U' hal hh h => ⟨h.1, h.2.1.mv hal hh, h.2.2.1, h.2.2.2.1.there hal hh, h.2.2.2.2.1, h.2.2.2.2.2.1.there hal hh, h.2.2.2.2.2.2⟩) (fun r U U' V V' h1 hal h2 h => XT.PureE.mv r U U' V V' h1 hal h2 h) ?_
  intro p e s m args below meth c s₁ X0 hexec hbytes hml hret hlk hnm hown hh0 W hP
  obtain ⟨rfl, hx, hi, s1, hz, s3, rf⟩ := hP
  have v31 := hx.2.2.2.1.2.2.2
  have hr := hx.2.2.2.2.2 i hi
  have hx0 := hx.mv X0.warmed.alike hh0
  have c1 : Steps p.tables e below (s₁.setTop (entryFrame m #[.ref x, .int (Int32.ofNat i)] 2)) (s₁.setTop (mkF m 1 #[.val (.ref x), .val (.int (Int32.ofNat i))] [.ref x])) := Steps.trans (entry rfl) (by
    show Steps p.tables e below (s₁.setTop (mkF m 0 #[.val (.ref x), .val (.int (Int32.ofNat i))] [])) _
    refine XS.aloadN X0.here hexec rfl (hb hbytes d0) rfl rfl ?_
    exact Steps.refl _)
  obtain ⟨v2, T2, X2, E2, g2⟩ := X0.callV hexec (IsL.law l x 0 z) hown (wks W (virtW "java/lang/String" 492 "java/lang/String" IsL.yN IsL.yN)) rfl (by decide) (wk W IsL.tab) (W := 0) (Nat.le_of_ble_eq_true rfl) (Nat.le_of_ble_eq_true rfl) (Nat.le_refl _) (Nat.le_refl _) (hx0.1.fc X0.warmed.alike) hx0.1.is (g := (mkF m 1 #[.val (.ref x), .val (.int (Int32.ofNat i))] [.ref x])) rfl (by rw [hml]; rfl) c1 (argsL := []) (rest := []) rfl rfl (by show 2 * 0 + 0 ≤ _; decide) (hb hbytes d1) (⟨rfl, hx0.2.2.1, hx.2.2.2.2.1.cd, s1.there X0.warmed.alike hh0, hz⟩)
  obtain ⟨rfl, q2⟩ := E2
  have hh2 := q2.trans hh0
  have hx2 := hx.mv X2.warmed.alike hh2
  obtain ⟨-, k1, k2⟩ | ⟨k0, -⟩ := hx.2.2.2.2.1
  · have c3 : Steps p.tables e below (s₁.setTop (entryFrame m #[.ref x, .int (Int32.ofNat i)] 2)) (T2.setTop (mkF m 8 #[.val (.ref x), .val (.int (Int32.ofNat i))] [.ref x])) := Steps.trans g2 (by
      refine XS.ifNo X2.here hexec rfl (hb hbytes d4) rfl (i0_eq_f (by decide)) ?_
      refine XS.aloadN X2.here hexec rfl (hb hbytes d7) rfl rfl ?_
      exact Steps.refl _)
    obtain ⟨T4, X4, q4, st4⟩ := X2.hget hexec hown (wk W (.fieldLink "java/lang/String" 9 "java/lang/String" "value" "[B")) hx2.2.1 (g := (mkF m 8 #[.val (.ref x), .val (.int (Int32.ofNat i))] [.ref x])) rfl (rest := []) rfl (hb hbytes d8)
    have hh4 := q4.trans hh2
    have c5 : Steps p.tables e below (s₁.setTop (entryFrame m #[.ref x, .int (Int32.ofNat i)] 2)) (T4.setTop (mkF m 12 #[.val (.ref x), .val (.int (Int32.ofNat i))] [.int (Int32.ofNat i), .ref t])) := (c3.trans (st4 _ (Steps.refl _))).trans (by
      refine XS.iloadN X4.here hexec rfl (hb hbytes d11) rfl ?_
      exact Steps.refl _)
    obtain ⟨v6, T6, X6, E6, g6⟩ := X4.callS hexec (LChA.law l t V i (lo8 (f i)) fm) hown (wks W (staticW "java/lang/String" 495 LChA.yN)) (wk W LChA.tab) (W := 0) (Nat.le_of_ble_eq_true rfl) (Nat.le_of_ble_eq_true rfl) (Nat.le_refl _) (Nat.le_refl _) (g := (mkF m 12 #[.val (.ref x), .val (.int (Int32.ofNat i))] [.int (Int32.ofNat i), .ref t])) rfl (by rw [hml]; rfl) c5 (argsL := [.ref t, .int (Int32.ofNat i)]) (rest := []) rfl rfl (by show 2 * 0 + 0 ≤ _; decide) (hb hbytes d12) (⟨rfl, hx.2.2.2.1.mv X4.warmed.alike hh4, (k2 i hi).1, s3.there X4.warmed.alike hh4, rf⟩)
    obtain ⟨rfl, q6⟩ := E6
    rw [chr8_lo8 hr.1 (k2 i hi).2] at g6
    exact ⟨T6, some (.int (f i)), _, _, _, X6, rfl, rfl, rfl, (fun h => by cases h), ⟨rfl, q6.trans hh4⟩, fun fs hl => Steps.trans g6 (X6.ireturnOut hexec hret (narrow_ch hr.1 hr.2) (Or.inr (Or.inr (Or.inr (Or.inl rfl)))) (hb hbytes d15) hl)⟩
  · exact absurd k0 (by decide)
theorem pays {l : Launch} {R : Room} {p : Program} {e : Env} {below : List Frame} {s : State} {sargs : Array Value} {len W : Nat} (x t : Addr) (V : Cell) (n : Nat) (f : Nat → Int32) (z : Int32) (fm : Value) (i : Nat) (htab : tab.before sargs s = true) (hfr : 4 ≤ R.frames) (hlo : W + 53 ≤ R.locals) :
    Back l R p e below s sargs yN len W (fun A₁ a₁ => A₁.cells + 0 ≤ R.cells ∧ A₁.slots + 0 ≤ R.slots ∧ P x t V n f z fm i a₁ A₁.U) (fun A₁ _ v₁ B₁ => E f i v₁ A₁.U B₁.U ∧ B₁.locs = A₁.locs ++ [] ∧ B₁.cells = A₁.cells + 0 ∧ B₁.slots = A₁.slots + 0) :=
  (law l x t V n f z fm i).pays htab hfr (by omega)
end ChN
end StrChars
namespace StrChars.Road
open Jvm Sem ClassFile Op Lib Jvm.Stand Jvm.Free Jvm.Free.XT
open Jvm.Lib.Cold (StaticIs)
/-- the words of String.charAt(int), the Latin-1 road alone -/
abbrev wordsChN : List Jvm.Cond := [.code ChN.yN ChN.yB 2 (some .char), .initialized ST, .fieldLink ST 9 ST "value" "[B", .fieldLink ST 38 ST "COMPACT_STRINGS" "Z", .fieldLink ST 15 ST "coder" "B", .code IsL.yN IsL.yB 1 (some .boolean), .methodLink ST 492 IsL.yN, .declares IsL.yN, .selects ST IsL.yN IsL.yN, .instanceMethod IsL.yN,
  .methodLink ST 495 LChA.yN, .static LChA.yN, .code LChA.yN LChA.yB 2 (some .char), .initialized "java/lang/StringLatin1", .methodLink "java/lang/StringLatin1" 9 JO.Str_checkIndex.yN, .static JO.Str_checkIndex.yN, .code JO.Str_checkIndex.yN JO.Str_checkIndex.yB 2 none,
  .fieldLink ST 1053 "jdk/internal/util/Preconditions" "SIOOBE_FORMATTER" "Ljava/util/function/BiFunction;", .methodLink ST 1059 JC.PreCheck.yN, .static JC.PreCheck.yN, .code JC.PreCheck.yN JC.PreCheck.yB 3 (some .int), .initialized "jdk/internal/util/Preconditions"]
theorem tabChN_of {a : Array Value} {s : State} (h : ∀ w ∈ wordsChN, w.before a s = true) : ChN.tab.before a s = true := by
  have hp : JC.PreCheck.tab.before a s = true := unparts (wk h (.code JC.PreCheck.yN JC.PreCheck.yB 3 (some .int))) (wks h (.initialized JC.PreCheck.yN.cls :: JC.PreCheck.site))
  have qk := consq hp h
  have hk : JO.Str_checkIndex.tab.before a s = true := unparts (wk qk (.code JO.Str_checkIndex.yN JO.Str_checkIndex.yB 2 none)) (wks qk (.initialized JO.Str_checkIndex.yN.cls :: JO.Str_checkIndex.site))
  have ql := consq hk h
  have hl : LChA.tab.before a s = true := unparts (wk ql (.code LChA.yN LChA.yB 2 (some .char))) (wks ql (.initialized LChA.yN.cls :: LChA.site))
  have hi : IsL.tab.before a s = true := unparts (wk h (.code IsL.yN IsL.yB 1 (some .boolean))) (wks h (.initialized IsL.yN.cls :: IsL.site))
  have q := consq hi (consq hl h)
  exact unparts (wk q (.code ChN.yN ChN.yB 2 (some .char))) (wks q (.initialized ChN.yN.cls :: ChN.site))
theorem movedChN {Z s : State} {a0 args : Array Value} (hZ : Z.Warmed39 s.vm) (hw : ∀ d ∈ wordsChN, d.before a0 Z = true) : ∀ d ∈ wordsChN, d.before args s = true := fun d hd => by
  have t : ∀ d ∈ wordsChN, (d.onTables && d.keepsFace) = true := by decide +kernel
  exact RoadKit.mv hZ (hw d hd) (t d hd)
/-- **charAt(i) OF A LATIN-1 STRING**, i < n: the char -/
theorem chN {p : Program} {l : Launch} {e : Env} {R : Room} {s : State} {args : Array Value} {below : List Frame} {len W : Nat} {Z : State} {a0 : Array Value} {h : Heap} (hZ : Z.Warmed39 s.vm) (hw : ∀ d ∈ wordsChN, d.before a0 Z = true) {kI : Nat} (wi : (Jvm.Cond.instantiable ST kI).before a0 Z = true)
    {x t : Addr} {kb : ClassId} {cs : List Int32} {N2 z : Int32} {vs : List Value} {fm : Value} {i : Nat} {j : Int32} (E : RoadKit.Exa Z h x ST) (V : RoadKit.Fld Z h x ST "value" "[B" (.ref t)) (C : RoadKit.Fld Z h x ST "coder" "B" (.int 0)) (K : RoadKit.Arv Z h t kb .byte N2 vs (.int 0)) (hc : CodA cs 0 N2 vs) (hb : ∀ c ∈ cs, ¬ c < 0 ∧ ¬ (65535 : Int32) < c)
    (S : RoadKit.Sta Z h ST "COMPACT_STRINGS" "Z" (.int z)) (hz : ¬ z = 0) (F : RoadKit.Sta Z h "jdk/internal/util/Preconditions" "SIOOBE_FORMATTER" "Ljava/util/function/BiFunction;" fm) (rf : fm.isRef = true) (l2 : cs.length ≤ 4000) (hi : i < cs.length) (hj : j = Int32.ofNat i) (hfr : 4 ≤ R.frames) (hlo : W + 53 ≤ R.locals) :
    Back l R p e below s args (⟨"java/lang/String", "charAt", "(I)C"⟩ : MethodName) len W (fun P a => a = #[.ref x, .int j] ∧ P.U.heap = h ∧ P.cells + 0 ≤ R.cells ∧ P.slots + 0 ≤ R.slots)
      (fun P _ v B => ∃ L, (v = some (.int (cs.getD i 0)) ∧ L = [] ∧ B.U.heap = h) ∧ B.locs = P.locs ++ L ∧ B.cells = P.cells + 0 ∧ B.slots = P.slots + 0) := by
  subst hj
  intro m meth c P g ig mk a X hg hsize hdg hW hn hp'
  obtain ⟨rfl, rfl, r1, r2⟩ := hp'
  have al : Z.vm.Alike P.U.vm := hZ.alike.trans X.warmed.alike
  obtain ⟨A, hx⟩ := txt_of wi al E V C K hc hb l2
  obtain ⟨v, B, X', ⟨⟨hv, hh⟩, hl, hk, hs⟩, st⟩ := ChN.pays x t A cs.length (fun j => cs.getD j 0) z fm i (tabChN_of (movedChN hZ hw)) hfr hlo m meth c P g ig mk _ X hg hsize hdg hW hn ⟨r1, r2, rfl, hx, hi, sta_is al S, hz, sta_is al F, rf⟩
  exact ⟨v, B, X', ⟨[], ⟨hv, rfl, hh⟩, hl, hk, hs⟩, st⟩
/-- what backV says of its String, as the contracts of this text ask it: cs's low bytes, coder 0 -/
theorem codOf {cs : List Int32} {n : Nat} (hn : cs.length = n) (hb : ∀ c ∈ cs, ¬ 255 < c) : CodA cs 0 (Int32.ofNat n) ((cs.map lo8).map Value.int) := Or.inl ⟨rfl, by rw [hn], by simp [List.map_map, Function.comp_def], hb⟩
end StrChars.Road
end Jvm.Pilot.@@N@@

namespace Jvm.Pilot.@@N@@
open Jvm Jvm.ClassFile Sem Op Lib Jvm.Free Jvm.Stand Jvm.LawKit Jvm.RoadKit Bundle Jvm.Pilot.@@N@@.Jvm.D

section OwnKit
variable {p : Program} {l : Launch} {e : Env} {R : Room} {s : State} {m : MethodId} {args : Array Value} {below : List Frame} {meth : Method} {c : Code} {T : State} {locs : List Loc} {cells slots : Nat} {Z : State} {a0 : Array Value} {h : Heap}
/-- from T at frame F the walk reaches a state that P holds of -/
def own_R (tb : Tables) (e : Env) (below : List Frame) (P : State → Prop) (T : State) (F : JFrame) : Prop := ∃ t, Steps tb e below (T.setTop F) t ∧ P t
theorem own_go {tb : Tables} {e : Env} {below : List Frame} {P : State → Prop} {T T' : State} {F F' : JFrame} (h : ∀ t, Steps tb e below (T'.setTop F') t → Steps tb e below (T.setTop F) t) (r : own_R tb e below P T' F') : own_R tb e below P T F := by
  obtain ⟨t, a, b⟩ := r
  exact ⟨t, h t a, b⟩
/-- what a body's end must meet -/
def own_E (s : State) (below : List Frame) (Q : Option Value → Heap → List Loc → Prop) (C N : Nat) (t : State) : Prop := ∃ v L, t.status = .running ∧ Ended t below (.returned v) ∧ Q v t.heap L ∧ FrameEnd s (.returned v) t L C N
/-- a body's contract -/
abbrev own_C (l : Launch) (Z : State) (y : MethodName) (bytes : ByteArray) (ml : Nat) (ret : Option FieldType) (ws : List Jvm.Cond) (rm : Room) (as : Array Value) (h0 : Heap) (Q : Option Value → Heap → List Loc → Prop) : Prop :=
  MetFree l y (head1 (Jvm.Cond.code y bytes ml ret :: ws) rm) (fun a U => a = as ∧ Z.Warmed39 U.vm ∧ U.heap = h0) (fun _ _ _ _ _ => True) (fun _ U o U' => ∃ v L, o = .returned v ∧ Q v U'.heap L ∧ FrameEnd U o U' L rm.cells rm.slots)
theorem own_body {y : MethodName} {bytes : ByteArray} {ml : Nat} {ret : Option FieldType} {ws : List Jvm.Cond} {rm : Room} {as : Array Value} {h0 : Heap} {Q : Option Value → Heap → List Loc → Prop} {ls : Array Slot}
    (hy : plainFor y = true) (hef : ∀ m, entryFrame m as ml = mkF m 0 ls [])
    (H : ∀ (p : Program) (e : Env) (s : State) (m : MethodId) (below : List Frame) (meth : Method) (c : Code) (T : State), Z.Warmed39 s.vm → p.tables.exec = Jvm.exec → c.code = bytes → c.maxLocals = ml → s.vm.findClass y.cls = some m.cls → meth.name = y.name → meth.sig.returnType = ret → meth.locks = false →
      Stand p l e rm s m as below meth c T [] 0 0 → T.heap = h0 → own_R p.tables e below (own_E s below Q rm.cells rm.slots) T (mkF m 0 ls [])) :
    own_C l Z y bytes ml ret ws rm as h0 Q := by
  refine MetFree.of_bodySF hy hisR ?_
  intro p e s m args below meth c s₁ Bd hml0 hP hK
  obtain ⟨rfl, hZ, hh⟩ := hP
  obtain ⟨t, st, v, L, h1, h2, h3, h4⟩ := H p e s m below meth c s₁ hZ Bd.exec Bd.bytes hml0 (findClass_of_methodNamed Bd.named) (name_of_methodNamed Bd.named Bd.method).1 Bd.returns Bd.notSynchronized (Stand.of_body Bd) (by rw [← hh, Bd.state]; rfl)
  exact ⟨t, _, castTop (hef m) st, h1, h2, v, L, rfl, h3, h4⟩
theorem own_end {Q : Option Value → Heap → List Loc → Prop} {C N : Nat} {F : JFrame} (X : Stand p l e R s m args below meth c T locs cells slots) (v : Option Value) (hv : meth.sig.returnType = none → v = none) (hlk : meth.locks = false)
    (hst : ∀ fs, (∀ (f : JFrame) (acts : List Action), f.method = m → f.locked = none → f.entered = [] → (doReturn e (T.setTop f) acts v).1 = T.setFrames fs) → Steps p.tables e below (T.setTop F) (T.setFrames fs))
    (hQ : Q v T.heap locs) (hc : cells ≤ C) (hn : slots ≤ N) : own_R p.tables e below (own_E s below Q C N) T F := by
  obtain ⟨fs, hr, hrun, hended, hW, hsame⟩ := X.leave (v := v) hv hlk
  exact ⟨_, hst fs hr, v, locs, hrun, hended, hQ, ⟨_, rfl⟩, hW, hsame.mono hc hn⟩
theorem own_retI (X : Stand p l e R s m args below meth c T locs cells slots) (hx : p.tables.exec = Jvm.exec) {pc : Nat} {Ls : Array Slot} {z : Int32} {rest : List Value} (hret : meth.sig.returnType = some .int) (hd : decode c.code pc = .ok (.ireturn, 1)) {fs : List Frame}
    (hl : ∀ (f : JFrame) (acts : List Action), f.method = m → f.locked = none → f.entered = [] → (doReturn e (T.setTop f) acts (some (.int z))).1 = T.setFrames fs) : Steps p.tables e below (T.setTop (mkF m pc Ls (.int z :: rest))) (T.setFrames fs) := by
  have hm' : T.vm.method? m = some meth := X.method'
  have hn : narrow .int (.int z) = .int z := rfl
  show Steps p.tables e below (T.setTop { method := m, pc := pc, locals := Ls, stack := _ :: rest, locked := none }) _
  jvm_step X.here [X.here.top, hx, hd, hm', hret, hn]
  first | (intro acts; rw [hl _ acts rfl rfl rfl]) | rw [hl _ _ rfl rfl rfl]
  exact Steps.refl _
theorem own_retJ (X : Stand p l e R s m args below meth c T locs cells slots) (hx : p.tables.exec = Jvm.exec) {pc : Nat} {Ls : Array Slot} {z : Int64} {rest : List Value} (hret : meth.sig.returnType = some .long) (hd : decode c.code pc = .ok (.lreturn, 1)) {fs : List Frame}
    (hl : ∀ (f : JFrame) (acts : List Action), f.method = m → f.locked = none → f.entered = [] → (doReturn e (T.setTop f) acts (some (.long z))).1 = T.setFrames fs) : Steps p.tables e below (T.setTop (mkF m pc Ls (.long z :: rest))) (T.setFrames fs) := by
  have hm' : T.vm.method? m = some meth := X.method'
  have hn : narrow .long (.long z) = .long z := rfl
  show Steps p.tables e below (T.setTop { method := m, pc := pc, locals := Ls, stack := _ :: rest, locked := none }) _
  jvm_step X.here [X.here.top, hx, hd, hm', hret, hn]
  first | (intro acts; rw [hl _ acts rfl rfl rfl]) | rw [hl _ _ rfl rfl rfl]
  exact Steps.refl _
theorem own_retD (X : Stand p l e R s m args below meth c T locs cells slots) (hx : p.tables.exec = Jvm.exec) {pc : Nat} {Ls : Array Slot} {z : UInt64} {rest : List Value} (hret : meth.sig.returnType = some .double) (hd : decode c.code pc = .ok (.dreturn, 1)) {fs : List Frame}
    (hl : ∀ (f : JFrame) (acts : List Action), f.method = m → f.locked = none → f.entered = [] → (doReturn e (T.setTop f) acts (some (.double z))).1 = T.setFrames fs) : Steps p.tables e below (T.setTop (mkF m pc Ls (.double z :: rest))) (T.setFrames fs) := by
  have hm' : T.vm.method? m = some meth := X.method'
  have hn : narrow .double (.double z) = .double z := rfl
  show Steps p.tables e below (T.setTop { method := m, pc := pc, locals := Ls, stack := _ :: rest, locked := none }) _
  jvm_step X.here [X.here.top, hx, hd, hm', hret, hn]
  first | (intro acts; rw [hl _ acts rfl rfl rfl]) | rw [hl _ _ rfl rfl rfl]
  exact Steps.refl _
theorem own_retA (X : Stand p l e R s m args below meth c T locs cells slots) (hx : p.tables.exec = Jvm.exec) {pc : Nat} {Ls : Array Slot} {z : Value} {t : FieldType} {rest : List Value} (hret : meth.sig.returnType = some t) (ht : t.isReference = true) (hz : z.isRef = true) (hd : decode c.code pc = .ok (.areturn, 1)) {fs : List Frame}
    (hl : ∀ (f : JFrame) (acts : List Action), f.method = m → f.locked = none → f.entered = [] → (doReturn e (T.setTop f) acts (some z)).1 = T.setFrames fs) : Steps p.tables e below (T.setTop (mkF m pc Ls (z :: rest))) (T.setFrames fs) := by
  have hm' : T.vm.method? m = some meth := X.method'
  show Steps p.tables e below (T.setTop { method := m, pc := pc, locals := Ls, stack := _ :: rest, locked := none }) _
  jvm_step X.here [X.here.top, hx, hd, hm', hret, ht, hz]
  first | (intro acts; rw [hl _ acts rfl rfl rfl]) | rw [hl _ _ rfl rfl rfl]
  exact Steps.refl _
theorem own_len {a : Addr} {k : ClassId} {ty : FieldType} {n : Int32} {vs : List Value} {d : Value} (X : Stand p l e R s m args below meth c T locs cells slots) (hx : p.tables.exec = Jvm.exec) (hZ : Z.Warmed39 s.vm) (eT : T.heap = h) (V : Arv Z h a k ty n vs d)
    {g : JFrame} (hg : g.method = m) {rest : List Value} (hs : g.stack = .ref a :: rest) (hd : decode c.code g.pc = .ok (.arraylength, 1)) :
    ∀ t, Steps p.tables e below (T.setTop { g with pc := g.pc + 1, stack := .int n :: rest }) t → Steps p.tables e below (T.setTop g) t := by
  obtain ⟨cl, Ar, -, S, N, -, -⟩ := V
  intro t st
  refine X.arraylength hx (by rw [eT]; exact Ar.1) (State.isArrayOf_alike hZ.alike Ar.2.1) hg hs hd t ?_
  rw [len_of S N]
  exact st
theorem own_ldD {a : Addr} {k : ClassId} {n j : Int32} {vs : List Value} {d v : Value} (X : Stand p l e R s m args below meth c T locs cells slots) (hx : p.tables.exec = Jvm.exec) (hZ : Z.Warmed39 s.vm) (eT : T.heap = h) (V : Arv Z h a k .double n vs d) (hj : ¬ j < 0 ∧ j < n) (hv : vs.getD j.toNatClampNeg d = v)
    {g : JFrame} (hg : g.method = m) {rest : List Value} (hs : g.stack = .int j :: .ref a :: rest) (hd : decode c.code g.pc = .ok (.daload, 1)) :
    ∀ t, Steps p.tables e below (T.setTop { g with pc := g.pc + 1, stack := v :: rest }) t → Steps p.tables e below (T.setTop g) t := by
  obtain ⟨cl, Ar, -, S, N, H, -⟩ := V
  intro t st
  exact X.daload hx (by rw [eT]; exact Ar.1) (State.isArrayOf_alike hZ.alike Ar.2.1) Ar.2.2 (inb_of S hj) (H.at (inb_of S hj) hv) hg hs hd t st
theorem own_ldZ {a : Addr} {k : ClassId} {n j : Int32} {vs : List Value} {d v : Value} (X : Stand p l e R s m args below meth c T locs cells slots) (hx : p.tables.exec = Jvm.exec) (hZ : Z.Warmed39 s.vm) (eT : T.heap = h) (V : Arv Z h a k .boolean n vs d) (hj : ¬ j < 0 ∧ j < n) (hv : vs.getD j.toNatClampNeg d = v)
    {g : JFrame} (hg : g.method = m) {rest : List Value} (hs : g.stack = .int j :: .ref a :: rest) (hd : decode c.code g.pc = .ok (.baload, 1)) :
    ∀ t, Steps p.tables e below (T.setTop { g with pc := g.pc + 1, stack := v :: rest }) t → Steps p.tables e below (T.setTop g) t := by
  obtain ⟨cl, Ar, -, S, N, H, -⟩ := V
  intro t st
  exact X.baloadBooleans hx (by rw [eT]; exact Ar.1) (State.isArrayOf_alike hZ.alike Ar.2.1) Ar.2.2 (inb_of S hj) (H.at (inb_of S hj) hv) hg hs hd t st
theorem own_stD {a : Addr} {k : ClassId} {n j : Int32} {vs : List Value} {d : Value} {x : UInt64} (X : Stand p l e R s m args below meth c T locs cells slots) (hx : p.tables.exec = Jvm.exec) (hZ : Z.Warmed39 s.vm) (eT : T.heap = h) (V : Arv Z h a k .double n vs d) (hj : ¬ j < 0 ∧ j < n) (i : Nat) (hji : j.toNatClampNeg = i) (hi : i < vs.length)
    {g : JFrame} (hg : g.method = m) {rest : List Value} (hs : g.stack = .double x :: .int j :: .ref a :: rest) (hd : decode c.code g.pc = .ok (.dastore, 1)) :
    ∃ T' h', Stand p l e R s m args below meth c T' (locs ++ [⟨a, j.toNatClampNeg⟩]) cells slots ∧ T'.heap = h' ∧ Wr h h' a j.toNatClampNeg (.double x) ∧ Arv Z h' a k .double n (vs.set i (.double x)) d ∧ ∀ t, Steps p.tables e below (T'.setTop { g with pc := g.pc + 1, stack := rest }) t → Steps p.tables e below (T.setTop g) t := by
  obtain ⟨cl, Ar, q, S, N, H, G⟩ := V
  obtain ⟨T', h', X', e', W, st⟩ := stD X hx hZ eT Ar (inb_of S hj) hg hs hd
  exact ⟨T', h', X', e', W, Arv.set Ar q S N H G rfl W i hji hi, st⟩
theorem own_stZ {a : Addr} {k : ClassId} {n j : Int32} {vs : List Value} {d : Value} {x : Int32} (X : Stand p l e R s m args below meth c T locs cells slots) (hx : p.tables.exec = Jvm.exec) (hZ : Z.Warmed39 s.vm) (eT : T.heap = h) (V : Arv Z h a k .boolean n vs d) (hj : ¬ j < 0 ∧ j < n) (i : Nat) (hji : j.toNatClampNeg = i) (hi : i < vs.length) (h01 : x = 0 ∨ x = 1)
    {g : JFrame} (hg : g.method = m) {rest : List Value} (hs : g.stack = .int x :: .int j :: .ref a :: rest) (hd : decode c.code g.pc = .ok (.bastore, 1)) :
    ∃ T' h', Stand p l e R s m args below meth c T' (locs ++ [⟨a, j.toNatClampNeg⟩]) cells slots ∧ T'.heap = h' ∧ Wr h h' a j.toNatClampNeg (.int x) ∧ Arv Z h' a k .boolean n (vs.set i (.int x)) d ∧ ∀ t, Steps p.tables e below (T'.setTop { g with pc := g.pc + 1, stack := rest }) t → Steps p.tables e below (T.setTop g) t := by
  obtain ⟨cl, Ar, q, S, N, H, G⟩ := V
  obtain ⟨T', h', X', e', W, st⟩ := stZ X hx hZ eT Ar (inb_of S hj) hg hs hd
  have en : nar .boolean x = x := by rcases h01 with rfl | rfl <;> rfl
  rw [en] at W
  exact ⟨T', h', X', e', W, Arv.set Ar q S N H G (by rcases h01 with rfl | rfl <;> rfl) W i hji hi, st⟩
theorem own_stC {a : Addr} {k : ClassId} {n j : Int32} {vs : List Value} {d : Value} {x : Int32} (X : Stand p l e R s m args below meth c T locs cells slots) (hx : p.tables.exec = Jvm.exec) (hZ : Z.Warmed39 s.vm) (eT : T.heap = h) (V : Arv Z h a k .char n vs d) (hj : ¬ j < 0 ∧ j < n) (i : Nat) (hji : j.toNatClampNeg = i) (hi : i < vs.length) (hn : nar .char x = x)
    {g : JFrame} (hg : g.method = m) {rest : List Value} (hs : g.stack = .int x :: .int j :: .ref a :: rest) (hd : decode c.code g.pc = .ok (.castore, 1)) :
    ∃ T' h', Stand p l e R s m args below meth c T' (locs ++ [⟨a, j.toNatClampNeg⟩]) cells slots ∧ T'.heap = h' ∧ Wr h h' a j.toNatClampNeg (.int x) ∧ Arv Z h' a k .char n (vs.set i (.int x)) d ∧ ∀ t, Steps p.tables e below (T'.setTop { g with pc := g.pc + 1, stack := rest }) t → Steps p.tables e below (T.setTop g) t := by
  obtain ⟨cl, Ar, q, S, N, H, G⟩ := V
  obtain ⟨T', h', X', e', W, st⟩ := stC X hx hZ eT Ar (inb_of S hj) hg hs hd
  have hf := fits_nar_char x
  rw [hn] at W hf
  exact ⟨T', h', X', e', W, Arv.set Ar q S N H G hf W i hji hi, st⟩
/-- a payer's form: what the three calls ask -/
abbrev own_B (l : Launch) (R : Room) (p : Program) (e : Env) (below : List Frame) (s : State) (args : Array Value) (y : MethodName) (W : Nat) (as : Array Value) (h : Heap) (kc ks : Nat) (Q : Option Value → Heap → List Loc → Prop) : Prop :=
  Back l R p e below s args y 3 W (fun A a => a = as ∧ A.U.heap = h ∧ A.cells + kc ≤ R.cells ∧ A.slots + ks ≤ R.slots) (fun A _ v B => ∃ L, Q v B.U.heap L ∧ B.locs = A.locs ++ L ∧ B.cells = A.cells + kc ∧ B.slots = A.slots + ks)
theorem own_backS (X : Stand p l e R s m args below meth c T locs cells slots) (hx : p.tables.exec = Jvm.exec) (hZ : Z.Warmed39 s.vm) {own : String} (hown : s.vm.findClass own = some m.cls) {index : Nat} {y : MethodName} {bytes : ByteArray} {maxL : Nat} {ret : Option FieldType}
    (w1 : (Jvm.Cond.methodLink own index y).before a0 Z = true) (w2 : (Jvm.Cond.static y).before a0 Z = true) (w3 : (Jvm.Cond.initialized y.cls).before a0 Z = true) (w4 : (Jvm.Cond.code y bytes maxL ret).before a0 Z = true) (hy : y.cls ≠ "java/lang/invoke/MethodHandle" ∧ y.cls ≠ "java/lang/invoke/VarHandle")
    {W kc ks : Nat} {as : Array Value} {Q : Option Value → Heap → List Loc → Prop} (hK : own_B l R p e below s args y W as h kc ks Q) 
    {g : JFrame} (hg : g.method = m) (hsize : g.locals.size = c.maxLocals) {argsL rest : List Value} (hlen : ∀ sig, parseMethodDescriptor y.desc = some sig → argsL.length = sig.parameters.length)
    (hst : g.stack = argsL.reverse ++ rest) (has : argsL.toArray = as) (hW : 2 * g.monitorRoom + (rest.map fun v => v.category).sum ≤ W) (hd : decode c.code g.pc = .ok (.invokestatic index, 3)) (eT : T.heap = h)
    (hc : cells + kc ≤ R.cells) (hs : slots + ks ≤ R.slots) :
    ∃ v T' L, Stand p l e R s m args below meth c T' (locs ++ L) (cells + kc) (slots + ks) ∧ Q v T'.heap L ∧ ∀ t, Steps p.tables e below (T'.setTop { g with pc := g.pc + 3, stack := v.toList ++ rest }) t → Steps p.tables e below (T.setTop g) t := by
  obtain ⟨v, vm1, ⟨T1, L1, k1, n1⟩, -, X1, ⟨Lc, hQ, l1, y1, z1⟩, st⟩ := Jvm.LawKit.callS X hx (y := y) hown (mvT hZ w1) (mvT hZ w2) (mvT hZ w3) (mvT hZ w4) hy hK hg hsize (argsL := argsL) (rest := rest) hlen hst hW hd (fun _ _ => ⟨has, eT, hc, hs⟩)
  dsimp only [Pt.U, Pt.locs, Pt.cells, Pt.slots] at X1 l1 y1 z1 st hQ
  subst l1 y1 z1
  exact ⟨v, T1, Lc, X1, hQ, st⟩
theorem own_callS (X : Stand p l e R s m args below meth c T locs cells slots) (hx : p.tables.exec = Jvm.exec) (hZ : Z.Warmed39 s.vm) {own : String} (hown : s.vm.findClass own = some m.cls) {index : Nat} {y : MethodName} {bytes : ByteArray} {maxL : Nat} {ret : Option FieldType}
    (w1 : (Jvm.Cond.methodLink own index y).before a0 Z = true) (w2 : (Jvm.Cond.static y).before a0 Z = true) (w3 : (Jvm.Cond.initialized y.cls).before a0 Z = true) (w4 : (Jvm.Cond.code y bytes maxL ret).before a0 Z = true) (hy : y.cls ≠ "java/lang/invoke/MethodHandle" ∧ y.cls ≠ "java/lang/invoke/VarHandle")
    {rm : Room} {as : Array Value} {Q : Option Value → Heap → List Loc → Prop} (hM : own_C l Z y bytes maxL ret [] rm as h Q) {W : Nat}
    {g : JFrame} (hg : g.method = m) (hsize : g.locals.size = c.maxLocals) {argsL rest : List Value} (hlen : ∀ sig, parseMethodDescriptor y.desc = some sig → argsL.length = sig.parameters.length)
    (hst : g.stack = argsL.reverse ++ rest) (has : argsL.toArray = as) (hW : 2 * g.monitorRoom + (rest.map fun v => v.category).sum ≤ W) (hd : decode c.code g.pc = .ok (.invokestatic index, 3)) (eT : T.heap = h)
    (hf : rm.frames + 1 ≤ R.frames) (hl : W + (maxL + 11) + rm.locals ≤ R.locals) (hc : cells + rm.cells ≤ R.cells) (hs : slots + rm.slots ≤ R.slots) :
    ∃ v T' L, Stand p l e R s m args below meth c T' (locs ++ L) (cells + rm.cells) (slots + rm.slots) ∧ Q v T'.heap L ∧ ∀ t, Steps p.tables e below (T'.setTop { g with pc := g.pc + 3, stack := v.toList ++ rest }) t → Steps p.tables e below (T.setTop g) t :=
  own_backS X hx hZ hown w1 w2 w3 w4 hy (backOf (W := W) hM hZ w4 w3 hf hl) hg hsize hlen hst has hW hd eT hc hs
theorem own_backI (X : Stand p l e R s m args below meth c T locs cells slots) (hx : p.tables.exec = Jvm.exec) (hZ : Z.Warmed39 s.vm) {own : String} (hown : s.vm.findClass own = some m.cls) {index : Nat} {y : MethodName} {bytes : ByteArray} {maxL : Nat} 
    (hy1 : y.name = "<init>") (w1 : (Jvm.Cond.methodLink own index y).before a0 Z = true) (w2 : (Jvm.Cond.instanceMethod y).before a0 Z = true) (w4 : (Jvm.Cond.code y bytes maxL none).before a0 Z = true) (w3 : (Jvm.Cond.initialized y.cls).before a0 Z = true) (hy : y.cls ≠ "java/lang/invoke/MethodHandle" ∧ y.cls ≠ "java/lang/invoke/VarHandle")
    {W kc ks : Nat} {as : Array Value} {Q : Option Value → Heap → List Loc → Prop} (hK : own_B l R p e below s args y W as h kc ks Q) 
    {g : JFrame} (hg : g.method = m) (hsize : g.locals.size = c.maxLocals) {a : Addr} {argsL rest : List Value} (hlen : ∀ sig, parseMethodDescriptor y.desc = some sig → argsL.length = sig.parameters.length)
    (hst : g.stack = argsL.reverse ++ .ref a :: rest) (has : (.ref a :: argsL).toArray = as) (hW : 2 * g.monitorRoom + (rest.map fun v => v.category).sum ≤ W) (hd : decode c.code g.pc = .ok (.invokespecial index, 3)) (eT : T.heap = h)
    (hc : cells + kc ≤ R.cells) (hs : slots + ks ≤ R.slots) :
    ∃ v T' L, Stand p l e R s m args below meth c T' (locs ++ L) (cells + kc) (slots + ks) ∧ Q v T'.heap L ∧ ∀ t, Steps p.tables e below (T'.setTop { g with pc := g.pc + 3, stack := v.toList ++ rest }) t → Steps p.tables e below (T.setTop g) t := by
  obtain ⟨v, vm1, ⟨T1, L1, k1, n1⟩, -, X1, ⟨Lc, hQ, l1, y1, z1⟩, st⟩ := X.specialBack hx (y := y) hy1 hown (mvT hZ w1) (mvT hZ w2) (mvT hZ w4) hy hK hg hsize (Steps.refl _) (a := a) (argsL := argsL) (rest := rest) hlen hst hW hd (fun _ _ => ⟨has, eT, hc, hs⟩)
  dsimp only [Pt.U, Pt.locs, Pt.cells, Pt.slots] at X1 l1 y1 z1 st hQ
  subst l1 y1 z1
  exact ⟨v, T1, Lc, X1, hQ, fun _ k => st.trans k⟩
theorem own_callI (X : Stand p l e R s m args below meth c T locs cells slots) (hx : p.tables.exec = Jvm.exec) (hZ : Z.Warmed39 s.vm) {own : String} (hown : s.vm.findClass own = some m.cls) {index : Nat} {y : MethodName} {bytes : ByteArray} {maxL : Nat} 
    (hy1 : y.name = "<init>") (w1 : (Jvm.Cond.methodLink own index y).before a0 Z = true) (w2 : (Jvm.Cond.instanceMethod y).before a0 Z = true) (w4 : (Jvm.Cond.code y bytes maxL none).before a0 Z = true) (w3 : (Jvm.Cond.initialized y.cls).before a0 Z = true) (hy : y.cls ≠ "java/lang/invoke/MethodHandle" ∧ y.cls ≠ "java/lang/invoke/VarHandle")
    {rm : Room} {as : Array Value} {Q : Option Value → Heap → List Loc → Prop} (hM : own_C l Z y bytes maxL none [] rm as h Q) {W : Nat}
    {g : JFrame} (hg : g.method = m) (hsize : g.locals.size = c.maxLocals) {a : Addr} {argsL rest : List Value} (hlen : ∀ sig, parseMethodDescriptor y.desc = some sig → argsL.length = sig.parameters.length)
    (hst : g.stack = argsL.reverse ++ .ref a :: rest) (has : (.ref a :: argsL).toArray = as) (hW : 2 * g.monitorRoom + (rest.map fun v => v.category).sum ≤ W) (hd : decode c.code g.pc = .ok (.invokespecial index, 3)) (eT : T.heap = h)
    (hf : rm.frames + 1 ≤ R.frames) (hl : W + (maxL + 11) + rm.locals ≤ R.locals) (hc : cells + rm.cells ≤ R.cells) (hs : slots + rm.slots ≤ R.slots) :
    ∃ v T' L, Stand p l e R s m args below meth c T' (locs ++ L) (cells + rm.cells) (slots + rm.slots) ∧ Q v T'.heap L ∧ ∀ t, Steps p.tables e below (T'.setTop { g with pc := g.pc + 3, stack := v.toList ++ rest }) t → Steps p.tables e below (T.setTop g) t :=
  own_backI X hx hZ hown hy1 w1 w2 w4 w3 hy (backOf (W := W) hM hZ w4 w3 hf hl) hg hsize hlen hst has hW hd eT hc hs
theorem own_backV (X : Stand p l e R s m args below meth c T locs cells slots) (hx : p.tables.exec = Jvm.exec) (hZ : Z.Warmed39 s.vm) {own C : String} (hown : s.vm.findClass own = some m.cls) {index : Nat} {y : MethodName} {bytes : ByteArray} {maxL : Nat} {ret : Option FieldType}
    (w1 : (Jvm.Cond.methodLink own index y).before a0 Z = true) (w2 : (Jvm.Cond.declares y).before a0 Z = true) (w5 : (Jvm.Cond.selects C y y).before a0 Z = true) (w6 : (Jvm.Cond.instanceMethod y).before a0 Z = true) (w4 : (Jvm.Cond.code y bytes maxL ret).before a0 Z = true) (w3 : (Jvm.Cond.initialized y.cls).before a0 Z = true) (hy : y.cls ≠ "java/lang/invoke/MethodHandle" ∧ y.cls ≠ "java/lang/invoke/VarHandle")
    {W kc ks : Nat} {as : Array Value} {Q : Option Value → Heap → List Loc → Prop} (hK : own_B l R p e below s args y W as h kc ks Q) {b : Addr} (hE : Exa Z h b C) 
    {g : JFrame} (hg : g.method = m) (hsize : g.locals.size = c.maxLocals) {argsL rest : List Value} (hlen : ∀ sig, parseMethodDescriptor y.desc = some sig → argsL.length = sig.parameters.length)
    (hst : g.stack = argsL.reverse ++ .ref b :: rest) (has : (.ref b :: argsL).toArray = as) (hW : 2 * g.monitorRoom + (rest.map fun v => v.category).sum ≤ W) (hd : decode c.code g.pc = .ok (.invokevirtual index, 3)) (eT : T.heap = h)
    (hc : cells + kc ≤ R.cells) (hs : slots + ks ≤ R.slots) :
    ∃ v T' L, Stand p l e R s m args below meth c T' (locs ++ L) (cells + kc) (slots + ks) ∧ Q v T'.heap L ∧ ∀ t, Steps p.tables e below (T'.setTop { g with pc := g.pc + 3, stack := v.toList ++ rest }) t → Steps p.tables e below (T.setTop g) t := by
  obtain ⟨cq, kq, qa, qb, qc⟩ := isOf hZ eT hE
  obtain ⟨v, vm1, ⟨T1, L1, k1, n1⟩, -, X1, ⟨Lc, hQ, l1, y1, z1⟩, st⟩ := X.virtualBack hx (y := y) (z := y) hown (mvT hZ w1) (mvT hZ w2) (notFace_of_selects (args := #[]) (mvT hZ w5)) (mvT hZ w5) (mvT hZ w6) hy hK qa qc hg hsize (Steps.refl _) (argsL := argsL) (rest := rest) hlen hst hW hd (fun _ _ => ⟨has, eT, hc, hs⟩)
  dsimp only [Pt.U, Pt.locs, Pt.cells, Pt.slots] at X1 l1 y1 z1 st hQ
  subst l1 y1 z1
  exact ⟨v, T1, Lc, X1, hQ, fun _ k => st.trans k⟩
theorem own_callV (X : Stand p l e R s m args below meth c T locs cells slots) (hx : p.tables.exec = Jvm.exec) (hZ : Z.Warmed39 s.vm) {own C : String} (hown : s.vm.findClass own = some m.cls) {index : Nat} {y : MethodName} {bytes : ByteArray} {maxL : Nat} {ret : Option FieldType}
    (w1 : (Jvm.Cond.methodLink own index y).before a0 Z = true) (w2 : (Jvm.Cond.declares y).before a0 Z = true) (w5 : (Jvm.Cond.selects C y y).before a0 Z = true) (w6 : (Jvm.Cond.instanceMethod y).before a0 Z = true) (w4 : (Jvm.Cond.code y bytes maxL ret).before a0 Z = true) (w3 : (Jvm.Cond.initialized y.cls).before a0 Z = true) (hy : y.cls ≠ "java/lang/invoke/MethodHandle" ∧ y.cls ≠ "java/lang/invoke/VarHandle")
    {rm : Room} {as : Array Value} {Q : Option Value → Heap → List Loc → Prop} (hM : own_C l Z y bytes maxL ret [] rm as h Q) {b : Addr} (hE : Exa Z h b C) {W : Nat}
    {g : JFrame} (hg : g.method = m) (hsize : g.locals.size = c.maxLocals) {argsL rest : List Value} (hlen : ∀ sig, parseMethodDescriptor y.desc = some sig → argsL.length = sig.parameters.length)
    (hst : g.stack = argsL.reverse ++ .ref b :: rest) (has : (.ref b :: argsL).toArray = as) (hW : 2 * g.monitorRoom + (rest.map fun v => v.category).sum ≤ W) (hd : decode c.code g.pc = .ok (.invokevirtual index, 3)) (eT : T.heap = h)
    (hf : rm.frames + 1 ≤ R.frames) (hl : W + (maxL + 11) + rm.locals ≤ R.locals) (hc : cells + rm.cells ≤ R.cells) (hs : slots + rm.slots ≤ R.slots) :
    ∃ v T' L, Stand p l e R s m args below meth c T' (locs ++ L) (cells + rm.cells) (slots + rm.slots) ∧ Q v T'.heap L ∧ ∀ t, Steps p.tables e below (T'.setTop { g with pc := g.pc + 3, stack := v.toList ++ rest }) t → Steps p.tables e below (T.setTop g) t :=
  own_backV X hx hZ hown w1 w2 w5 w6 w4 w3 hy (backOf (W := W) hM hZ w4 w3 hf hl) hE hg hsize hlen hst has hW hd eT hc hs
end OwnKit

theorem d1_0 : decode method_3_code 0 = .ok (.iload_n 0, 1) := by decide +kernel
theorem d1_1 : decode method_3_code 1 = .ok (.iconst 3, 1) := by decide +kernel
theorem d1_2 : decode method_3_code 2 = .ok (.iand, 1) := by decide +kernel
theorem d1_3 : decode method_3_code 3 = .ok (.istore_n 1, 1) := by decide +kernel
theorem d1_4 : decode method_3_code 4 = .ok (.iload_n 1, 1) := by decide +kernel
theorem d1_5 : decode method_3_code 5 = .ok (.ifCond .ne 7, 3) := by decide +kernel
theorem d1_8 : decode method_3_code 8 = .ok (.getstatic 27, 3) := by decide +kernel
theorem d1_11 : decode method_3_code 11 = .ok (.areturn, 1) := by decide +kernel
theorem d1_12 : decode method_3_code 12 = .ok (.iload_n 1, 1) := by decide +kernel
theorem d1_13 : decode method_3_code 13 = .ok (.iconst 1, 1) := by decide +kernel
theorem d1_14 : decode method_3_code 14 = .ok (.if_icmp .ne 7, 3) := by decide +kernel
theorem d1_17 : decode method_3_code 17 = .ok (.getstatic 37, 3) := by decide +kernel
theorem d1_20 : decode method_3_code 20 = .ok (.areturn, 1) := by decide +kernel
theorem d1_21 : decode method_3_code 21 = .ok (.iload_n 1, 1) := by decide +kernel
theorem d1_22 : decode method_3_code 22 = .ok (.iconst 2, 1) := by decide +kernel
theorem d1_23 : decode method_3_code 23 = .ok (.if_icmp .ne 7, 3) := by decide +kernel
theorem d1_26 : decode method_3_code 26 = .ok (.getstatic 40, 3) := by decide +kernel
theorem d1_29 : decode method_3_code 29 = .ok (.areturn, 1) := by decide +kernel
theorem d1_30 : decode method_3_code 30 = .ok (.aconst_null, 1) := by decide +kernel
theorem d1_31 : decode method_3_code 31 = .ok (.areturn, 1) := by decide +kernel

theorem d2_0 : decode method_5_code 0 = .ok (.iload_n 0, 1) := by decide +kernel
theorem d2_1 : decode method_5_code 1 = .ok (.lload_n 1, 1) := by decide +kernel
theorem d2_2 : decode method_5_code 2 = .ok (.iconst 0, 1) := by decide +kernel
theorem d2_3 : decode method_5_code 3 = .ok (.bipush 117, 2) := by decide +kernel
theorem d2_5 : decode method_5_code 5 = .ok (.invokestatic 45, 3) := by decide +kernel
theorem d2_8 : decode method_5_code 8 = .ok (.istore_n 3, 1) := by decide +kernel
theorem d2_9 : decode method_5_code 9 = .ok (.iload_n 0, 1) := by decide +kernel
theorem d2_10 : decode method_5_code 10 = .ok (.lload_n 1, 1) := by decide +kernel
theorem d2_11 : decode method_5_code 11 = .ok (.iconst 1, 1) := by decide +kernel
theorem d2_12 : decode method_5_code 12 = .ok (.bipush 112, 2) := by decide +kernel
theorem d2_14 : decode method_5_code 14 = .ok (.invokestatic 45, 3) := by decide +kernel
theorem d2_17 : decode method_5_code 17 = .ok (.istore 4, 2) := by decide +kernel
theorem d2_19 : decode method_5_code 19 = .ok (.iload_n 0, 1) := by decide +kernel
theorem d2_20 : decode method_5_code 20 = .ok (.lload_n 1, 1) := by decide +kernel
theorem d2_21 : decode method_5_code 21 = .ok (.iconst 2, 1) := by decide +kernel
theorem d2_22 : decode method_5_code 22 = .ok (.bipush 100, 2) := by decide +kernel
theorem d2_24 : decode method_5_code 24 = .ok (.invokestatic 45, 3) := by decide +kernel
theorem d2_27 : decode method_5_code 27 = .ok (.istore 5, 2) := by decide +kernel
theorem d2_29 : decode method_5_code 29 = .ok (.iload_n 0, 1) := by decide +kernel
theorem d2_30 : decode method_5_code 30 = .ok (.lload_n 1, 1) := by decide +kernel
theorem d2_31 : decode method_5_code 31 = .ok (.iconst 3, 1) := by decide +kernel
theorem d2_32 : decode method_5_code 32 = .ok (.bipush 97, 2) := by decide +kernel
theorem d2_34 : decode method_5_code 34 = .ok (.invokestatic 45, 3) := by decide +kernel
theorem d2_37 : decode method_5_code 37 = .ok (.istore 6, 2) := by decide +kernel
theorem d2_39 : decode method_5_code 39 = .ok (.iload_n 0, 1) := by decide +kernel
theorem d2_40 : decode method_5_code 40 = .ok (.lload_n 1, 1) := by decide +kernel
theorem d2_41 : decode method_5_code 41 = .ok (.iconst 4, 1) := by decide +kernel
theorem d2_42 : decode method_5_code 42 = .ok (.bipush 116, 2) := by decide +kernel
theorem d2_44 : decode method_5_code 44 = .ok (.invokestatic 45, 3) := by decide +kernel
theorem d2_47 : decode method_5_code 47 = .ok (.istore 7, 2) := by decide +kernel
theorem d2_49 : decode method_5_code 49 = .ok (.iload_n 0, 1) := by decide +kernel
theorem d2_50 : decode method_5_code 50 = .ok (.lload_n 1, 1) := by decide +kernel
theorem d2_51 : decode method_5_code 51 = .ok (.iconst 5, 1) := by decide +kernel
theorem d2_52 : decode method_5_code 52 = .ok (.bipush 101, 2) := by decide +kernel
theorem d2_54 : decode method_5_code 54 = .ok (.invokestatic 45, 3) := by decide +kernel
theorem d2_57 : decode method_5_code 57 = .ok (.istore 8, 2) := by decide +kernel
theorem d2_59 : decode method_5_code 59 = .ok (.lload_n 1, 1) := by decide +kernel
theorem d2_60 : decode method_5_code 60 = .ok (.bipush 48, 2) := by decide +kernel
theorem d2_62 : decode method_5_code 62 = .ok (.lushr, 1) := by decide +kernel
theorem d2_63 : decode method_5_code 63 = .ok (.ldc2_w 43, 3) := by decide +kernel
theorem d2_66 : decode method_5_code 66 = .ok (.land, 1) := by decide +kernel
theorem d2_67 : decode method_5_code 67 = .ok (.l2i, 1) := by decide +kernel
theorem d2_68 : decode method_5_code 68 = .ok (.i2c, 1) := by decide +kernel
theorem d2_69 : decode method_5_code 69 = .ok (.istore 9, 2) := by decide +kernel
theorem d2_71 : decode method_5_code 71 = .ok (.iload_n 0, 1) := by decide +kernel
theorem d2_72 : decode method_5_code 72 = .ok (.bipush 6, 2) := by decide +kernel
theorem d2_74 : decode method_5_code 74 = .ok (.iushr, 1) := by decide +kernel
theorem d2_75 : decode method_5_code 75 = .ok (.iconst 3, 1) := by decide +kernel
theorem d2_76 : decode method_5_code 76 = .ok (.iand, 1) := by decide +kernel
theorem d2_77 : decode method_5_code 77 = .ok (.istore 10, 2) := by decide +kernel
theorem d2_79 : decode method_5_code 79 = .ok (.iload 10, 2) := by decide +kernel
theorem d2_81 : decode method_5_code 81 = .ok (.ifCond .ne 38, 3) := by decide +kernel
theorem d2_84 : decode method_5_code 84 = .ok (.new 49, 3) := by decide +kernel
theorem d2_87 : decode method_5_code 87 = .ok (.dup, 1) := by decide +kernel
theorem d2_88 : decode method_5_code 88 = .ok (.iconst 5, 1) := by decide +kernel
theorem d2_89 : decode method_5_code 89 = .ok (.newarray .char, 2) := by decide +kernel
theorem d2_91 : decode method_5_code 91 = .ok (.dup, 1) := by decide +kernel
theorem d2_92 : decode method_5_code 92 = .ok (.iconst 0, 1) := by decide +kernel
theorem d2_93 : decode method_5_code 93 = .ok (.iload_n 3, 1) := by decide +kernel
theorem d2_94 : decode method_5_code 94 = .ok (.castore, 1) := by decide +kernel
theorem d2_95 : decode method_5_code 95 = .ok (.dup, 1) := by decide +kernel
theorem d2_96 : decode method_5_code 96 = .ok (.iconst 1, 1) := by decide +kernel
theorem d2_97 : decode method_5_code 97 = .ok (.iload 4, 2) := by decide +kernel
theorem d2_99 : decode method_5_code 99 = .ok (.castore, 1) := by decide +kernel
theorem d2_100 : decode method_5_code 100 = .ok (.dup, 1) := by decide +kernel
theorem d2_101 : decode method_5_code 101 = .ok (.iconst 2, 1) := by decide +kernel
theorem d2_102 : decode method_5_code 102 = .ok (.iload 5, 2) := by decide +kernel
theorem d2_104 : decode method_5_code 104 = .ok (.castore, 1) := by decide +kernel
theorem d2_105 : decode method_5_code 105 = .ok (.dup, 1) := by decide +kernel
theorem d2_106 : decode method_5_code 106 = .ok (.iconst 3, 1) := by decide +kernel
theorem d2_107 : decode method_5_code 107 = .ok (.iload 6, 2) := by decide +kernel
theorem d2_109 : decode method_5_code 109 = .ok (.castore, 1) := by decide +kernel
theorem d2_110 : decode method_5_code 110 = .ok (.dup, 1) := by decide +kernel
theorem d2_111 : decode method_5_code 111 = .ok (.iconst 4, 1) := by decide +kernel
theorem d2_112 : decode method_5_code 112 = .ok (.iload 7, 2) := by decide +kernel
theorem d2_114 : decode method_5_code 114 = .ok (.castore, 1) := by decide +kernel
theorem d2_115 : decode method_5_code 115 = .ok (.invokespecial 51, 3) := by decide +kernel
theorem d2_118 : decode method_5_code 118 = .ok (.areturn, 1) := by decide +kernel
theorem d2_119 : decode method_5_code 119 = .ok (.iload 10, 2) := by decide +kernel
theorem d2_121 : decode method_5_code 121 = .ok (.iconst 3, 1) := by decide +kernel
theorem d2_122 : decode method_5_code 122 = .ok (.if_icmp .ne 50, 3) := by decide +kernel
theorem d2_125 : decode method_5_code 125 = .ok (.new 49, 3) := by decide +kernel
theorem d2_128 : decode method_5_code 128 = .ok (.dup, 1) := by decide +kernel
theorem d2_129 : decode method_5_code 129 = .ok (.bipush 7, 2) := by decide +kernel
theorem d2_131 : decode method_5_code 131 = .ok (.newarray .char, 2) := by decide +kernel
theorem d2_133 : decode method_5_code 133 = .ok (.dup, 1) := by decide +kernel
theorem d2_134 : decode method_5_code 134 = .ok (.iconst 0, 1) := by decide +kernel
theorem d2_135 : decode method_5_code 135 = .ok (.iload_n 3, 1) := by decide +kernel
theorem d2_136 : decode method_5_code 136 = .ok (.castore, 1) := by decide +kernel
theorem d2_137 : decode method_5_code 137 = .ok (.dup, 1) := by decide +kernel
theorem d2_138 : decode method_5_code 138 = .ok (.iconst 1, 1) := by decide +kernel
theorem d2_139 : decode method_5_code 139 = .ok (.iload 4, 2) := by decide +kernel
theorem d2_141 : decode method_5_code 141 = .ok (.castore, 1) := by decide +kernel
theorem d2_142 : decode method_5_code 142 = .ok (.dup, 1) := by decide +kernel
theorem d2_143 : decode method_5_code 143 = .ok (.iconst 2, 1) := by decide +kernel
theorem d2_144 : decode method_5_code 144 = .ok (.iload 5, 2) := by decide +kernel
theorem d2_146 : decode method_5_code 146 = .ok (.castore, 1) := by decide +kernel
theorem d2_147 : decode method_5_code 147 = .ok (.dup, 1) := by decide +kernel
theorem d2_148 : decode method_5_code 148 = .ok (.iconst 3, 1) := by decide +kernel
theorem d2_149 : decode method_5_code 149 = .ok (.iload 6, 2) := by decide +kernel
theorem d2_151 : decode method_5_code 151 = .ok (.castore, 1) := by decide +kernel
theorem d2_152 : decode method_5_code 152 = .ok (.dup, 1) := by decide +kernel
theorem d2_153 : decode method_5_code 153 = .ok (.iconst 4, 1) := by decide +kernel
theorem d2_154 : decode method_5_code 154 = .ok (.iload 7, 2) := by decide +kernel
theorem d2_156 : decode method_5_code 156 = .ok (.castore, 1) := by decide +kernel
theorem d2_157 : decode method_5_code 157 = .ok (.dup, 1) := by decide +kernel
theorem d2_158 : decode method_5_code 158 = .ok (.iconst 5, 1) := by decide +kernel
theorem d2_159 : decode method_5_code 159 = .ok (.iload 8, 2) := by decide +kernel
theorem d2_161 : decode method_5_code 161 = .ok (.castore, 1) := by decide +kernel
theorem d2_162 : decode method_5_code 162 = .ok (.dup, 1) := by decide +kernel
theorem d2_163 : decode method_5_code 163 = .ok (.bipush 6, 2) := by decide +kernel
theorem d2_165 : decode method_5_code 165 = .ok (.iload 9, 2) := by decide +kernel
theorem d2_167 : decode method_5_code 167 = .ok (.castore, 1) := by decide +kernel
theorem d2_168 : decode method_5_code 168 = .ok (.invokespecial 51, 3) := by decide +kernel
theorem d2_171 : decode method_5_code 171 = .ok (.areturn, 1) := by decide +kernel
theorem d2_172 : decode method_5_code 172 = .ok (.new 49, 3) := by decide +kernel
theorem d2_175 : decode method_5_code 175 = .ok (.dup, 1) := by decide +kernel
theorem d2_176 : decode method_5_code 176 = .ok (.bipush 6, 2) := by decide +kernel
theorem d2_178 : decode method_5_code 178 = .ok (.newarray .char, 2) := by decide +kernel
theorem d2_180 : decode method_5_code 180 = .ok (.dup, 1) := by decide +kernel
theorem d2_181 : decode method_5_code 181 = .ok (.iconst 0, 1) := by decide +kernel
theorem d2_182 : decode method_5_code 182 = .ok (.iload_n 3, 1) := by decide +kernel
theorem d2_183 : decode method_5_code 183 = .ok (.castore, 1) := by decide +kernel
theorem d2_184 : decode method_5_code 184 = .ok (.dup, 1) := by decide +kernel
theorem d2_185 : decode method_5_code 185 = .ok (.iconst 1, 1) := by decide +kernel
theorem d2_186 : decode method_5_code 186 = .ok (.iload 4, 2) := by decide +kernel
theorem d2_188 : decode method_5_code 188 = .ok (.castore, 1) := by decide +kernel
theorem d2_189 : decode method_5_code 189 = .ok (.dup, 1) := by decide +kernel
theorem d2_190 : decode method_5_code 190 = .ok (.iconst 2, 1) := by decide +kernel
theorem d2_191 : decode method_5_code 191 = .ok (.iload 5, 2) := by decide +kernel
theorem d2_193 : decode method_5_code 193 = .ok (.castore, 1) := by decide +kernel
theorem d2_194 : decode method_5_code 194 = .ok (.dup, 1) := by decide +kernel
theorem d2_195 : decode method_5_code 195 = .ok (.iconst 3, 1) := by decide +kernel
theorem d2_196 : decode method_5_code 196 = .ok (.iload 6, 2) := by decide +kernel
theorem d2_198 : decode method_5_code 198 = .ok (.castore, 1) := by decide +kernel
theorem d2_199 : decode method_5_code 199 = .ok (.dup, 1) := by decide +kernel
theorem d2_200 : decode method_5_code 200 = .ok (.iconst 4, 1) := by decide +kernel
theorem d2_201 : decode method_5_code 201 = .ok (.iload 7, 2) := by decide +kernel
theorem d2_203 : decode method_5_code 203 = .ok (.castore, 1) := by decide +kernel
theorem d2_204 : decode method_5_code 204 = .ok (.dup, 1) := by decide +kernel
theorem d2_205 : decode method_5_code 205 = .ok (.iconst 5, 1) := by decide +kernel
theorem d2_206 : decode method_5_code 206 = .ok (.iload 8, 2) := by decide +kernel
theorem d2_208 : decode method_5_code 208 = .ok (.castore, 1) := by decide +kernel
theorem d2_209 : decode method_5_code 209 = .ok (.invokespecial 51, 3) := by decide +kernel
theorem d2_212 : decode method_5_code 212 = .ok (.areturn, 1) := by decide +kernel

theorem d3_0 : decode method_4_code 0 = .ok (.iload_n 0, 1) := by decide +kernel
theorem d3_1 : decode method_4_code 1 = .ok (.iload_n 3, 1) := by decide +kernel
theorem d3_2 : decode method_4_code 2 = .ok (.iushr, 1) := by decide +kernel
theorem d3_3 : decode method_4_code 3 = .ok (.iconst 1, 1) := by decide +kernel
theorem d3_4 : decode method_4_code 4 = .ok (.iand, 1) := by decide +kernel
theorem d3_5 : decode method_4_code 5 = .ok (.ifCond .eq 16, 3) := by decide +kernel
theorem d3_8 : decode method_4_code 8 = .ok (.lload_n 1, 1) := by decide +kernel
theorem d3_9 : decode method_4_code 9 = .ok (.bipush 8, 2) := by decide +kernel
theorem d3_11 : decode method_4_code 11 = .ok (.iload_n 3, 1) := by decide +kernel
theorem d3_12 : decode method_4_code 12 = .ok (.imul, 1) := by decide +kernel
theorem d3_13 : decode method_4_code 13 = .ok (.lushr, 1) := by decide +kernel
theorem d3_14 : decode method_4_code 14 = .ok (.ldc2_w 43, 3) := by decide +kernel
theorem d3_17 : decode method_4_code 17 = .ok (.land, 1) := by decide +kernel
theorem d3_18 : decode method_4_code 18 = .ok (.l2i, 1) := by decide +kernel
theorem d3_19 : decode method_4_code 19 = .ok (.i2c, 1) := by decide +kernel
theorem d3_20 : decode method_4_code 20 = .ok (.ireturn, 1) := by decide +kernel
theorem d3_21 : decode method_4_code 21 = .ok (.iload 4, 2) := by decide +kernel
theorem d3_23 : decode method_4_code 23 = .ok (.ireturn, 1) := by decide +kernel

theorem d10_0 : decode prog_25_method_7_code 0 = .ok (.aload_n 0, 1) := by decide +kernel
theorem d10_1 : decode prog_25_method_7_code 1 = .ok (.getfield 33, 3) := by decide +kernel
theorem d10_4 : decode prog_25_method_7_code 4 = .ok (.aload_n 1, 1) := by decide +kernel
theorem d10_5 : decode prog_25_method_7_code 5 = .ok (.if_acmp .ne 29, 3) := by decide +kernel
theorem d10_8 : decode prog_25_method_7_code 8 = .ok (.aload_n 0, 1) := by decide +kernel
theorem d10_9 : decode prog_25_method_7_code 9 = .ok (.getfield 37, 3) := by decide +kernel
theorem d10_12 : decode prog_25_method_7_code 12 = .ok (.aload_n 2, 1) := by decide +kernel
theorem d10_13 : decode prog_25_method_7_code 13 = .ok (.invokevirtual 43, 3) := by decide +kernel
theorem d10_16 : decode prog_25_method_7_code 16 = .ok (.ifCond .eq 18, 3) := by decide +kernel
theorem d10_19 : decode prog_25_method_7_code 19 = .ok (.aload_n 0, 1) := by decide +kernel
theorem d10_20 : decode prog_25_method_7_code 20 = .ok (.getfield 40, 3) := by decide +kernel
theorem d10_23 : decode prog_25_method_7_code 23 = .ok (.aload_n 3, 1) := by decide +kernel
theorem d10_24 : decode prog_25_method_7_code 24 = .ok (.invokevirtual 43, 3) := by decide +kernel
theorem d10_27 : decode prog_25_method_7_code 27 = .ok (.ifCond .eq 7, 3) := by decide +kernel
theorem d10_30 : decode prog_25_method_7_code 30 = .ok (.iconst 1, 1) := by decide +kernel
theorem d10_31 : decode prog_25_method_7_code 31 = .ok (.goto 4, 3) := by decide +kernel
theorem d10_34 : decode prog_25_method_7_code 34 = .ok (.iconst 0, 1) := by decide +kernel
theorem d10_35 : decode prog_25_method_7_code 35 = .ok (.ireturn, 1) := by decide +kernel

theorem d13_0 : decode method_6_code 0 = .ok (.aload_n 0, 1) := by decide +kernel
theorem d13_1 : decode method_6_code 1 = .ok (.invokevirtual 54, 3) := by decide +kernel
theorem d13_4 : decode method_6_code 4 = .ok (.bipush 6, 2) := by decide +kernel
theorem d13_6 : decode method_6_code 6 = .ok (.if_icmp .ne 67, 3) := by decide +kernel
theorem d13_9 : decode method_6_code 9 = .ok (.aload_n 0, 1) := by decide +kernel
theorem d13_10 : decode method_6_code 10 = .ok (.iconst 0, 1) := by decide +kernel
theorem d13_11 : decode method_6_code 11 = .ok (.invokevirtual 58, 3) := by decide +kernel
theorem d13_14 : decode method_6_code 14 = .ok (.bipush 117, 2) := by decide +kernel
theorem d13_16 : decode method_6_code 16 = .ok (.if_icmp .ne 57, 3) := by decide +kernel
theorem d13_19 : decode method_6_code 19 = .ok (.aload_n 0, 1) := by decide +kernel
theorem d13_20 : decode method_6_code 20 = .ok (.iconst 1, 1) := by decide +kernel
theorem d13_21 : decode method_6_code 21 = .ok (.invokevirtual 58, 3) := by decide +kernel
theorem d13_24 : decode method_6_code 24 = .ok (.bipush 112, 2) := by decide +kernel
theorem d13_26 : decode method_6_code 26 = .ok (.if_icmp .ne 47, 3) := by decide +kernel
theorem d13_29 : decode method_6_code 29 = .ok (.aload_n 0, 1) := by decide +kernel
theorem d13_30 : decode method_6_code 30 = .ok (.iconst 2, 1) := by decide +kernel
theorem d13_31 : decode method_6_code 31 = .ok (.invokevirtual 58, 3) := by decide +kernel
theorem d13_34 : decode method_6_code 34 = .ok (.bipush 100, 2) := by decide +kernel
theorem d13_36 : decode method_6_code 36 = .ok (.if_icmp .ne 37, 3) := by decide +kernel
theorem d13_39 : decode method_6_code 39 = .ok (.aload_n 0, 1) := by decide +kernel
theorem d13_40 : decode method_6_code 40 = .ok (.iconst 3, 1) := by decide +kernel
theorem d13_41 : decode method_6_code 41 = .ok (.invokevirtual 58, 3) := by decide +kernel
theorem d13_44 : decode method_6_code 44 = .ok (.bipush 97, 2) := by decide +kernel
theorem d13_46 : decode method_6_code 46 = .ok (.if_icmp .ne 27, 3) := by decide +kernel
theorem d13_49 : decode method_6_code 49 = .ok (.aload_n 0, 1) := by decide +kernel
theorem d13_50 : decode method_6_code 50 = .ok (.iconst 4, 1) := by decide +kernel
theorem d13_51 : decode method_6_code 51 = .ok (.invokevirtual 58, 3) := by decide +kernel
theorem d13_54 : decode method_6_code 54 = .ok (.bipush 116, 2) := by decide +kernel
theorem d13_56 : decode method_6_code 56 = .ok (.if_icmp .ne 17, 3) := by decide +kernel
theorem d13_59 : decode method_6_code 59 = .ok (.aload_n 0, 1) := by decide +kernel
theorem d13_60 : decode method_6_code 60 = .ok (.iconst 5, 1) := by decide +kernel
theorem d13_61 : decode method_6_code 61 = .ok (.invokevirtual 58, 3) := by decide +kernel
theorem d13_64 : decode method_6_code 64 = .ok (.bipush 101, 2) := by decide +kernel
theorem d13_66 : decode method_6_code 66 = .ok (.if_icmp .ne 7, 3) := by decide +kernel
theorem d13_69 : decode method_6_code 69 = .ok (.iconst 1, 1) := by decide +kernel
theorem d13_70 : decode method_6_code 70 = .ok (.goto 4, 3) := by decide +kernel
theorem d13_73 : decode method_6_code 73 = .ok (.iconst 0, 1) := by decide +kernel
theorem d13_74 : decode method_6_code 74 = .ok (.ireturn, 1) := by decide +kernel

theorem pn_0 : plainFor x = true := by first | exact plainFor_of_name (by first | (simp [plainName, overriddenIn]; done) | decide +kernel) | decide +kernel

theorem pn_1 : plainFor (⟨"com/example/registrum/registrum/protocol/ExtensionExtendsCommandPinLaw", "pick", "(I)Lcom/example/registrum/registrum/protocol/Epp$Mapping;"⟩ : MethodName) = true := by first | exact plainFor_of_name (by first | (simp [plainName, overriddenIn]; done) | decide +kernel) | decide +kernel

theorem pn_2 : plainFor (⟨"com/example/registrum/registrum/protocol/ExtensionExtendsCommandPinLaw", "make", "(IJ)Ljava/lang/String;"⟩ : MethodName) = true := by first | exact plainFor_of_name (by first | (simp [plainName, overriddenIn]; done) | decide +kernel) | decide +kernel

theorem pn_3 : plainFor (⟨"com/example/registrum/registrum/protocol/ExtensionExtendsCommandPinLaw", "at", "(IJIC)C"⟩ : MethodName) = true := by first | exact plainFor_of_name (by first | (simp [plainName, overriddenIn]; done) | decide +kernel) | decide +kernel

theorem pn_10 : plainFor (⟨"com/example/registrum/registrum/protocol/Epp$Extension", "extendsCommand", "(Lcom/example/registrum/registrum/protocol/Epp$Mapping;Ljava/lang/String;Ljava/lang/String;)Z"⟩ : MethodName) = true := by first | exact plainFor_of_name (by first | (simp [plainName, overriddenIn]; done) | decide +kernel) | decide +kernel

theorem pn_13 : plainFor (⟨"com/example/registrum/registrum/protocol/ExtensionExtendsCommandPinLaw", "isUpdate", "(Ljava/lang/String;)Z"⟩ : MethodName) = true := by first | exact plainFor_of_name (by first | (simp [plainName, overriddenIn]; done) | decide +kernel) | decide +kernel

theorem pd__I_Lcom_example_registrum_registrum_protocol_Epp_Mapping_ : parseMethodDescriptor "(I)Lcom/example/registrum/registrum/protocol/Epp$Mapping;" = some ⟨[.int], some (.object "com/example/registrum/registrum/protocol/Epp$Mapping")⟩ := by decide +kernel
theorem pd__IJ_Ljava_lang_String_ : parseMethodDescriptor "(IJ)Ljava/lang/String;" = some ⟨[.int, .long], some (.object "java/lang/String")⟩ := by decide +kernel
theorem pd__IJIC_C : parseMethodDescriptor "(IJIC)C" = some ⟨[.int, .long, .int, .char], some .char⟩ := by decide +kernel
theorem pd___C_V : parseMethodDescriptor "([C)V" = some ⟨[(.array .char)], none⟩ := by decide +kernel
theorem pd___I : parseMethodDescriptor "()I" = some ⟨[], some .int⟩ := by decide +kernel
theorem pd__I_C : parseMethodDescriptor "(I)C" = some ⟨[.int], some .char⟩ := by decide +kernel
theorem pd__Ljava_lang_Object__Z : parseMethodDescriptor "(Ljava/lang/Object;)Z" = some ⟨[(.object "java/lang/Object")], some .boolean⟩ := by decide +kernel
theorem pd__Ljava_lang_String__Z : parseMethodDescriptor "(Ljava/lang/String;)Z" = some ⟨[(.object "java/lang/String")], some .boolean⟩ := by decide +kernel
theorem pd__Lcom_example_registrum_registrum_protocol_Epp_Mapping_Ljava_lang_String_Ljava_lang_String__Z : parseMethodDescriptor "(Lcom/example/registrum/registrum/protocol/Epp$Mapping;Ljava/lang/String;Ljava/lang/String;)Z" = some ⟨[(.object "com/example/registrum/registrum/protocol/Epp$Mapping"), (.object "java/lang/String"), (.object "java/lang/String")], some .boolean⟩ := by decide +kernel

def own_Qr (r : Option Value) (h0 : Heap) (n0 : Nat) (v : Option Value) (h : Heap) (L : List Loc) : Prop := v = r ∧ Fr n0 L ∧ h = h0
/-- a sign of Latin-1 -/
def own_ch (c : Int32) : Prop := ¬ c < 0 ∧ ¬ (255 : Int32) < c
theorem own_ch_iff (c : Int32) : own_ch c ↔ 0 ≤ c.toInt ∧ c.toInt ≤ 255 := by
  unfold own_ch
  rw [Int32.lt_iff_toInt_lt, Int32.lt_iff_toInt_lt, show (0 : Int32).toInt = 0 from rfl, show (255 : Int32).toInt = 255 from rfl]
  omega
theorem own_i2c {c : Int32} (h : own_ch c) : c.toUInt32.toUInt16.toUInt32.toInt32 = c := by
  rw [own_ch_iff] at h
  have q := c_i2c c
  apply Int32.toInt_inj.mp
  omega
theorem own_nar {c : Int32} (h : own_ch c) : nar .char c = c := own_i2c h
theorem own_low (x : Int64) : own_ch ((x &&& (255 : Int64)).toInt32) := by
  rw [own_ch_iff]
  have q1 := c_maskL x 255 8 (by decide) (by decide)
  have q2 := c_l2i (x &&& (255 : Int64))
  have q3 := rng32 ((x &&& (255 : Int64)).toInt32)
  rw [show ((2 ^ 8 : Nat) : Int) = 256 from rfl] at q1
  omega
theorem own_low2 (x : Int64) : own_ch ((x &&& (255 : Int64)).toInt32.toUInt32.toUInt16.toUInt32.toInt32) := by rw [own_i2c (own_low x)]; exact own_low x
/-- a String of these signs -/
def own_S (Z : State) (h : Heap) (x : Addr) (cs : List Int32) : Prop := ∃ (t : Addr) (kb : ClassId), Exa Z h x "java/lang/String" ∧ Fld Z h x "java/lang/String" "value" "[B" (.ref t) ∧ Fld Z h x "java/lang/String" "coder" "B" (.int 0) ∧ Arv Z h t kb .byte (Int32.ofNat cs.length) ((cs.map fun c => c.toInt8.toInt32).map Value.int) (.int 0) ∧ (∀ c ∈ cs, own_ch c) ∧ cs.length ≤ 4000
theorem own_S.keep {Z : State} {h h' : Heap} {x : Addr} {cs : List Int32} (S : own_S Z h x cs) (K : Keep h h' []) : own_S Z h' x cs := by
  obtain ⟨t, kb, E, V, C, A, q⟩ := S
  exact ⟨t, kb, E.keep K, V.keep K nin0, C.keep K nin0, A.keep K nin0, q⟩
theorem own_S.ext {Z : State} {h h' : Heap} {x : Addr} {cs : List Int32} (S : own_S Z h x cs) (K : Ext h h') : own_S Z h' x cs := by
  obtain ⟨t, kb, E, V, C, A, q⟩ := S
  exact ⟨t, kb, E.ext K, V.ext K, C.ext K, A.ext K, q⟩
theorem own_up {cs : List Int32} (h : ∀ c ∈ cs, own_ch c) : ∀ c ∈ cs, ¬ c < 0 ∧ ¬ (65535 : Int32) < c := fun c hc => ⟨(h c hc).1, fun q => (h c hc).2 (by rw [Int32.lt_iff_toInt_lt] at q ⊢; have e1 : (65535 : Int32).toInt = 65535 := rfl; have e2 : (255 : Int32).toInt = 255 := rfl; omega)⟩
def own_U : List Int32 := [117, 112, 100, 97, 116, 101]
theorem own_is {cs : List Int32} (hl : cs.length = 6) (h0 : cs.getD 0 0 = 117) (h1 : cs.getD 1 0 = 112) (h2 : cs.getD 2 0 = 100) (h3 : cs.getD 3 0 = 97) (h4 : cs.getD 4 0 = 116) (h5 : cs.getD 5 0 = 101) : cs = own_U := by
  match cs, hl with
  | [a, b, c, d, e, f], _ =>
    simp only [List.getD_cons_zero, List.getD_cons_succ] at h0 h1 h2 h3 h4 h5
    subst h0 h1 h2 h3 h4 h5
    rfl
theorem own_len6 {cs : List Int32} (h : cs.length ≤ 4000) : Int32.ofNat cs.length = 6 ↔ cs.length = 6 := by
  constructor
  · intro q
    have := congrArg Int32.toInt q
    rw [show (Int32.ofNat cs.length).toInt = cs.length from len_toInt (by omega), show (6 : Int32).toInt = 6 from rfl] at this
    omega
  · intro q; rw [q]; rfl
theorem own_ne {cs : List Int32} (i : Nat) (c : Int32) (hu : own_U.getD i 0 = c) (h : ¬ cs.getD i 0 = c) : ¬ cs = own_U := fun q => h (by rw [q]; exact hu)
def own_b (p : Prop) [Decidable p] : Int32 := if p then 1 else 0
def own_Qc (h0 : Heap) (n0 : Nat) (v : Option Value) (h : Heap) (L : List Loc) : Prop := ∃ c, v = some (.int c) ∧ own_ch c ∧ Fr n0 L ∧ h = h0
set_option maxRecDepth 65536 in
set_option maxHeartbeats 4000000 in
theorem rmAt (l : Launch) (Z : State) (a0 : Array Value) (hw : ∀ d ∈ tables_1, d.before a0 Z = true) (ws : List Jvm.Cond) (h0 : Heap) (n0 : Nat) (ct : Int32) (dr : Int64) (i b : Int32) (hbs : own_ch b) :
    own_C l Z (⟨"com/example/registrum/registrum/protocol/ExtensionExtendsCommandPinLaw", "at", "(IJIC)C"⟩ : MethodName) method_4_code 5 (some .char) ws ({ frames := 0, cells := 0, slots := 0, locals := 0 } : Room) #[(.int ct), (.long dr), (.int i), (.int b)] h0 (own_Qc h0 n0) := by
  refine own_body (ls := #[.val (.int ct), .val (.long dr), .second, .val (.int i), .val (.int b)]) pn_3 (fun m => by first | (simp [entryFrame, mkF, argsToLocals, Value.category]; done) | rfl) ?_
  intro p e s m below meth c T0 hZ hx hby hml hown hnm hret hlk X0 e0
  replace hml : c.maxLocals = 5 := hml
  have N0 := Fr.nil n0
  refine own_go (fun _ => XS.iloadN X0.here hx rfl (hb hby d3_0) rfl ) ?_
  show own_R p.tables e below _ T0 (mkF m 1 #[.val (.int ct), .val (.long dr), .second, .val (.int i), .val (.int b)] [(.int ct)])
  refine own_go (fun _ => XS.iloadN X0.here hx rfl (hb hby d3_1) rfl ) ?_
  show own_R p.tables e below _ T0 (mkF m 2 #[.val (.int ct), .val (.long dr), .second, .val (.int i), .val (.int b)] [(.int i), (.int ct)])
  refine own_go (fun _ => XS.iushr X0.here hx rfl (hb hby d3_2) rfl) ?_
  show own_R p.tables e below _ T0 (mkF m 3 #[.val (.int ct), .val (.long dr), .second, .val (.int i), .val (.int b)] [(.int ((ct.toUInt32 >>> (i &&& 31).toUInt32).toInt32))])
  refine own_go (fun _ => XS.iconst X0.here hx rfl (hb hby d3_3)) ?_
  show own_R p.tables e below _ T0 (mkF m 4 #[.val (.int ct), .val (.long dr), .second, .val (.int i), .val (.int b)] [(.int (1 : Int32)), (.int ((ct.toUInt32 >>> (i &&& 31).toUInt32).toInt32))])
  refine own_go (fun _ => XS.iand X0.here hx rfl (hb hby d3_4) rfl) ?_
  show own_R p.tables e below _ T0 (mkF m 5 #[.val (.int ct), .val (.long dr), .second, .val (.int i), .val (.int b)] [(.int (((ct.toUInt32 >>> (i &&& 31).toUInt32).toInt32) &&& (1 : Int32)))])
  by_cases hc : (((ct.toUInt32 >>> (i &&& 31).toUInt32).toInt32) &&& (1 : Int32)) = (0 : Int32)
  · show own_R p.tables e below _ T0 (mkF m 5 #[.val (.int ct), .val (.long dr), .second, .val (.int i), .val (.int b)] [(.int (((ct.toUInt32 >>> (i &&& 31).toUInt32).toInt32) &&& (1 : Int32)))])
    refine own_go (fun _ => XS.ifYes X0.here hx rfl (pc0 := 5) (pc' := 21) rfl (hb hby d3_5) rfl ((if0 _ _).trans (teq hc).1) (by decide) (by decide)) ?_
    show own_R p.tables e below _ T0 (mkF m 21 #[.val (.int ct), .val (.long dr), .second, .val (.int i), .val (.int b)] [])
    refine own_go (fun _ => XS.iload X0.here hx rfl (hb hby d3_21) rfl ) ?_
    show own_R p.tables e below _ T0 (mkF m 23 #[.val (.int ct), .val (.long dr), .second, .val (.int i), .val (.int b)] [(.int b)])
    exact own_end X0 (some (.int (nar .char b))) (fun h => by rw [hret] at h; cases h) hlk (fun fs hr => retN X0 hx (t := .char) hret (by simp) (hb hby d3_23) hr) ⟨_, rfl, by rw [own_nar hbs]; exact hbs, N0, e0⟩ (by decide) (by decide)
  · show own_R p.tables e below _ T0 (mkF m 5 #[.val (.int ct), .val (.long dr), .second, .val (.int i), .val (.int b)] [(.int (((ct.toUInt32 >>> (i &&& 31).toUInt32).toInt32) &&& (1 : Int32)))])
    refine own_go (fun _ => XS.ifNo X0.here hx rfl (hb hby d3_5) rfl ((if0 _ _).trans (feq hc).1)) ?_
    show own_R p.tables e below _ T0 (mkF m 8 #[.val (.int ct), .val (.long dr), .second, .val (.int i), .val (.int b)] [])
    refine own_go (fun _ => XS.lloadN X0.here hx rfl (hb hby d3_8) rfl ) ?_
    show own_R p.tables e below _ T0 (mkF m 9 #[.val (.int ct), .val (.long dr), .second, .val (.int i), .val (.int b)] [(.long dr)])
    refine own_go (fun _ => XS.bipush X0.here hx rfl (hb hby d3_9)) ?_
    show own_R p.tables e below _ T0 (mkF m 11 #[.val (.int ct), .val (.long dr), .second, .val (.int i), .val (.int b)] [(.int (8 : Int32)), (.long dr)])
    refine own_go (fun _ => XS.iloadN X0.here hx rfl (hb hby d3_11) rfl ) ?_
    show own_R p.tables e below _ T0 (mkF m 12 #[.val (.int ct), .val (.long dr), .second, .val (.int i), .val (.int b)] [(.int i), (.int (8 : Int32)), (.long dr)])
    refine own_go (fun _ => XS.imul X0.here hx rfl (hb hby d3_12) rfl) ?_
    show own_R p.tables e below _ T0 (mkF m 13 #[.val (.int ct), .val (.long dr), .second, .val (.int i), .val (.int b)] [(.int ((8 : Int32) * i)), (.long dr)])
    refine own_go (fun _ => XS.lushr X0.here hx rfl (hb hby d3_13) rfl) ?_
    show own_R p.tables e below _ T0 (mkF m 14 #[.val (.int ct), .val (.long dr), .second, .val (.int i), .val (.int b)] [(.long ((dr.toUInt64 >>> (((8 : Int32) * i) &&& 0x3f).toInt64.toUInt64).toInt64))])
    refine own_go (X0.ldc2Long hx hown (mvT hZ (hw _ (List.mem_of_getElem? (i := 13) rfl))) (g := (mkF m 14 #[.val (.int ct), .val (.long dr), .second, .val (.int i), .val (.int b)] [(.long ((dr.toUInt64 >>> (((8 : Int32) * i) &&& 0x3f).toInt64.toUInt64).toInt64))])) rfl (hb hby d3_14)) ?_
    show own_R p.tables e below _ T0 (mkF m 17 #[.val (.int ct), .val (.long dr), .second, .val (.int i), .val (.int b)] [(.long (255 : Int64)), (.long ((dr.toUInt64 >>> (((8 : Int32) * i) &&& 0x3f).toInt64.toUInt64).toInt64))])
    refine own_go (fun _ => XS.land X0.here hx rfl (hb hby d3_17) rfl) ?_
    show own_R p.tables e below _ T0 (mkF m 18 #[.val (.int ct), .val (.long dr), .second, .val (.int i), .val (.int b)] [(.long (((dr.toUInt64 >>> (((8 : Int32) * i) &&& 0x3f).toInt64.toUInt64).toInt64) &&& (255 : Int64)))])
    refine own_go (fun _ => XS.l2i X0.here hx rfl (hb hby d3_18) rfl) ?_
    show own_R p.tables e below _ T0 (mkF m 19 #[.val (.int ct), .val (.long dr), .second, .val (.int i), .val (.int b)] [(.int ((((dr.toUInt64 >>> (((8 : Int32) * i) &&& 0x3f).toInt64.toUInt64).toInt64) &&& (255 : Int64)).toInt32))])
    refine own_go (fun _ => XS.i2c X0.here hx rfl (hb hby d3_19) rfl) ?_
    show own_R p.tables e below _ T0 (mkF m 20 #[.val (.int ct), .val (.long dr), .second, .val (.int i), .val (.int b)] [(.int (((((dr.toUInt64 >>> (((8 : Int32) * i) &&& 0x3f).toInt64.toUInt64).toInt64) &&& (255 : Int64)).toInt32).toUInt32.toUInt16.toUInt32.toInt32))])
    exact own_end X0 (some (.int (nar .char (((((dr.toUInt64 >>> (((8 : Int32) * i) &&& 0x3f).toInt64.toUInt64).toInt64) &&& (255 : Int64)).toInt32).toUInt32.toUInt16.toUInt32.toInt32)))) (fun h => by rw [hret] at h; cases h) hlk (fun fs hr => retN X0 hx (t := .char) hret (by simp) (hb hby d3_20) hr) ⟨_, rfl, by rw [own_nar (own_low2 _)]; exact own_low2 _, N0, e0⟩ (by decide) (by decide)
def own_Qp (dom : Addr) (h0 : Heap) (n0 : Nat) (v : Option Value) (h : Heap) (L : List Loc) : Prop := (v = some (.ref dom) ∨ (∃ b, v = some (.ref b) ∧ b ≠ dom) ∨ v = some .null) ∧ Fr n0 L ∧ h = h0
set_option maxRecDepth 65536 in
set_option maxHeartbeats 4000000 in
theorem rmPk (l : Launch) (Z : State) (a0 : Array Value) (hw : ∀ d ∈ tables_1, d.before a0 Z = true) (ws : List Jvm.Cond) (h0 : Heap) (n0 : Nat) (mm : Int32) (dom con hos : Addr) (n1 : con ≠ dom) (n2 : hos ≠ dom) (SD : Sta Z h0 "com/example/registrum/registrum/protocol/Epp$Mapping" "DOMAIN" "Lcom/example/registrum/registrum/protocol/Epp$Mapping;" (.ref dom)) (SC : Sta Z h0 "com/example/registrum/registrum/protocol/Epp$Mapping" "CONTACT" "Lcom/example/registrum/registrum/protocol/Epp$Mapping;" (.ref con)) (SH : Sta Z h0 "com/example/registrum/registrum/protocol/Epp$Mapping" "HOST" "Lcom/example/registrum/registrum/protocol/Epp$Mapping;" (.ref hos)) :
    own_C l Z (⟨"com/example/registrum/registrum/protocol/ExtensionExtendsCommandPinLaw", "pick", "(I)Lcom/example/registrum/registrum/protocol/Epp$Mapping;"⟩ : MethodName) method_3_code 2 (some (.object "com/example/registrum/registrum/protocol/Epp$Mapping")) ws ({ frames := 0, cells := 0, slots := 0, locals := 0 } : Room) #[(.int mm)] h0 (own_Qp dom h0 n0) := by
  refine own_body (ls := #[.val (.int mm), .unset]) pn_1 (fun m => by first | (simp [entryFrame, mkF, argsToLocals, Value.category]; done) | rfl) ?_
  intro p e s m below meth c T0 hZ hx hby hml hown hnm hret hlk X0 e0
  replace hml : c.maxLocals = 2 := hml
  have N0 := Fr.nil n0
  refine own_go (fun _ => XS.iloadN X0.here hx rfl (hb hby d1_0) rfl ) ?_
  show own_R p.tables e below _ T0 (mkF m 1 #[.val (.int mm), .unset] [(.int mm)])
  refine own_go (fun _ => XS.iconst X0.here hx rfl (hb hby d1_1)) ?_
  show own_R p.tables e below _ T0 (mkF m 2 #[.val (.int mm), .unset] [(.int (3 : Int32)), (.int mm)])
  refine own_go (fun _ => XS.iand X0.here hx rfl (hb hby d1_2) rfl) ?_
  show own_R p.tables e below _ T0 (mkF m 3 #[.val (.int mm), .unset] [(.int (mm &&& (3 : Int32)))])
  refine own_go (fun _ => XS.istoreN X0.here hx rfl (hb hby d1_3) rfl (l' := #[.val (.int mm), .val (.int (mm &&& (3 : Int32)))]) rfl) ?_
  show own_R p.tables e below _ T0 (mkF m 4 #[.val (.int mm), .val (.int (mm &&& (3 : Int32)))] [])
  refine own_go (fun _ => XS.iloadN X0.here hx rfl (hb hby d1_4) rfl ) ?_
  show own_R p.tables e below _ T0 (mkF m 5 #[.val (.int mm), .val (.int (mm &&& (3 : Int32)))] [(.int (mm &&& (3 : Int32)))])
  by_cases h0k : (mm &&& (3 : Int32)) = (0 : Int32)
  · show own_R p.tables e below _ T0 (mkF m 5 #[.val (.int mm), .val (.int (mm &&& (3 : Int32)))] [(.int (mm &&& (3 : Int32)))])
    refine own_go (fun _ => XS.ifNo X0.here hx rfl (hb hby d1_5) rfl ((if0 _ _).trans (teq h0k).2)) ?_
    show own_R p.tables e below _ T0 (mkF m 8 #[.val (.int mm), .val (.int (mm &&& (3 : Int32)))] [])
    obtain ⟨T1, X1, e1, st1⟩ := getS X0 hx hZ hown (host := "") (hw _ (List.mem_of_getElem? (i := 4) rfl)) Via.refl e0 SD (g := (mkF m 8 #[.val (.int mm), .val (.int (mm &&& (3 : Int32)))] [])) rfl (hb hby d1_8)
    refine own_go st1 ?_
    show own_R p.tables e below _ T1 (mkF m 11 #[.val (.int mm), .val (.int (mm &&& (3 : Int32)))] [(.ref dom)])
    exact own_end X1 (some (.ref dom)) (fun h => by rw [hret] at h; cases h) hlk (fun fs hr => own_retA X1 hx hret rfl rfl (hb hby d1_11) hr) ⟨Or.inl rfl, N0, e1⟩ (by decide) (by decide)
  · show own_R p.tables e below _ T0 (mkF m 5 #[.val (.int mm), .val (.int (mm &&& (3 : Int32)))] [(.int (mm &&& (3 : Int32)))])
    refine own_go (fun _ => XS.ifYes X0.here hx rfl (pc0 := 5) (pc' := 12) rfl (hb hby d1_5) rfl ((if0 _ _).trans (feq h0k).2) (by decide) (by decide)) ?_
    show own_R p.tables e below _ T0 (mkF m 12 #[.val (.int mm), .val (.int (mm &&& (3 : Int32)))] [])
    refine own_go (fun _ => XS.iloadN X0.here hx rfl (hb hby d1_12) rfl ) ?_
    show own_R p.tables e below _ T0 (mkF m 13 #[.val (.int mm), .val (.int (mm &&& (3 : Int32)))] [(.int (mm &&& (3 : Int32)))])
    refine own_go (fun _ => XS.iconst X0.here hx rfl (hb hby d1_13)) ?_
    show own_R p.tables e below _ T0 (mkF m 14 #[.val (.int mm), .val (.int (mm &&& (3 : Int32)))] [(.int (1 : Int32)), (.int (mm &&& (3 : Int32)))])
    by_cases h1k : (mm &&& (3 : Int32)) = (1 : Int32)
    · show own_R p.tables e below _ T0 (mkF m 14 #[.val (.int mm), .val (.int (mm &&& (3 : Int32)))] [(.int (1 : Int32)), (.int (mm &&& (3 : Int32)))])
      refine own_go (fun _ => XS.icmpNo X0.here hx rfl (hb hby d1_14) rfl (teq h1k).2) ?_
      show own_R p.tables e below _ T0 (mkF m 17 #[.val (.int mm), .val (.int (mm &&& (3 : Int32)))] [])
      obtain ⟨T1, X1, e1, st1⟩ := getS X0 hx hZ hown (host := "") (hw _ (List.mem_of_getElem? (i := 81) rfl)) Via.refl e0 SC (g := (mkF m 17 #[.val (.int mm), .val (.int (mm &&& (3 : Int32)))] [])) rfl (hb hby d1_17)
      refine own_go st1 ?_
      show own_R p.tables e below _ T1 (mkF m 20 #[.val (.int mm), .val (.int (mm &&& (3 : Int32)))] [(.ref con)])
      exact own_end X1 (some (.ref con)) (fun h => by rw [hret] at h; cases h) hlk (fun fs hr => own_retA X1 hx hret rfl rfl (hb hby d1_20) hr) ⟨Or.inr (Or.inl ⟨con, rfl, n1⟩), N0, e1⟩ (by decide) (by decide)
    · show own_R p.tables e below _ T0 (mkF m 14 #[.val (.int mm), .val (.int (mm &&& (3 : Int32)))] [(.int (1 : Int32)), (.int (mm &&& (3 : Int32)))])
      refine own_go (fun _ => XS.icmpYes X0.here hx rfl (pc0 := 14) (pc' := 21) rfl (hb hby d1_14) rfl (feq h1k).2 (by decide) (by decide)) ?_
      show own_R p.tables e below _ T0 (mkF m 21 #[.val (.int mm), .val (.int (mm &&& (3 : Int32)))] [])
      refine own_go (fun _ => XS.iloadN X0.here hx rfl (hb hby d1_21) rfl ) ?_
      show own_R p.tables e below _ T0 (mkF m 22 #[.val (.int mm), .val (.int (mm &&& (3 : Int32)))] [(.int (mm &&& (3 : Int32)))])
      refine own_go (fun _ => XS.iconst X0.here hx rfl (hb hby d1_22)) ?_
      show own_R p.tables e below _ T0 (mkF m 23 #[.val (.int mm), .val (.int (mm &&& (3 : Int32)))] [(.int (2 : Int32)), (.int (mm &&& (3 : Int32)))])
      by_cases h2k : (mm &&& (3 : Int32)) = (2 : Int32)
      · show own_R p.tables e below _ T0 (mkF m 23 #[.val (.int mm), .val (.int (mm &&& (3 : Int32)))] [(.int (2 : Int32)), (.int (mm &&& (3 : Int32)))])
        refine own_go (fun _ => XS.icmpNo X0.here hx rfl (hb hby d1_23) rfl (teq h2k).2) ?_
        show own_R p.tables e below _ T0 (mkF m 26 #[.val (.int mm), .val (.int (mm &&& (3 : Int32)))] [])
        obtain ⟨T1, X1, e1, st1⟩ := getS X0 hx hZ hown (host := "") (hw _ (List.mem_of_getElem? (i := 79) rfl)) Via.refl e0 SH (g := (mkF m 26 #[.val (.int mm), .val (.int (mm &&& (3 : Int32)))] [])) rfl (hb hby d1_26)
        refine own_go st1 ?_
        show own_R p.tables e below _ T1 (mkF m 29 #[.val (.int mm), .val (.int (mm &&& (3 : Int32)))] [(.ref hos)])
        exact own_end X1 (some (.ref hos)) (fun h => by rw [hret] at h; cases h) hlk (fun fs hr => own_retA X1 hx hret rfl rfl (hb hby d1_29) hr) ⟨Or.inr (Or.inl ⟨hos, rfl, n2⟩), N0, e1⟩ (by decide) (by decide)
      · show own_R p.tables e below _ T0 (mkF m 23 #[.val (.int mm), .val (.int (mm &&& (3 : Int32)))] [(.int (2 : Int32)), (.int (mm &&& (3 : Int32)))])
        refine own_go (fun _ => XS.icmpYes X0.here hx rfl (pc0 := 23) (pc' := 30) rfl (hb hby d1_23) rfl (feq h2k).2 (by decide) (by decide)) ?_
        show own_R p.tables e below _ T0 (mkF m 30 #[.val (.int mm), .val (.int (mm &&& (3 : Int32)))] [])
        refine own_go (fun _ => XS.aconstNull X0.here hx rfl (hb hby d1_30)) ?_
        show own_R p.tables e below _ T0 (mkF m 31 #[.val (.int mm), .val (.int (mm &&& (3 : Int32)))] [.null])
        exact own_end X0 (some .null) (fun h => by rw [hret] at h; cases h) hlk (fun fs hr => own_retA X0 hx hret rfl rfl (hb hby d1_31) hr) ⟨Or.inr (Or.inr rfl), N0, e0⟩ (by decide) (by decide)
def own_Qm (Z : State) (h0 : Heap) (n0 : Nat) (v : Option Value) (h : Heap) (L : List Loc) : Prop := ∃ x cs, v = some (.ref x) ∧ Fr n0 L ∧ Keep h0 h [] ∧ own_S Z h x cs
set_option maxRecDepth 65536 in
set_option maxHeartbeats 40000000 in
theorem rmMk (l : Launch) (Z : State) (a0 : Array Value) (hw : ∀ d ∈ tables_1, d.before a0 Z = true) (ws : List Jvm.Cond) (h0 : Heap) (n0 : Nat) (ct : Int32) (dr : Int64) (Z0 : n0 ≤ h0.size) {zc : Int32} (O2 : Sta Z Z.heap "java/lang/String" "COMPACT_STRINGS" "Z" (.int zc)) (hzc : ¬ zc = 0) (X00 : Old Z n0 h0) :
    own_C l Z (⟨"com/example/registrum/registrum/protocol/ExtensionExtendsCommandPinLaw", "make", "(IJ)Ljava/lang/String;"⟩ : MethodName) method_5_code 11 (some (.object "java/lang/String")) ws ({ frames := 4, cells := 3, slots := 18, locals := 80 } : Room) #[(.int ct), (.long dr)] h0 (own_Qm Z h0 n0) := by
  refine own_body (ls := #[.val (.int ct), .val (.long dr), .second, .unset, .unset, .unset, .unset, .unset, .unset, .unset, .unset]) pn_2 (fun m => by first | (simp [entryFrame, mkF, argsToLocals, Value.category]; done) | rfl) ?_
  intro p e s m below meth c T0 hZ hx hby hml hown hnm hret hlk X0 e0
  replace hml : c.maxLocals = 11 := hml
  have N0 := Fr.nil n0
  refine own_go (fun _ => XS.iloadN X0.here hx rfl (hb hby d2_0) rfl ) ?_
  show own_R p.tables e below _ T0 (mkF m 1 #[.val (.int ct), .val (.long dr), .second, .unset, .unset, .unset, .unset, .unset, .unset, .unset, .unset] [(.int ct)])
  refine own_go (fun _ => XS.lloadN X0.here hx rfl (hb hby d2_1) rfl ) ?_
  show own_R p.tables e below _ T0 (mkF m 2 #[.val (.int ct), .val (.long dr), .second, .unset, .unset, .unset, .unset, .unset, .unset, .unset, .unset] [(.long dr), (.int ct)])
  refine own_go (fun _ => XS.iconst X0.here hx rfl (hb hby d2_2)) ?_
  show own_R p.tables e below _ T0 (mkF m 3 #[.val (.int ct), .val (.long dr), .second, .unset, .unset, .unset, .unset, .unset, .unset, .unset, .unset] [(.int (0 : Int32)), (.long dr), (.int ct)])
  refine own_go (fun _ => XS.bipush X0.here hx rfl (hb hby d2_3)) ?_
  show own_R p.tables e below _ T0 (mkF m 5 #[.val (.int ct), .val (.long dr), .second, .unset, .unset, .unset, .unset, .unset, .unset, .unset, .unset] [(.int (117 : Int32)), (.int (0 : Int32)), (.long dr), (.int ct)])
  obtain ⟨va0, Ta0, La0, Xa0, Qa0, sta0⟩ := own_callS X0 hx hZ hown (y := (⟨"com/example/registrum/registrum/protocol/ExtensionExtendsCommandPinLaw", "at", "(IJIC)C"⟩ : MethodName)) (hw _ (List.mem_of_getElem? (i := 10) rfl)) (hw _ (List.mem_of_getElem? (i := 11) rfl)) (hw _ (List.mem_of_getElem? (i := 2) rfl)) (hw _ (List.mem_of_getElem? (i := 12) rfl)) (by decide) (rmAt l Z a0 hw [] h0 n0 ct dr 0 117 (by unfold own_ch; decide)) (W := 0) (g := (mkF m 5 #[.val (.int ct), .val (.long dr), .second, .unset, .unset, .unset, .unset, .unset, .unset, .unset, .unset] [(.int (117 : Int32)), (.int (0 : Int32)), (.long dr), (.int ct)])) rfl (by rw [hml]; rfl) (argsL := [(.int ct), (.long dr), (.int (0 : Int32)), (.int (117 : Int32))]) (rest := []) (lenOf pd__IJIC_C rfl) rfl rfl (by show 2 * 0 + _ ≤ _; exact Nat.le_of_eq rfl) (hb hby d2_5) e0 (by decide) (by decide) (by decide) (by decide)
  obtain ⟨c0, rfl, hc0, Na0q, ea0⟩ := Qa0
  have Na0 := Fr.app N0 Na0q
  refine own_go sta0 ?_
  show own_R p.tables e below _ Ta0 (mkF m 8 #[.val (.int ct), .val (.long dr), .second, .unset, .unset, .unset, .unset, .unset, .unset, .unset, .unset] [(.int c0)])
  refine own_go (fun _ => XS.istoreN Xa0.here hx rfl (hb hby d2_8) rfl (l' := #[.val (.int ct), .val (.long dr), .second, .val (.int c0), .unset, .unset, .unset, .unset, .unset, .unset, .unset]) rfl) ?_
  show own_R p.tables e below _ Ta0 (mkF m 9 #[.val (.int ct), .val (.long dr), .second, .val (.int c0), .unset, .unset, .unset, .unset, .unset, .unset, .unset] [])
  refine own_go (fun _ => XS.iloadN Xa0.here hx rfl (hb hby d2_9) rfl ) ?_
  show own_R p.tables e below _ Ta0 (mkF m 10 #[.val (.int ct), .val (.long dr), .second, .val (.int c0), .unset, .unset, .unset, .unset, .unset, .unset, .unset] [(.int ct)])
  refine own_go (fun _ => XS.lloadN Xa0.here hx rfl (hb hby d2_10) rfl ) ?_
  show own_R p.tables e below _ Ta0 (mkF m 11 #[.val (.int ct), .val (.long dr), .second, .val (.int c0), .unset, .unset, .unset, .unset, .unset, .unset, .unset] [(.long dr), (.int ct)])
  refine own_go (fun _ => XS.iconst Xa0.here hx rfl (hb hby d2_11)) ?_
  show own_R p.tables e below _ Ta0 (mkF m 12 #[.val (.int ct), .val (.long dr), .second, .val (.int c0), .unset, .unset, .unset, .unset, .unset, .unset, .unset] [(.int (1 : Int32)), (.long dr), (.int ct)])
  refine own_go (fun _ => XS.bipush Xa0.here hx rfl (hb hby d2_12)) ?_
  show own_R p.tables e below _ Ta0 (mkF m 14 #[.val (.int ct), .val (.long dr), .second, .val (.int c0), .unset, .unset, .unset, .unset, .unset, .unset, .unset] [(.int (112 : Int32)), (.int (1 : Int32)), (.long dr), (.int ct)])
  obtain ⟨va1, Ta1, La1, Xa1, Qa1, sta1⟩ := own_callS Xa0 hx hZ hown (y := (⟨"com/example/registrum/registrum/protocol/ExtensionExtendsCommandPinLaw", "at", "(IJIC)C"⟩ : MethodName)) (hw _ (List.mem_of_getElem? (i := 10) rfl)) (hw _ (List.mem_of_getElem? (i := 11) rfl)) (hw _ (List.mem_of_getElem? (i := 2) rfl)) (hw _ (List.mem_of_getElem? (i := 12) rfl)) (by decide) (rmAt l Z a0 hw [] h0 n0 ct dr 1 112 (by unfold own_ch; decide)) (W := 0) (g := (mkF m 14 #[.val (.int ct), .val (.long dr), .second, .val (.int c0), .unset, .unset, .unset, .unset, .unset, .unset, .unset] [(.int (112 : Int32)), (.int (1 : Int32)), (.long dr), (.int ct)])) rfl (by rw [hml]; rfl) (argsL := [(.int ct), (.long dr), (.int (1 : Int32)), (.int (112 : Int32))]) (rest := []) (lenOf pd__IJIC_C rfl) rfl rfl (by show 2 * 0 + _ ≤ _; exact Nat.le_of_eq rfl) (hb hby d2_14) ea0 (by decide) (by decide) (by decide) (by decide)
  obtain ⟨c1, rfl, hc1, Na1q, ea1⟩ := Qa1
  have Na1 := Fr.app Na0 Na1q
  refine own_go sta1 ?_
  show own_R p.tables e below _ Ta1 (mkF m 17 #[.val (.int ct), .val (.long dr), .second, .val (.int c0), .unset, .unset, .unset, .unset, .unset, .unset, .unset] [(.int c1)])
  refine own_go (fun _ => XS.istore Xa1.here hx rfl (hb hby d2_17) rfl (l' := #[.val (.int ct), .val (.long dr), .second, .val (.int c0), .val (.int c1), .unset, .unset, .unset, .unset, .unset, .unset]) rfl) ?_
  show own_R p.tables e below _ Ta1 (mkF m 19 #[.val (.int ct), .val (.long dr), .second, .val (.int c0), .val (.int c1), .unset, .unset, .unset, .unset, .unset, .unset] [])
  refine own_go (fun _ => XS.iloadN Xa1.here hx rfl (hb hby d2_19) rfl ) ?_
  show own_R p.tables e below _ Ta1 (mkF m 20 #[.val (.int ct), .val (.long dr), .second, .val (.int c0), .val (.int c1), .unset, .unset, .unset, .unset, .unset, .unset] [(.int ct)])
  refine own_go (fun _ => XS.lloadN Xa1.here hx rfl (hb hby d2_20) rfl ) ?_
  show own_R p.tables e below _ Ta1 (mkF m 21 #[.val (.int ct), .val (.long dr), .second, .val (.int c0), .val (.int c1), .unset, .unset, .unset, .unset, .unset, .unset] [(.long dr), (.int ct)])
  refine own_go (fun _ => XS.iconst Xa1.here hx rfl (hb hby d2_21)) ?_
  show own_R p.tables e below _ Ta1 (mkF m 22 #[.val (.int ct), .val (.long dr), .second, .val (.int c0), .val (.int c1), .unset, .unset, .unset, .unset, .unset, .unset] [(.int (2 : Int32)), (.long dr), (.int ct)])
  refine own_go (fun _ => XS.bipush Xa1.here hx rfl (hb hby d2_22)) ?_
  show own_R p.tables e below _ Ta1 (mkF m 24 #[.val (.int ct), .val (.long dr), .second, .val (.int c0), .val (.int c1), .unset, .unset, .unset, .unset, .unset, .unset] [(.int (100 : Int32)), (.int (2 : Int32)), (.long dr), (.int ct)])
  obtain ⟨va2, Ta2, La2, Xa2, Qa2, sta2⟩ := own_callS Xa1 hx hZ hown (y := (⟨"com/example/registrum/registrum/protocol/ExtensionExtendsCommandPinLaw", "at", "(IJIC)C"⟩ : MethodName)) (hw _ (List.mem_of_getElem? (i := 10) rfl)) (hw _ (List.mem_of_getElem? (i := 11) rfl)) (hw _ (List.mem_of_getElem? (i := 2) rfl)) (hw _ (List.mem_of_getElem? (i := 12) rfl)) (by decide) (rmAt l Z a0 hw [] h0 n0 ct dr 2 100 (by unfold own_ch; decide)) (W := 0) (g := (mkF m 24 #[.val (.int ct), .val (.long dr), .second, .val (.int c0), .val (.int c1), .unset, .unset, .unset, .unset, .unset, .unset] [(.int (100 : Int32)), (.int (2 : Int32)), (.long dr), (.int ct)])) rfl (by rw [hml]; rfl) (argsL := [(.int ct), (.long dr), (.int (2 : Int32)), (.int (100 : Int32))]) (rest := []) (lenOf pd__IJIC_C rfl) rfl rfl (by show 2 * 0 + _ ≤ _; exact Nat.le_of_eq rfl) (hb hby d2_24) ea1 (by decide) (by decide) (by decide) (by decide)
  obtain ⟨c2, rfl, hc2, Na2q, ea2⟩ := Qa2
  have Na2 := Fr.app Na1 Na2q
  refine own_go sta2 ?_
  show own_R p.tables e below _ Ta2 (mkF m 27 #[.val (.int ct), .val (.long dr), .second, .val (.int c0), .val (.int c1), .unset, .unset, .unset, .unset, .unset, .unset] [(.int c2)])
  refine own_go (fun _ => XS.istore Xa2.here hx rfl (hb hby d2_27) rfl (l' := #[.val (.int ct), .val (.long dr), .second, .val (.int c0), .val (.int c1), .val (.int c2), .unset, .unset, .unset, .unset, .unset]) rfl) ?_
  show own_R p.tables e below _ Ta2 (mkF m 29 #[.val (.int ct), .val (.long dr), .second, .val (.int c0), .val (.int c1), .val (.int c2), .unset, .unset, .unset, .unset, .unset] [])
  refine own_go (fun _ => XS.iloadN Xa2.here hx rfl (hb hby d2_29) rfl ) ?_
  show own_R p.tables e below _ Ta2 (mkF m 30 #[.val (.int ct), .val (.long dr), .second, .val (.int c0), .val (.int c1), .val (.int c2), .unset, .unset, .unset, .unset, .unset] [(.int ct)])
  refine own_go (fun _ => XS.lloadN Xa2.here hx rfl (hb hby d2_30) rfl ) ?_
  show own_R p.tables e below _ Ta2 (mkF m 31 #[.val (.int ct), .val (.long dr), .second, .val (.int c0), .val (.int c1), .val (.int c2), .unset, .unset, .unset, .unset, .unset] [(.long dr), (.int ct)])
  refine own_go (fun _ => XS.iconst Xa2.here hx rfl (hb hby d2_31)) ?_
  show own_R p.tables e below _ Ta2 (mkF m 32 #[.val (.int ct), .val (.long dr), .second, .val (.int c0), .val (.int c1), .val (.int c2), .unset, .unset, .unset, .unset, .unset] [(.int (3 : Int32)), (.long dr), (.int ct)])
  refine own_go (fun _ => XS.bipush Xa2.here hx rfl (hb hby d2_32)) ?_
  show own_R p.tables e below _ Ta2 (mkF m 34 #[.val (.int ct), .val (.long dr), .second, .val (.int c0), .val (.int c1), .val (.int c2), .unset, .unset, .unset, .unset, .unset] [(.int (97 : Int32)), (.int (3 : Int32)), (.long dr), (.int ct)])
  obtain ⟨va3, Ta3, La3, Xa3, Qa3, sta3⟩ := own_callS Xa2 hx hZ hown (y := (⟨"com/example/registrum/registrum/protocol/ExtensionExtendsCommandPinLaw", "at", "(IJIC)C"⟩ : MethodName)) (hw _ (List.mem_of_getElem? (i := 10) rfl)) (hw _ (List.mem_of_getElem? (i := 11) rfl)) (hw _ (List.mem_of_getElem? (i := 2) rfl)) (hw _ (List.mem_of_getElem? (i := 12) rfl)) (by decide) (rmAt l Z a0 hw [] h0 n0 ct dr 3 97 (by unfold own_ch; decide)) (W := 0) (g := (mkF m 34 #[.val (.int ct), .val (.long dr), .second, .val (.int c0), .val (.int c1), .val (.int c2), .unset, .unset, .unset, .unset, .unset] [(.int (97 : Int32)), (.int (3 : Int32)), (.long dr), (.int ct)])) rfl (by rw [hml]; rfl) (argsL := [(.int ct), (.long dr), (.int (3 : Int32)), (.int (97 : Int32))]) (rest := []) (lenOf pd__IJIC_C rfl) rfl rfl (by show 2 * 0 + _ ≤ _; exact Nat.le_of_eq rfl) (hb hby d2_34) ea2 (by decide) (by decide) (by decide) (by decide)
  obtain ⟨c3, rfl, hc3, Na3q, ea3⟩ := Qa3
  have Na3 := Fr.app Na2 Na3q
  refine own_go sta3 ?_
  show own_R p.tables e below _ Ta3 (mkF m 37 #[.val (.int ct), .val (.long dr), .second, .val (.int c0), .val (.int c1), .val (.int c2), .unset, .unset, .unset, .unset, .unset] [(.int c3)])
  refine own_go (fun _ => XS.istore Xa3.here hx rfl (hb hby d2_37) rfl (l' := #[.val (.int ct), .val (.long dr), .second, .val (.int c0), .val (.int c1), .val (.int c2), .val (.int c3), .unset, .unset, .unset, .unset]) rfl) ?_
  show own_R p.tables e below _ Ta3 (mkF m 39 #[.val (.int ct), .val (.long dr), .second, .val (.int c0), .val (.int c1), .val (.int c2), .val (.int c3), .unset, .unset, .unset, .unset] [])
  refine own_go (fun _ => XS.iloadN Xa3.here hx rfl (hb hby d2_39) rfl ) ?_
  show own_R p.tables e below _ Ta3 (mkF m 40 #[.val (.int ct), .val (.long dr), .second, .val (.int c0), .val (.int c1), .val (.int c2), .val (.int c3), .unset, .unset, .unset, .unset] [(.int ct)])
  refine own_go (fun _ => XS.lloadN Xa3.here hx rfl (hb hby d2_40) rfl ) ?_
  show own_R p.tables e below _ Ta3 (mkF m 41 #[.val (.int ct), .val (.long dr), .second, .val (.int c0), .val (.int c1), .val (.int c2), .val (.int c3), .unset, .unset, .unset, .unset] [(.long dr), (.int ct)])
  refine own_go (fun _ => XS.iconst Xa3.here hx rfl (hb hby d2_41)) ?_
  show own_R p.tables e below _ Ta3 (mkF m 42 #[.val (.int ct), .val (.long dr), .second, .val (.int c0), .val (.int c1), .val (.int c2), .val (.int c3), .unset, .unset, .unset, .unset] [(.int (4 : Int32)), (.long dr), (.int ct)])
  refine own_go (fun _ => XS.bipush Xa3.here hx rfl (hb hby d2_42)) ?_
  show own_R p.tables e below _ Ta3 (mkF m 44 #[.val (.int ct), .val (.long dr), .second, .val (.int c0), .val (.int c1), .val (.int c2), .val (.int c3), .unset, .unset, .unset, .unset] [(.int (116 : Int32)), (.int (4 : Int32)), (.long dr), (.int ct)])
  obtain ⟨va4, Ta4, La4, Xa4, Qa4, sta4⟩ := own_callS Xa3 hx hZ hown (y := (⟨"com/example/registrum/registrum/protocol/ExtensionExtendsCommandPinLaw", "at", "(IJIC)C"⟩ : MethodName)) (hw _ (List.mem_of_getElem? (i := 10) rfl)) (hw _ (List.mem_of_getElem? (i := 11) rfl)) (hw _ (List.mem_of_getElem? (i := 2) rfl)) (hw _ (List.mem_of_getElem? (i := 12) rfl)) (by decide) (rmAt l Z a0 hw [] h0 n0 ct dr 4 116 (by unfold own_ch; decide)) (W := 0) (g := (mkF m 44 #[.val (.int ct), .val (.long dr), .second, .val (.int c0), .val (.int c1), .val (.int c2), .val (.int c3), .unset, .unset, .unset, .unset] [(.int (116 : Int32)), (.int (4 : Int32)), (.long dr), (.int ct)])) rfl (by rw [hml]; rfl) (argsL := [(.int ct), (.long dr), (.int (4 : Int32)), (.int (116 : Int32))]) (rest := []) (lenOf pd__IJIC_C rfl) rfl rfl (by show 2 * 0 + _ ≤ _; exact Nat.le_of_eq rfl) (hb hby d2_44) ea3 (by decide) (by decide) (by decide) (by decide)
  obtain ⟨c4, rfl, hc4, Na4q, ea4⟩ := Qa4
  have Na4 := Fr.app Na3 Na4q
  refine own_go sta4 ?_
  show own_R p.tables e below _ Ta4 (mkF m 47 #[.val (.int ct), .val (.long dr), .second, .val (.int c0), .val (.int c1), .val (.int c2), .val (.int c3), .unset, .unset, .unset, .unset] [(.int c4)])
  refine own_go (fun _ => XS.istore Xa4.here hx rfl (hb hby d2_47) rfl (l' := #[.val (.int ct), .val (.long dr), .second, .val (.int c0), .val (.int c1), .val (.int c2), .val (.int c3), .val (.int c4), .unset, .unset, .unset]) rfl) ?_
  show own_R p.tables e below _ Ta4 (mkF m 49 #[.val (.int ct), .val (.long dr), .second, .val (.int c0), .val (.int c1), .val (.int c2), .val (.int c3), .val (.int c4), .unset, .unset, .unset] [])
  refine own_go (fun _ => XS.iloadN Xa4.here hx rfl (hb hby d2_49) rfl ) ?_
  show own_R p.tables e below _ Ta4 (mkF m 50 #[.val (.int ct), .val (.long dr), .second, .val (.int c0), .val (.int c1), .val (.int c2), .val (.int c3), .val (.int c4), .unset, .unset, .unset] [(.int ct)])
  refine own_go (fun _ => XS.lloadN Xa4.here hx rfl (hb hby d2_50) rfl ) ?_
  show own_R p.tables e below _ Ta4 (mkF m 51 #[.val (.int ct), .val (.long dr), .second, .val (.int c0), .val (.int c1), .val (.int c2), .val (.int c3), .val (.int c4), .unset, .unset, .unset] [(.long dr), (.int ct)])
  refine own_go (fun _ => XS.iconst Xa4.here hx rfl (hb hby d2_51)) ?_
  show own_R p.tables e below _ Ta4 (mkF m 52 #[.val (.int ct), .val (.long dr), .second, .val (.int c0), .val (.int c1), .val (.int c2), .val (.int c3), .val (.int c4), .unset, .unset, .unset] [(.int (5 : Int32)), (.long dr), (.int ct)])
  refine own_go (fun _ => XS.bipush Xa4.here hx rfl (hb hby d2_52)) ?_
  show own_R p.tables e below _ Ta4 (mkF m 54 #[.val (.int ct), .val (.long dr), .second, .val (.int c0), .val (.int c1), .val (.int c2), .val (.int c3), .val (.int c4), .unset, .unset, .unset] [(.int (101 : Int32)), (.int (5 : Int32)), (.long dr), (.int ct)])
  obtain ⟨va5, Ta5, La5, Xa5, Qa5, sta5⟩ := own_callS Xa4 hx hZ hown (y := (⟨"com/example/registrum/registrum/protocol/ExtensionExtendsCommandPinLaw", "at", "(IJIC)C"⟩ : MethodName)) (hw _ (List.mem_of_getElem? (i := 10) rfl)) (hw _ (List.mem_of_getElem? (i := 11) rfl)) (hw _ (List.mem_of_getElem? (i := 2) rfl)) (hw _ (List.mem_of_getElem? (i := 12) rfl)) (by decide) (rmAt l Z a0 hw [] h0 n0 ct dr 5 101 (by unfold own_ch; decide)) (W := 0) (g := (mkF m 54 #[.val (.int ct), .val (.long dr), .second, .val (.int c0), .val (.int c1), .val (.int c2), .val (.int c3), .val (.int c4), .unset, .unset, .unset] [(.int (101 : Int32)), (.int (5 : Int32)), (.long dr), (.int ct)])) rfl (by rw [hml]; rfl) (argsL := [(.int ct), (.long dr), (.int (5 : Int32)), (.int (101 : Int32))]) (rest := []) (lenOf pd__IJIC_C rfl) rfl rfl (by show 2 * 0 + _ ≤ _; exact Nat.le_of_eq rfl) (hb hby d2_54) ea4 (by decide) (by decide) (by decide) (by decide)
  obtain ⟨c5, rfl, hc5, Na5q, ea5⟩ := Qa5
  have Na5 := Fr.app Na4 Na5q
  refine own_go sta5 ?_
  show own_R p.tables e below _ Ta5 (mkF m 57 #[.val (.int ct), .val (.long dr), .second, .val (.int c0), .val (.int c1), .val (.int c2), .val (.int c3), .val (.int c4), .unset, .unset, .unset] [(.int c5)])
  refine own_go (fun _ => XS.istore Xa5.here hx rfl (hb hby d2_57) rfl (l' := #[.val (.int ct), .val (.long dr), .second, .val (.int c0), .val (.int c1), .val (.int c2), .val (.int c3), .val (.int c4), .val (.int c5), .unset, .unset]) rfl) ?_
  show own_R p.tables e below _ Ta5 (mkF m 59 #[.val (.int ct), .val (.long dr), .second, .val (.int c0), .val (.int c1), .val (.int c2), .val (.int c3), .val (.int c4), .val (.int c5), .unset, .unset] [])
  refine own_go (fun _ => XS.lloadN Xa5.here hx rfl (hb hby d2_59) rfl ) ?_
  show own_R p.tables e below _ Ta5 (mkF m 60 #[.val (.int ct), .val (.long dr), .second, .val (.int c0), .val (.int c1), .val (.int c2), .val (.int c3), .val (.int c4), .val (.int c5), .unset, .unset] [(.long dr)])
  refine own_go (fun _ => XS.bipush Xa5.here hx rfl (hb hby d2_60)) ?_
  show own_R p.tables e below _ Ta5 (mkF m 62 #[.val (.int ct), .val (.long dr), .second, .val (.int c0), .val (.int c1), .val (.int c2), .val (.int c3), .val (.int c4), .val (.int c5), .unset, .unset] [(.int (48 : Int32)), (.long dr)])
  refine own_go (fun _ => XS.lushr Xa5.here hx rfl (hb hby d2_62) rfl) ?_
  show own_R p.tables e below _ Ta5 (mkF m 63 #[.val (.int ct), .val (.long dr), .second, .val (.int c0), .val (.int c1), .val (.int c2), .val (.int c3), .val (.int c4), .val (.int c5), .unset, .unset] [(.long ((dr.toUInt64 >>> ((48 : Int32) &&& 0x3f).toInt64.toUInt64).toInt64))])
  refine own_go (Xa5.ldc2Long hx hown (mvT hZ (hw _ (List.mem_of_getElem? (i := 13) rfl))) (g := (mkF m 63 #[.val (.int ct), .val (.long dr), .second, .val (.int c0), .val (.int c1), .val (.int c2), .val (.int c3), .val (.int c4), .val (.int c5), .unset, .unset] [(.long ((dr.toUInt64 >>> ((48 : Int32) &&& 0x3f).toInt64.toUInt64).toInt64))])) rfl (hb hby d2_63)) ?_
  show own_R p.tables e below _ Ta5 (mkF m 66 #[.val (.int ct), .val (.long dr), .second, .val (.int c0), .val (.int c1), .val (.int c2), .val (.int c3), .val (.int c4), .val (.int c5), .unset, .unset] [(.long (255 : Int64)), (.long ((dr.toUInt64 >>> ((48 : Int32) &&& 0x3f).toInt64.toUInt64).toInt64))])
  refine own_go (fun _ => XS.land Xa5.here hx rfl (hb hby d2_66) rfl) ?_
  show own_R p.tables e below _ Ta5 (mkF m 67 #[.val (.int ct), .val (.long dr), .second, .val (.int c0), .val (.int c1), .val (.int c2), .val (.int c3), .val (.int c4), .val (.int c5), .unset, .unset] [(.long (((dr.toUInt64 >>> ((48 : Int32) &&& 0x3f).toInt64.toUInt64).toInt64) &&& (255 : Int64)))])
  refine own_go (fun _ => XS.l2i Xa5.here hx rfl (hb hby d2_67) rfl) ?_
  show own_R p.tables e below _ Ta5 (mkF m 68 #[.val (.int ct), .val (.long dr), .second, .val (.int c0), .val (.int c1), .val (.int c2), .val (.int c3), .val (.int c4), .val (.int c5), .unset, .unset] [(.int ((((dr.toUInt64 >>> ((48 : Int32) &&& 0x3f).toInt64.toUInt64).toInt64) &&& (255 : Int64)).toInt32))])
  refine own_go (fun _ => XS.i2c Xa5.here hx rfl (hb hby d2_68) rfl) ?_
  show own_R p.tables e below _ Ta5 (mkF m 69 #[.val (.int ct), .val (.long dr), .second, .val (.int c0), .val (.int c1), .val (.int c2), .val (.int c3), .val (.int c4), .val (.int c5), .unset, .unset] [(.int (((((dr.toUInt64 >>> ((48 : Int32) &&& 0x3f).toInt64.toUInt64).toInt64) &&& (255 : Int64)).toInt32).toUInt32.toUInt16.toUInt32.toInt32))])
  refine own_go (fun _ => XS.istore Xa5.here hx rfl (hb hby d2_69) rfl (l' := #[.val (.int ct), .val (.long dr), .second, .val (.int c0), .val (.int c1), .val (.int c2), .val (.int c3), .val (.int c4), .val (.int c5), .val (.int (((((dr.toUInt64 >>> ((48 : Int32) &&& 0x3f).toInt64.toUInt64).toInt64) &&& (255 : Int64)).toInt32).toUInt32.toUInt16.toUInt32.toInt32)), .unset]) rfl) ?_
  show own_R p.tables e below _ Ta5 (mkF m 71 #[.val (.int ct), .val (.long dr), .second, .val (.int c0), .val (.int c1), .val (.int c2), .val (.int c3), .val (.int c4), .val (.int c5), .val (.int (((((dr.toUInt64 >>> ((48 : Int32) &&& 0x3f).toInt64.toUInt64).toInt64) &&& (255 : Int64)).toInt32).toUInt32.toUInt16.toUInt32.toInt32)), .unset] [])
  have hc6 : own_ch (((((dr.toUInt64 >>> ((48 : Int32) &&& 0x3f).toInt64.toUInt64).toInt64) &&& (255 : Int64)).toInt32).toUInt32.toUInt16.toUInt32.toInt32) := own_low2 _
  generalize ((((dr.toUInt64 >>> ((48 : Int32) &&& 0x3f).toInt64.toUInt64).toInt64) &&& (255 : Int64)).toInt32).toUInt32.toUInt16.toUInt32.toInt32 = c6 at hc6 ⊢
  show own_R p.tables e below _ Ta5 (mkF m 71 #[.val (.int ct), .val (.long dr), .second, .val (.int c0), .val (.int c1), .val (.int c2), .val (.int c3), .val (.int c4), .val (.int c5), .val (.int c6), .unset] [])
  refine own_go (fun _ => XS.iloadN Xa5.here hx rfl (hb hby d2_71) rfl ) ?_
  show own_R p.tables e below _ Ta5 (mkF m 72 #[.val (.int ct), .val (.long dr), .second, .val (.int c0), .val (.int c1), .val (.int c2), .val (.int c3), .val (.int c4), .val (.int c5), .val (.int c6), .unset] [(.int ct)])
  refine own_go (fun _ => XS.bipush Xa5.here hx rfl (hb hby d2_72)) ?_
  show own_R p.tables e below _ Ta5 (mkF m 74 #[.val (.int ct), .val (.long dr), .second, .val (.int c0), .val (.int c1), .val (.int c2), .val (.int c3), .val (.int c4), .val (.int c5), .val (.int c6), .unset] [(.int (6 : Int32)), (.int ct)])
  refine own_go (fun _ => XS.iushr Xa5.here hx rfl (hb hby d2_74) rfl) ?_
  show own_R p.tables e below _ Ta5 (mkF m 75 #[.val (.int ct), .val (.long dr), .second, .val (.int c0), .val (.int c1), .val (.int c2), .val (.int c3), .val (.int c4), .val (.int c5), .val (.int c6), .unset] [(.int ((ct.toUInt32 >>> ((6 : Int32) &&& 31).toUInt32).toInt32))])
  refine own_go (fun _ => XS.iconst Xa5.here hx rfl (hb hby d2_75)) ?_
  show own_R p.tables e below _ Ta5 (mkF m 76 #[.val (.int ct), .val (.long dr), .second, .val (.int c0), .val (.int c1), .val (.int c2), .val (.int c3), .val (.int c4), .val (.int c5), .val (.int c6), .unset] [(.int (3 : Int32)), (.int ((ct.toUInt32 >>> ((6 : Int32) &&& 31).toUInt32).toInt32))])
  refine own_go (fun _ => XS.iand Xa5.here hx rfl (hb hby d2_76) rfl) ?_
  show own_R p.tables e below _ Ta5 (mkF m 77 #[.val (.int ct), .val (.long dr), .second, .val (.int c0), .val (.int c1), .val (.int c2), .val (.int c3), .val (.int c4), .val (.int c5), .val (.int c6), .unset] [(.int (((ct.toUInt32 >>> ((6 : Int32) &&& 31).toUInt32).toInt32) &&& (3 : Int32)))])
  refine own_go (fun _ => XS.istore Xa5.here hx rfl (hb hby d2_77) rfl (l' := #[.val (.int ct), .val (.long dr), .second, .val (.int c0), .val (.int c1), .val (.int c2), .val (.int c3), .val (.int c4), .val (.int c5), .val (.int c6), .val (.int (((ct.toUInt32 >>> ((6 : Int32) &&& 31).toUInt32).toInt32) &&& (3 : Int32)))]) rfl) ?_
  show own_R p.tables e below _ Ta5 (mkF m 79 #[.val (.int ct), .val (.long dr), .second, .val (.int c0), .val (.int c1), .val (.int c2), .val (.int c3), .val (.int c4), .val (.int c5), .val (.int c6), .val (.int (((ct.toUInt32 >>> ((6 : Int32) &&& 31).toUInt32).toInt32) &&& (3 : Int32)))] [])
  refine own_go (fun _ => XS.iload Xa5.here hx rfl (hb hby d2_79) rfl ) ?_
  show own_R p.tables e below _ Ta5 (mkF m 81 #[.val (.int ct), .val (.long dr), .second, .val (.int c0), .val (.int c1), .val (.int c2), .val (.int c3), .val (.int c4), .val (.int c5), .val (.int c6), .val (.int (((ct.toUInt32 >>> ((6 : Int32) &&& 31).toUInt32).toInt32) &&& (3 : Int32)))] [(.int (((ct.toUInt32 >>> ((6 : Int32) &&& 31).toUInt32).toInt32) &&& (3 : Int32)))])
  by_cases hl0 : (((ct.toUInt32 >>> ((6 : Int32) &&& 31).toUInt32).toInt32) &&& (3 : Int32)) = (0 : Int32)
  · show own_R p.tables e below _ Ta5 (mkF m 81 #[.val (.int ct), .val (.long dr), .second, .val (.int c0), .val (.int c1), .val (.int c2), .val (.int c3), .val (.int c4), .val (.int c5), .val (.int c6), .val (.int (((ct.toUInt32 >>> ((6 : Int32) &&& 31).toUInt32).toInt32) &&& (3 : Int32)))] [(.int (((ct.toUInt32 >>> ((6 : Int32) &&& 31).toUInt32).toInt32) &&& (3 : Int32)))])
    refine own_go (fun _ => XS.ifNo Xa5.here hx rfl (hb hby d2_81) rfl ((if0 _ _).trans (teq hl0).2)) ?_
    show own_R p.tables e below _ Ta5 (mkF m 84 #[.val (.int ct), .val (.long dr), .second, .val (.int c0), .val (.int c1), .val (.int c2), .val (.int c3), .val (.int c4), .val (.int c5), .val (.int c6), .val (.int (((ct.toUInt32 >>> ((6 : Int32) &&& 31).toUInt32).toInt32) &&& (3 : Int32)))] [])
    obtain ⟨Ts, hs, Xs, es, Es, As, Ds, -, sts⟩ := newO Xa5 hx hZ hown (hw _ (List.mem_of_getElem? (i := 14) rfl)) (hw _ (List.mem_of_getElem? (i := 15) rfl)) (hw _ (List.mem_of_getElem? (i := 16) rfl)) ea5 (g := (mkF m 84 #[.val (.int ct), .val (.long dr), .second, .val (.int c0), .val (.int c1), .val (.int c2), .val (.int c3), .val (.int c4), .val (.int c5), .val (.int c6), .val (.int (((ct.toUInt32 >>> ((6 : Int32) &&& 31).toUInt32).toInt32) &&& (3 : Int32)))] [])) rfl (hb hby d2_84) (by decide) (by decide)
    obtain ⟨as, gs⟩ : ∃ z, z = h0.size := ⟨_, rfl⟩
    rw [← gs] at As Ds sts
    refine own_go sts ?_
    show own_R p.tables e below _ Ts (mkF m 87 #[.val (.int ct), .val (.long dr), .second, .val (.int c0), .val (.int c1), .val (.int c2), .val (.int c3), .val (.int c4), .val (.int c5), .val (.int c6), .val (.int (((ct.toUInt32 >>> ((6 : Int32) &&& 31).toUInt32).toInt32) &&& (3 : Int32)))] [(.ref as)])
    refine own_go (fun _ => XS.dup Xs.here hx rfl (hb hby d2_87) rfl rfl) ?_
    show own_R p.tables e below _ Ts (mkF m 88 #[.val (.int ct), .val (.long dr), .second, .val (.int c0), .val (.int c1), .val (.int c2), .val (.int c3), .val (.int c4), .val (.int c5), .val (.int c6), .val (.int (((ct.toUInt32 >>> ((6 : Int32) &&& 31).toUInt32).toInt32) &&& (3 : Int32)))] [(.ref as), (.ref as)])
    refine own_go (fun _ => XS.iconst Xs.here hx rfl (hb hby d2_88)) ?_
    show own_R p.tables e below _ Ts (mkF m 89 #[.val (.int ct), .val (.long dr), .second, .val (.int c0), .val (.int c1), .val (.int c2), .val (.int c3), .val (.int c4), .val (.int c5), .val (.int c6), .val (.int (((ct.toUInt32 >>> ((6 : Int32) &&& 31).toUInt32).toInt32) &&& (3 : Int32)))] [(.int (5 : Int32)), (.ref as), (.ref as)])
    obtain ⟨Tn, hn, kn, Xn, en, En, An, stn⟩ := newP Xs hx hZ (hw _ (List.mem_of_getElem? (i := 17) rfl)) es (g := (mkF m 89 #[.val (.int ct), .val (.long dr), .second, .val (.int c0), .val (.int c1), .val (.int c2), .val (.int c3), .val (.int c4), .val (.int c5), .val (.int c6), .val (.int (((ct.toUInt32 >>> ((6 : Int32) &&& 31).toUInt32).toInt32) &&& (3 : Int32)))] [(.int (5 : Int32)), (.ref as), (.ref as)])) rfl (hb hby d2_89) rfl (by decide) (cap := 5) (by decide) (by decide) (by decide) (by decide)
    obtain ⟨an, gn⟩ : ∃ z, z = hs.size := ⟨_, rfl⟩
    rw [← gn] at An stn
    refine own_go stn ?_
    show own_R p.tables e below _ Tn (mkF m 91 #[.val (.int ct), .val (.long dr), .second, .val (.int c0), .val (.int c1), .val (.int c2), .val (.int c3), .val (.int c4), .val (.int c5), .val (.int c6), .val (.int (((ct.toUInt32 >>> ((6 : Int32) &&& 31).toUInt32).toInt32) &&& (3 : Int32)))] [(.ref an), (.ref as), (.ref as)])
    have Vn : Arv Z hn an kn .char (5 : Int32) [(.int 0), (.int 0), (.int 0), (.int 0), (.int 0)] (.int 0) := (Arv.new An (by decide)).pad (pad_rep [] (.int 0) 5)
    have gsa : n0 ≤ as := Nat.le_trans Z0 (Nat.le_of_eq gs.symm)
    have qs : h0.size ≤ as := Nat.le_of_eq gs.symm
    have qn : h0.size ≤ an := Nat.le_trans Es.1 (Nat.le_of_eq gn.symm)
    have gna : n0 ≤ an := Nat.le_trans Z0 qn
    have nsn : as ≠ an := Nat.ne_of_lt (Nat.lt_of_lt_of_le As.lt (Nat.le_of_eq gn.symm))
    have Kn : Keep h0 hn [] := ((Keep.refl h0 []).ext Es).ext En
    have On : Old Z n0 hn := (X00.ext Es).ext En
    have Exn := As.ext En
    have Cn : Fld Z hn as "java/lang/String" "coder" "B" (.int (0 : Int32)) := (Ds (Or.inr (hw _ (List.mem_of_getElem? (i := 41) rfl))) (ty := .byte) (by decide)).ext En
    have Uvn : Fld Z hn as "java/lang/String" "value" "[B" .null := (Ds (Or.inr (hw _ (List.mem_of_getElem? (i := 43) rfl))) (ty := (.array .byte)) (by decide)).ext En
    refine own_go (fun _ => XS.dup Xn.here hx rfl (hb hby d2_91) rfl rfl) ?_
    show own_R p.tables e below _ Tn (mkF m 92 #[.val (.int ct), .val (.long dr), .second, .val (.int c0), .val (.int c1), .val (.int c2), .val (.int c3), .val (.int c4), .val (.int c5), .val (.int c6), .val (.int (((ct.toUInt32 >>> ((6 : Int32) &&& 31).toUInt32).toInt32) &&& (3 : Int32)))] [(.ref an), (.ref an), (.ref as), (.ref as)])
    refine own_go (fun _ => XS.iconst Xn.here hx rfl (hb hby d2_92)) ?_
    show own_R p.tables e below _ Tn (mkF m 93 #[.val (.int ct), .val (.long dr), .second, .val (.int c0), .val (.int c1), .val (.int c2), .val (.int c3), .val (.int c4), .val (.int c5), .val (.int c6), .val (.int (((ct.toUInt32 >>> ((6 : Int32) &&& 31).toUInt32).toInt32) &&& (3 : Int32)))] [(.int (0 : Int32)), (.ref an), (.ref an), (.ref as), (.ref as)])
    refine own_go (fun _ => XS.iloadN Xn.here hx rfl (hb hby d2_93) rfl ) ?_
    show own_R p.tables e below _ Tn (mkF m 94 #[.val (.int ct), .val (.long dr), .second, .val (.int c0), .val (.int c1), .val (.int c2), .val (.int c3), .val (.int c4), .val (.int c5), .val (.int c6), .val (.int (((ct.toUInt32 >>> ((6 : Int32) &&& 31).toUInt32).toInt32) &&& (3 : Int32)))] [(.int c0), (.int (0 : Int32)), (.ref an), (.ref an), (.ref as), (.ref as)])
    obtain ⟨Tq0, hq0, Xq0, eq0, Wq0, Vq0, stq0⟩ := own_stC Xn hx hZ en Vn (j := (0 : Int32)) ⟨by decide, by decide⟩ 0 rfl (Nat.le_of_ble_eq_true rfl) (own_nar hc0) (g := (mkF m 94 #[.val (.int ct), .val (.long dr), .second, .val (.int c0), .val (.int c1), .val (.int c2), .val (.int c3), .val (.int c4), .val (.int c5), .val (.int c6), .val (.int (((ct.toUInt32 >>> ((6 : Int32) &&& 31).toUInt32).toInt32) &&& (3 : Int32)))] [(.int c0), (.int (0 : Int32)), (.ref an), (.ref an), (.ref as), (.ref as)])) rfl rfl (hb hby d2_94)
    have Kq0 : Keep h0 hq0 [] := Kn.wr Wq0 (Or.inr qn)
    have Oq0 : Old Z n0 hq0 := On.wr Wq0 gna
    have Exq0 := Exn.wr Wq0
    have Cq0 := Cn.other Wq0 (Or.inl nsn)
    have Uvq0 := Uvn.other Wq0 (Or.inl nsn)
    have Nq0 := Fr.snoc Xq0 Na5 gna
    refine own_go stq0 ?_
    show own_R p.tables e below _ Tq0 (mkF m 95 #[.val (.int ct), .val (.long dr), .second, .val (.int c0), .val (.int c1), .val (.int c2), .val (.int c3), .val (.int c4), .val (.int c5), .val (.int c6), .val (.int (((ct.toUInt32 >>> ((6 : Int32) &&& 31).toUInt32).toInt32) &&& (3 : Int32)))] [(.ref an), (.ref as), (.ref as)])
    refine own_go (fun _ => XS.dup Xq0.here hx rfl (hb hby d2_95) rfl rfl) ?_
    show own_R p.tables e below _ Tq0 (mkF m 96 #[.val (.int ct), .val (.long dr), .second, .val (.int c0), .val (.int c1), .val (.int c2), .val (.int c3), .val (.int c4), .val (.int c5), .val (.int c6), .val (.int (((ct.toUInt32 >>> ((6 : Int32) &&& 31).toUInt32).toInt32) &&& (3 : Int32)))] [(.ref an), (.ref an), (.ref as), (.ref as)])
    refine own_go (fun _ => XS.iconst Xq0.here hx rfl (hb hby d2_96)) ?_
    show own_R p.tables e below _ Tq0 (mkF m 97 #[.val (.int ct), .val (.long dr), .second, .val (.int c0), .val (.int c1), .val (.int c2), .val (.int c3), .val (.int c4), .val (.int c5), .val (.int c6), .val (.int (((ct.toUInt32 >>> ((6 : Int32) &&& 31).toUInt32).toInt32) &&& (3 : Int32)))] [(.int (1 : Int32)), (.ref an), (.ref an), (.ref as), (.ref as)])
    refine own_go (fun _ => XS.iload Xq0.here hx rfl (hb hby d2_97) rfl ) ?_
    show own_R p.tables e below _ Tq0 (mkF m 99 #[.val (.int ct), .val (.long dr), .second, .val (.int c0), .val (.int c1), .val (.int c2), .val (.int c3), .val (.int c4), .val (.int c5), .val (.int c6), .val (.int (((ct.toUInt32 >>> ((6 : Int32) &&& 31).toUInt32).toInt32) &&& (3 : Int32)))] [(.int c1), (.int (1 : Int32)), (.ref an), (.ref an), (.ref as), (.ref as)])
    obtain ⟨Tq1, hq1, Xq1, eq1, Wq1, Vq1, stq1⟩ := own_stC Xq0 hx hZ eq0 Vq0 (j := (1 : Int32)) ⟨by decide, by decide⟩ 1 rfl (Nat.le_of_ble_eq_true rfl) (own_nar hc1) (g := (mkF m 99 #[.val (.int ct), .val (.long dr), .second, .val (.int c0), .val (.int c1), .val (.int c2), .val (.int c3), .val (.int c4), .val (.int c5), .val (.int c6), .val (.int (((ct.toUInt32 >>> ((6 : Int32) &&& 31).toUInt32).toInt32) &&& (3 : Int32)))] [(.int c1), (.int (1 : Int32)), (.ref an), (.ref an), (.ref as), (.ref as)])) rfl rfl (hb hby d2_99)
    have Kq1 : Keep h0 hq1 [] := Kq0.wr Wq1 (Or.inr qn)
    have Oq1 : Old Z n0 hq1 := Oq0.wr Wq1 gna
    have Exq1 := Exq0.wr Wq1
    have Cq1 := Cq0.other Wq1 (Or.inl nsn)
    have Uvq1 := Uvq0.other Wq1 (Or.inl nsn)
    have Nq1 := Fr.snoc Xq1 Nq0 gna
    refine own_go stq1 ?_
    show own_R p.tables e below _ Tq1 (mkF m 100 #[.val (.int ct), .val (.long dr), .second, .val (.int c0), .val (.int c1), .val (.int c2), .val (.int c3), .val (.int c4), .val (.int c5), .val (.int c6), .val (.int (((ct.toUInt32 >>> ((6 : Int32) &&& 31).toUInt32).toInt32) &&& (3 : Int32)))] [(.ref an), (.ref as), (.ref as)])
    refine own_go (fun _ => XS.dup Xq1.here hx rfl (hb hby d2_100) rfl rfl) ?_
    show own_R p.tables e below _ Tq1 (mkF m 101 #[.val (.int ct), .val (.long dr), .second, .val (.int c0), .val (.int c1), .val (.int c2), .val (.int c3), .val (.int c4), .val (.int c5), .val (.int c6), .val (.int (((ct.toUInt32 >>> ((6 : Int32) &&& 31).toUInt32).toInt32) &&& (3 : Int32)))] [(.ref an), (.ref an), (.ref as), (.ref as)])
    refine own_go (fun _ => XS.iconst Xq1.here hx rfl (hb hby d2_101)) ?_
    show own_R p.tables e below _ Tq1 (mkF m 102 #[.val (.int ct), .val (.long dr), .second, .val (.int c0), .val (.int c1), .val (.int c2), .val (.int c3), .val (.int c4), .val (.int c5), .val (.int c6), .val (.int (((ct.toUInt32 >>> ((6 : Int32) &&& 31).toUInt32).toInt32) &&& (3 : Int32)))] [(.int (2 : Int32)), (.ref an), (.ref an), (.ref as), (.ref as)])
    refine own_go (fun _ => XS.iload Xq1.here hx rfl (hb hby d2_102) rfl ) ?_
    show own_R p.tables e below _ Tq1 (mkF m 104 #[.val (.int ct), .val (.long dr), .second, .val (.int c0), .val (.int c1), .val (.int c2), .val (.int c3), .val (.int c4), .val (.int c5), .val (.int c6), .val (.int (((ct.toUInt32 >>> ((6 : Int32) &&& 31).toUInt32).toInt32) &&& (3 : Int32)))] [(.int c2), (.int (2 : Int32)), (.ref an), (.ref an), (.ref as), (.ref as)])
    obtain ⟨Tq2, hq2, Xq2, eq2, Wq2, Vq2, stq2⟩ := own_stC Xq1 hx hZ eq1 Vq1 (j := (2 : Int32)) ⟨by decide, by decide⟩ 2 rfl (Nat.le_of_ble_eq_true rfl) (own_nar hc2) (g := (mkF m 104 #[.val (.int ct), .val (.long dr), .second, .val (.int c0), .val (.int c1), .val (.int c2), .val (.int c3), .val (.int c4), .val (.int c5), .val (.int c6), .val (.int (((ct.toUInt32 >>> ((6 : Int32) &&& 31).toUInt32).toInt32) &&& (3 : Int32)))] [(.int c2), (.int (2 : Int32)), (.ref an), (.ref an), (.ref as), (.ref as)])) rfl rfl (hb hby d2_104)
    have Kq2 : Keep h0 hq2 [] := Kq1.wr Wq2 (Or.inr qn)
    have Oq2 : Old Z n0 hq2 := Oq1.wr Wq2 gna
    have Exq2 := Exq1.wr Wq2
    have Cq2 := Cq1.other Wq2 (Or.inl nsn)
    have Uvq2 := Uvq1.other Wq2 (Or.inl nsn)
    have Nq2 := Fr.snoc Xq2 Nq1 gna
    refine own_go stq2 ?_
    show own_R p.tables e below _ Tq2 (mkF m 105 #[.val (.int ct), .val (.long dr), .second, .val (.int c0), .val (.int c1), .val (.int c2), .val (.int c3), .val (.int c4), .val (.int c5), .val (.int c6), .val (.int (((ct.toUInt32 >>> ((6 : Int32) &&& 31).toUInt32).toInt32) &&& (3 : Int32)))] [(.ref an), (.ref as), (.ref as)])
    refine own_go (fun _ => XS.dup Xq2.here hx rfl (hb hby d2_105) rfl rfl) ?_
    show own_R p.tables e below _ Tq2 (mkF m 106 #[.val (.int ct), .val (.long dr), .second, .val (.int c0), .val (.int c1), .val (.int c2), .val (.int c3), .val (.int c4), .val (.int c5), .val (.int c6), .val (.int (((ct.toUInt32 >>> ((6 : Int32) &&& 31).toUInt32).toInt32) &&& (3 : Int32)))] [(.ref an), (.ref an), (.ref as), (.ref as)])
    refine own_go (fun _ => XS.iconst Xq2.here hx rfl (hb hby d2_106)) ?_
    show own_R p.tables e below _ Tq2 (mkF m 107 #[.val (.int ct), .val (.long dr), .second, .val (.int c0), .val (.int c1), .val (.int c2), .val (.int c3), .val (.int c4), .val (.int c5), .val (.int c6), .val (.int (((ct.toUInt32 >>> ((6 : Int32) &&& 31).toUInt32).toInt32) &&& (3 : Int32)))] [(.int (3 : Int32)), (.ref an), (.ref an), (.ref as), (.ref as)])
    refine own_go (fun _ => XS.iload Xq2.here hx rfl (hb hby d2_107) rfl ) ?_
    show own_R p.tables e below _ Tq2 (mkF m 109 #[.val (.int ct), .val (.long dr), .second, .val (.int c0), .val (.int c1), .val (.int c2), .val (.int c3), .val (.int c4), .val (.int c5), .val (.int c6), .val (.int (((ct.toUInt32 >>> ((6 : Int32) &&& 31).toUInt32).toInt32) &&& (3 : Int32)))] [(.int c3), (.int (3 : Int32)), (.ref an), (.ref an), (.ref as), (.ref as)])
    obtain ⟨Tq3, hq3, Xq3, eq3, Wq3, Vq3, stq3⟩ := own_stC Xq2 hx hZ eq2 Vq2 (j := (3 : Int32)) ⟨by decide, by decide⟩ 3 rfl (Nat.le_of_ble_eq_true rfl) (own_nar hc3) (g := (mkF m 109 #[.val (.int ct), .val (.long dr), .second, .val (.int c0), .val (.int c1), .val (.int c2), .val (.int c3), .val (.int c4), .val (.int c5), .val (.int c6), .val (.int (((ct.toUInt32 >>> ((6 : Int32) &&& 31).toUInt32).toInt32) &&& (3 : Int32)))] [(.int c3), (.int (3 : Int32)), (.ref an), (.ref an), (.ref as), (.ref as)])) rfl rfl (hb hby d2_109)
    have Kq3 : Keep h0 hq3 [] := Kq2.wr Wq3 (Or.inr qn)
    have Oq3 : Old Z n0 hq3 := Oq2.wr Wq3 gna
    have Exq3 := Exq2.wr Wq3
    have Cq3 := Cq2.other Wq3 (Or.inl nsn)
    have Uvq3 := Uvq2.other Wq3 (Or.inl nsn)
    have Nq3 := Fr.snoc Xq3 Nq2 gna
    refine own_go stq3 ?_
    show own_R p.tables e below _ Tq3 (mkF m 110 #[.val (.int ct), .val (.long dr), .second, .val (.int c0), .val (.int c1), .val (.int c2), .val (.int c3), .val (.int c4), .val (.int c5), .val (.int c6), .val (.int (((ct.toUInt32 >>> ((6 : Int32) &&& 31).toUInt32).toInt32) &&& (3 : Int32)))] [(.ref an), (.ref as), (.ref as)])
    refine own_go (fun _ => XS.dup Xq3.here hx rfl (hb hby d2_110) rfl rfl) ?_
    show own_R p.tables e below _ Tq3 (mkF m 111 #[.val (.int ct), .val (.long dr), .second, .val (.int c0), .val (.int c1), .val (.int c2), .val (.int c3), .val (.int c4), .val (.int c5), .val (.int c6), .val (.int (((ct.toUInt32 >>> ((6 : Int32) &&& 31).toUInt32).toInt32) &&& (3 : Int32)))] [(.ref an), (.ref an), (.ref as), (.ref as)])
    refine own_go (fun _ => XS.iconst Xq3.here hx rfl (hb hby d2_111)) ?_
    show own_R p.tables e below _ Tq3 (mkF m 112 #[.val (.int ct), .val (.long dr), .second, .val (.int c0), .val (.int c1), .val (.int c2), .val (.int c3), .val (.int c4), .val (.int c5), .val (.int c6), .val (.int (((ct.toUInt32 >>> ((6 : Int32) &&& 31).toUInt32).toInt32) &&& (3 : Int32)))] [(.int (4 : Int32)), (.ref an), (.ref an), (.ref as), (.ref as)])
    refine own_go (fun _ => XS.iload Xq3.here hx rfl (hb hby d2_112) rfl ) ?_
    show own_R p.tables e below _ Tq3 (mkF m 114 #[.val (.int ct), .val (.long dr), .second, .val (.int c0), .val (.int c1), .val (.int c2), .val (.int c3), .val (.int c4), .val (.int c5), .val (.int c6), .val (.int (((ct.toUInt32 >>> ((6 : Int32) &&& 31).toUInt32).toInt32) &&& (3 : Int32)))] [(.int c4), (.int (4 : Int32)), (.ref an), (.ref an), (.ref as), (.ref as)])
    obtain ⟨Tq4, hq4, Xq4, eq4, Wq4, Vq4, stq4⟩ := own_stC Xq3 hx hZ eq3 Vq3 (j := (4 : Int32)) ⟨by decide, by decide⟩ 4 rfl (Nat.le_of_ble_eq_true rfl) (own_nar hc4) (g := (mkF m 114 #[.val (.int ct), .val (.long dr), .second, .val (.int c0), .val (.int c1), .val (.int c2), .val (.int c3), .val (.int c4), .val (.int c5), .val (.int c6), .val (.int (((ct.toUInt32 >>> ((6 : Int32) &&& 31).toUInt32).toInt32) &&& (3 : Int32)))] [(.int c4), (.int (4 : Int32)), (.ref an), (.ref an), (.ref as), (.ref as)])) rfl rfl (hb hby d2_114)
    have Kq4 : Keep h0 hq4 [] := Kq3.wr Wq4 (Or.inr qn)
    have Oq4 : Old Z n0 hq4 := Oq3.wr Wq4 gna
    have Exq4 := Exq3.wr Wq4
    have Cq4 := Cq3.other Wq4 (Or.inl nsn)
    have Uvq4 := Uvq3.other Wq4 (Or.inl nsn)
    have Nq4 := Fr.snoc Xq4 Nq3 gna
    refine own_go stq4 ?_
    show own_R p.tables e below _ Tq4 (mkF m 115 #[.val (.int ct), .val (.long dr), .second, .val (.int c0), .val (.int c1), .val (.int c2), .val (.int c3), .val (.int c4), .val (.int c5), .val (.int c6), .val (.int (((ct.toUInt32 >>> ((6 : Int32) &&& 31).toUInt32).toInt32) &&& (3 : Int32)))] [(.ref an), (.ref as), (.ref as)])
    have hws : ∀ d ∈ StrChars.Road.words, d.before a0 Z = true := fun d hd => hw d ((by decide +kernel : ∀ d ∈ StrChars.Road.words, d ∈ tables_1) d hd)
    have hp : ∀ c ∈ ([c0, c1, c2, c3, c4] : List Int32), own_ch c := by
      intro c hc
      simp only [List.mem_cons, List.not_mem_nil, or_false] at hc
      rcases hc with rfl | rfl | rfl | rfl | rfl
      · exact hc0
      · exact hc1
      · exact hc2
      · exact hc3
      · exact hc4
    obtain ⟨vz, Tz, Lz, Xz, Qz, stz⟩ := own_backI Xq4 hx hZ hown (y := (⟨"java/lang/String", "<init>", "([C)V"⟩ : MethodName)) rfl (hw _ (List.mem_of_getElem? (i := 18) rfl)) (hw _ (List.mem_of_getElem? (i := 19) rfl)) (hw _ (List.mem_of_getElem? (i := 20) rfl)) (hw _ (List.mem_of_getElem? (i := 16) rfl)) (by decide) (W := 1) (kc := 1) (ks := 5) (StrChars.Road.backV (R := ({ frames := 4, cells := 3, slots := 18, locals := 80 } : Room)) (W := 1) hZ hws (kI := 4) (hw _ (List.mem_of_getElem? (i := 15) rfl)) (cs := [c0, c1, c2, c3, c4]) (bs := ([c0, c1, c2, c3, c4] : List Int32).map (fun c => c.toInt8.toInt32)) (n := 5) gsa (Nat.le_trans Z0 Kq4.1) Exq4 Uvq4 Cq4 Vq4 (O2.ext Oq4.2) hzc rfl rfl (by decide) (by decide) hp rfl (by decide) (by decide)) (g := (mkF m 115 #[.val (.int ct), .val (.long dr), .second, .val (.int c0), .val (.int c1), .val (.int c2), .val (.int c3), .val (.int c4), .val (.int c5), .val (.int c6), .val (.int (((ct.toUInt32 >>> ((6 : Int32) &&& 31).toUInt32).toInt32) &&& (3 : Int32)))] [(.ref an), (.ref as), (.ref as)])) rfl (by rw [hml]; rfl) (a := as) (argsL := [(.ref an)]) (rest := [(.ref as)]) (lenOf pd___C_V rfl) rfl rfl (by show 2 * 0 + _ ≤ _; exact Nat.le_of_eq rfl) (hb hby d2_115) eq4 (by decide) (by decide)
    obtain ⟨rfl, Nzq, Kz, Ez, Cz, tz, kz, z1, z2, z3, Vz, Az⟩ := Qz
    have Nz := Fr.app Nq4 Nzq
    have Kf : Keep h0 Tz.heap [] := Kq4.trans Kz (allS (Or.inr qs) all0)
    refine own_go stz ?_
    show own_R p.tables e below _ Tz (mkF m 118 #[.val (.int ct), .val (.long dr), .second, .val (.int c0), .val (.int c1), .val (.int c2), .val (.int c3), .val (.int c4), .val (.int c5), .val (.int c6), .val (.int (((ct.toUInt32 >>> ((6 : Int32) &&& 31).toUInt32).toInt32) &&& (3 : Int32)))] [(.ref as)])
    exact own_end Xz (some (.ref as)) (fun h => by rw [hret] at h; cases h) hlk (fun fs hr => own_retA Xz hx hret rfl rfl (hb hby d2_118) hr) ⟨as, [c0, c1, c2, c3, c4], rfl, Nz, Kf, tz, kz, Ez, Vz, Cz, Az, hp, Nat.le_of_ble_eq_true rfl⟩ (by decide) (by decide)
  · show own_R p.tables e below _ Ta5 (mkF m 81 #[.val (.int ct), .val (.long dr), .second, .val (.int c0), .val (.int c1), .val (.int c2), .val (.int c3), .val (.int c4), .val (.int c5), .val (.int c6), .val (.int (((ct.toUInt32 >>> ((6 : Int32) &&& 31).toUInt32).toInt32) &&& (3 : Int32)))] [(.int (((ct.toUInt32 >>> ((6 : Int32) &&& 31).toUInt32).toInt32) &&& (3 : Int32)))])
    refine own_go (fun _ => XS.ifYes Xa5.here hx rfl (pc0 := 81) (pc' := 119) rfl (hb hby d2_81) rfl ((if0 _ _).trans (feq hl0).2) (by decide) (by decide)) ?_
    show own_R p.tables e below _ Ta5 (mkF m 119 #[.val (.int ct), .val (.long dr), .second, .val (.int c0), .val (.int c1), .val (.int c2), .val (.int c3), .val (.int c4), .val (.int c5), .val (.int c6), .val (.int (((ct.toUInt32 >>> ((6 : Int32) &&& 31).toUInt32).toInt32) &&& (3 : Int32)))] [])
    refine own_go (fun _ => XS.iload Xa5.here hx rfl (hb hby d2_119) rfl ) ?_
    show own_R p.tables e below _ Ta5 (mkF m 121 #[.val (.int ct), .val (.long dr), .second, .val (.int c0), .val (.int c1), .val (.int c2), .val (.int c3), .val (.int c4), .val (.int c5), .val (.int c6), .val (.int (((ct.toUInt32 >>> ((6 : Int32) &&& 31).toUInt32).toInt32) &&& (3 : Int32)))] [(.int (((ct.toUInt32 >>> ((6 : Int32) &&& 31).toUInt32).toInt32) &&& (3 : Int32)))])
    refine own_go (fun _ => XS.iconst Xa5.here hx rfl (hb hby d2_121)) ?_
    show own_R p.tables e below _ Ta5 (mkF m 122 #[.val (.int ct), .val (.long dr), .second, .val (.int c0), .val (.int c1), .val (.int c2), .val (.int c3), .val (.int c4), .val (.int c5), .val (.int c6), .val (.int (((ct.toUInt32 >>> ((6 : Int32) &&& 31).toUInt32).toInt32) &&& (3 : Int32)))] [(.int (3 : Int32)), (.int (((ct.toUInt32 >>> ((6 : Int32) &&& 31).toUInt32).toInt32) &&& (3 : Int32)))])
    by_cases hl3 : (((ct.toUInt32 >>> ((6 : Int32) &&& 31).toUInt32).toInt32) &&& (3 : Int32)) = (3 : Int32)
    · show own_R p.tables e below _ Ta5 (mkF m 122 #[.val (.int ct), .val (.long dr), .second, .val (.int c0), .val (.int c1), .val (.int c2), .val (.int c3), .val (.int c4), .val (.int c5), .val (.int c6), .val (.int (((ct.toUInt32 >>> ((6 : Int32) &&& 31).toUInt32).toInt32) &&& (3 : Int32)))] [(.int (3 : Int32)), (.int (((ct.toUInt32 >>> ((6 : Int32) &&& 31).toUInt32).toInt32) &&& (3 : Int32)))])
      refine own_go (fun _ => XS.icmpNo Xa5.here hx rfl (hb hby d2_122) rfl (teq hl3).2) ?_
      show own_R p.tables e below _ Ta5 (mkF m 125 #[.val (.int ct), .val (.long dr), .second, .val (.int c0), .val (.int c1), .val (.int c2), .val (.int c3), .val (.int c4), .val (.int c5), .val (.int c6), .val (.int (((ct.toUInt32 >>> ((6 : Int32) &&& 31).toUInt32).toInt32) &&& (3 : Int32)))] [])
      obtain ⟨Ts, hs, Xs, es, Es, As, Ds, -, sts⟩ := newO Xa5 hx hZ hown (hw _ (List.mem_of_getElem? (i := 14) rfl)) (hw _ (List.mem_of_getElem? (i := 15) rfl)) (hw _ (List.mem_of_getElem? (i := 16) rfl)) ea5 (g := (mkF m 125 #[.val (.int ct), .val (.long dr), .second, .val (.int c0), .val (.int c1), .val (.int c2), .val (.int c3), .val (.int c4), .val (.int c5), .val (.int c6), .val (.int (((ct.toUInt32 >>> ((6 : Int32) &&& 31).toUInt32).toInt32) &&& (3 : Int32)))] [])) rfl (hb hby d2_125) (by decide) (by decide)
      obtain ⟨as, gs⟩ : ∃ z, z = h0.size := ⟨_, rfl⟩
      rw [← gs] at As Ds sts
      refine own_go sts ?_
      show own_R p.tables e below _ Ts (mkF m 128 #[.val (.int ct), .val (.long dr), .second, .val (.int c0), .val (.int c1), .val (.int c2), .val (.int c3), .val (.int c4), .val (.int c5), .val (.int c6), .val (.int (((ct.toUInt32 >>> ((6 : Int32) &&& 31).toUInt32).toInt32) &&& (3 : Int32)))] [(.ref as)])
      refine own_go (fun _ => XS.dup Xs.here hx rfl (hb hby d2_128) rfl rfl) ?_
      show own_R p.tables e below _ Ts (mkF m 129 #[.val (.int ct), .val (.long dr), .second, .val (.int c0), .val (.int c1), .val (.int c2), .val (.int c3), .val (.int c4), .val (.int c5), .val (.int c6), .val (.int (((ct.toUInt32 >>> ((6 : Int32) &&& 31).toUInt32).toInt32) &&& (3 : Int32)))] [(.ref as), (.ref as)])
      refine own_go (fun _ => XS.bipush Xs.here hx rfl (hb hby d2_129)) ?_
      show own_R p.tables e below _ Ts (mkF m 131 #[.val (.int ct), .val (.long dr), .second, .val (.int c0), .val (.int c1), .val (.int c2), .val (.int c3), .val (.int c4), .val (.int c5), .val (.int c6), .val (.int (((ct.toUInt32 >>> ((6 : Int32) &&& 31).toUInt32).toInt32) &&& (3 : Int32)))] [(.int (7 : Int32)), (.ref as), (.ref as)])
      obtain ⟨Tn, hn, kn, Xn, en, En, An, stn⟩ := newP Xs hx hZ (hw _ (List.mem_of_getElem? (i := 17) rfl)) es (g := (mkF m 131 #[.val (.int ct), .val (.long dr), .second, .val (.int c0), .val (.int c1), .val (.int c2), .val (.int c3), .val (.int c4), .val (.int c5), .val (.int c6), .val (.int (((ct.toUInt32 >>> ((6 : Int32) &&& 31).toUInt32).toInt32) &&& (3 : Int32)))] [(.int (7 : Int32)), (.ref as), (.ref as)])) rfl (hb hby d2_131) rfl (by decide) (cap := 7) (by decide) (by decide) (by decide) (by decide)
      obtain ⟨an, gn⟩ : ∃ z, z = hs.size := ⟨_, rfl⟩
      rw [← gn] at An stn
      refine own_go stn ?_
      show own_R p.tables e below _ Tn (mkF m 133 #[.val (.int ct), .val (.long dr), .second, .val (.int c0), .val (.int c1), .val (.int c2), .val (.int c3), .val (.int c4), .val (.int c5), .val (.int c6), .val (.int (((ct.toUInt32 >>> ((6 : Int32) &&& 31).toUInt32).toInt32) &&& (3 : Int32)))] [(.ref an), (.ref as), (.ref as)])
      have Vn : Arv Z hn an kn .char (7 : Int32) [(.int 0), (.int 0), (.int 0), (.int 0), (.int 0), (.int 0), (.int 0)] (.int 0) := (Arv.new An (by decide)).pad (pad_rep [] (.int 0) 7)
      have gsa : n0 ≤ as := Nat.le_trans Z0 (Nat.le_of_eq gs.symm)
      have qs : h0.size ≤ as := Nat.le_of_eq gs.symm
      have qn : h0.size ≤ an := Nat.le_trans Es.1 (Nat.le_of_eq gn.symm)
      have gna : n0 ≤ an := Nat.le_trans Z0 qn
      have nsn : as ≠ an := Nat.ne_of_lt (Nat.lt_of_lt_of_le As.lt (Nat.le_of_eq gn.symm))
      have Kn : Keep h0 hn [] := ((Keep.refl h0 []).ext Es).ext En
      have On : Old Z n0 hn := (X00.ext Es).ext En
      have Exn := As.ext En
      have Cn : Fld Z hn as "java/lang/String" "coder" "B" (.int (0 : Int32)) := (Ds (Or.inr (hw _ (List.mem_of_getElem? (i := 41) rfl))) (ty := .byte) (by decide)).ext En
      have Uvn : Fld Z hn as "java/lang/String" "value" "[B" .null := (Ds (Or.inr (hw _ (List.mem_of_getElem? (i := 43) rfl))) (ty := (.array .byte)) (by decide)).ext En
      refine own_go (fun _ => XS.dup Xn.here hx rfl (hb hby d2_133) rfl rfl) ?_
      show own_R p.tables e below _ Tn (mkF m 134 #[.val (.int ct), .val (.long dr), .second, .val (.int c0), .val (.int c1), .val (.int c2), .val (.int c3), .val (.int c4), .val (.int c5), .val (.int c6), .val (.int (((ct.toUInt32 >>> ((6 : Int32) &&& 31).toUInt32).toInt32) &&& (3 : Int32)))] [(.ref an), (.ref an), (.ref as), (.ref as)])
      refine own_go (fun _ => XS.iconst Xn.here hx rfl (hb hby d2_134)) ?_
      show own_R p.tables e below _ Tn (mkF m 135 #[.val (.int ct), .val (.long dr), .second, .val (.int c0), .val (.int c1), .val (.int c2), .val (.int c3), .val (.int c4), .val (.int c5), .val (.int c6), .val (.int (((ct.toUInt32 >>> ((6 : Int32) &&& 31).toUInt32).toInt32) &&& (3 : Int32)))] [(.int (0 : Int32)), (.ref an), (.ref an), (.ref as), (.ref as)])
      refine own_go (fun _ => XS.iloadN Xn.here hx rfl (hb hby d2_135) rfl ) ?_
      show own_R p.tables e below _ Tn (mkF m 136 #[.val (.int ct), .val (.long dr), .second, .val (.int c0), .val (.int c1), .val (.int c2), .val (.int c3), .val (.int c4), .val (.int c5), .val (.int c6), .val (.int (((ct.toUInt32 >>> ((6 : Int32) &&& 31).toUInt32).toInt32) &&& (3 : Int32)))] [(.int c0), (.int (0 : Int32)), (.ref an), (.ref an), (.ref as), (.ref as)])
      obtain ⟨Tq0, hq0, Xq0, eq0, Wq0, Vq0, stq0⟩ := own_stC Xn hx hZ en Vn (j := (0 : Int32)) ⟨by decide, by decide⟩ 0 rfl (Nat.le_of_ble_eq_true rfl) (own_nar hc0) (g := (mkF m 136 #[.val (.int ct), .val (.long dr), .second, .val (.int c0), .val (.int c1), .val (.int c2), .val (.int c3), .val (.int c4), .val (.int c5), .val (.int c6), .val (.int (((ct.toUInt32 >>> ((6 : Int32) &&& 31).toUInt32).toInt32) &&& (3 : Int32)))] [(.int c0), (.int (0 : Int32)), (.ref an), (.ref an), (.ref as), (.ref as)])) rfl rfl (hb hby d2_136)
      have Kq0 : Keep h0 hq0 [] := Kn.wr Wq0 (Or.inr qn)
      have Oq0 : Old Z n0 hq0 := On.wr Wq0 gna
      have Exq0 := Exn.wr Wq0
      have Cq0 := Cn.other Wq0 (Or.inl nsn)
      have Uvq0 := Uvn.other Wq0 (Or.inl nsn)
      have Nq0 := Fr.snoc Xq0 Na5 gna
      refine own_go stq0 ?_
      show own_R p.tables e below _ Tq0 (mkF m 137 #[.val (.int ct), .val (.long dr), .second, .val (.int c0), .val (.int c1), .val (.int c2), .val (.int c3), .val (.int c4), .val (.int c5), .val (.int c6), .val (.int (((ct.toUInt32 >>> ((6 : Int32) &&& 31).toUInt32).toInt32) &&& (3 : Int32)))] [(.ref an), (.ref as), (.ref as)])
      refine own_go (fun _ => XS.dup Xq0.here hx rfl (hb hby d2_137) rfl rfl) ?_
      show own_R p.tables e below _ Tq0 (mkF m 138 #[.val (.int ct), .val (.long dr), .second, .val (.int c0), .val (.int c1), .val (.int c2), .val (.int c3), .val (.int c4), .val (.int c5), .val (.int c6), .val (.int (((ct.toUInt32 >>> ((6 : Int32) &&& 31).toUInt32).toInt32) &&& (3 : Int32)))] [(.ref an), (.ref an), (.ref as), (.ref as)])
      refine own_go (fun _ => XS.iconst Xq0.here hx rfl (hb hby d2_138)) ?_
      show own_R p.tables e below _ Tq0 (mkF m 139 #[.val (.int ct), .val (.long dr), .second, .val (.int c0), .val (.int c1), .val (.int c2), .val (.int c3), .val (.int c4), .val (.int c5), .val (.int c6), .val (.int (((ct.toUInt32 >>> ((6 : Int32) &&& 31).toUInt32).toInt32) &&& (3 : Int32)))] [(.int (1 : Int32)), (.ref an), (.ref an), (.ref as), (.ref as)])
      refine own_go (fun _ => XS.iload Xq0.here hx rfl (hb hby d2_139) rfl ) ?_
      show own_R p.tables e below _ Tq0 (mkF m 141 #[.val (.int ct), .val (.long dr), .second, .val (.int c0), .val (.int c1), .val (.int c2), .val (.int c3), .val (.int c4), .val (.int c5), .val (.int c6), .val (.int (((ct.toUInt32 >>> ((6 : Int32) &&& 31).toUInt32).toInt32) &&& (3 : Int32)))] [(.int c1), (.int (1 : Int32)), (.ref an), (.ref an), (.ref as), (.ref as)])
      obtain ⟨Tq1, hq1, Xq1, eq1, Wq1, Vq1, stq1⟩ := own_stC Xq0 hx hZ eq0 Vq0 (j := (1 : Int32)) ⟨by decide, by decide⟩ 1 rfl (Nat.le_of_ble_eq_true rfl) (own_nar hc1) (g := (mkF m 141 #[.val (.int ct), .val (.long dr), .second, .val (.int c0), .val (.int c1), .val (.int c2), .val (.int c3), .val (.int c4), .val (.int c5), .val (.int c6), .val (.int (((ct.toUInt32 >>> ((6 : Int32) &&& 31).toUInt32).toInt32) &&& (3 : Int32)))] [(.int c1), (.int (1 : Int32)), (.ref an), (.ref an), (.ref as), (.ref as)])) rfl rfl (hb hby d2_141)
      have Kq1 : Keep h0 hq1 [] := Kq0.wr Wq1 (Or.inr qn)
      have Oq1 : Old Z n0 hq1 := Oq0.wr Wq1 gna
      have Exq1 := Exq0.wr Wq1
      have Cq1 := Cq0.other Wq1 (Or.inl nsn)
      have Uvq1 := Uvq0.other Wq1 (Or.inl nsn)
      have Nq1 := Fr.snoc Xq1 Nq0 gna
      refine own_go stq1 ?_
      show own_R p.tables e below _ Tq1 (mkF m 142 #[.val (.int ct), .val (.long dr), .second, .val (.int c0), .val (.int c1), .val (.int c2), .val (.int c3), .val (.int c4), .val (.int c5), .val (.int c6), .val (.int (((ct.toUInt32 >>> ((6 : Int32) &&& 31).toUInt32).toInt32) &&& (3 : Int32)))] [(.ref an), (.ref as), (.ref as)])
      refine own_go (fun _ => XS.dup Xq1.here hx rfl (hb hby d2_142) rfl rfl) ?_
      show own_R p.tables e below _ Tq1 (mkF m 143 #[.val (.int ct), .val (.long dr), .second, .val (.int c0), .val (.int c1), .val (.int c2), .val (.int c3), .val (.int c4), .val (.int c5), .val (.int c6), .val (.int (((ct.toUInt32 >>> ((6 : Int32) &&& 31).toUInt32).toInt32) &&& (3 : Int32)))] [(.ref an), (.ref an), (.ref as), (.ref as)])
      refine own_go (fun _ => XS.iconst Xq1.here hx rfl (hb hby d2_143)) ?_
      show own_R p.tables e below _ Tq1 (mkF m 144 #[.val (.int ct), .val (.long dr), .second, .val (.int c0), .val (.int c1), .val (.int c2), .val (.int c3), .val (.int c4), .val (.int c5), .val (.int c6), .val (.int (((ct.toUInt32 >>> ((6 : Int32) &&& 31).toUInt32).toInt32) &&& (3 : Int32)))] [(.int (2 : Int32)), (.ref an), (.ref an), (.ref as), (.ref as)])
      refine own_go (fun _ => XS.iload Xq1.here hx rfl (hb hby d2_144) rfl ) ?_
      show own_R p.tables e below _ Tq1 (mkF m 146 #[.val (.int ct), .val (.long dr), .second, .val (.int c0), .val (.int c1), .val (.int c2), .val (.int c3), .val (.int c4), .val (.int c5), .val (.int c6), .val (.int (((ct.toUInt32 >>> ((6 : Int32) &&& 31).toUInt32).toInt32) &&& (3 : Int32)))] [(.int c2), (.int (2 : Int32)), (.ref an), (.ref an), (.ref as), (.ref as)])
      obtain ⟨Tq2, hq2, Xq2, eq2, Wq2, Vq2, stq2⟩ := own_stC Xq1 hx hZ eq1 Vq1 (j := (2 : Int32)) ⟨by decide, by decide⟩ 2 rfl (Nat.le_of_ble_eq_true rfl) (own_nar hc2) (g := (mkF m 146 #[.val (.int ct), .val (.long dr), .second, .val (.int c0), .val (.int c1), .val (.int c2), .val (.int c3), .val (.int c4), .val (.int c5), .val (.int c6), .val (.int (((ct.toUInt32 >>> ((6 : Int32) &&& 31).toUInt32).toInt32) &&& (3 : Int32)))] [(.int c2), (.int (2 : Int32)), (.ref an), (.ref an), (.ref as), (.ref as)])) rfl rfl (hb hby d2_146)
      have Kq2 : Keep h0 hq2 [] := Kq1.wr Wq2 (Or.inr qn)
      have Oq2 : Old Z n0 hq2 := Oq1.wr Wq2 gna
      have Exq2 := Exq1.wr Wq2
      have Cq2 := Cq1.other Wq2 (Or.inl nsn)
      have Uvq2 := Uvq1.other Wq2 (Or.inl nsn)
      have Nq2 := Fr.snoc Xq2 Nq1 gna
      refine own_go stq2 ?_
      show own_R p.tables e below _ Tq2 (mkF m 147 #[.val (.int ct), .val (.long dr), .second, .val (.int c0), .val (.int c1), .val (.int c2), .val (.int c3), .val (.int c4), .val (.int c5), .val (.int c6), .val (.int (((ct.toUInt32 >>> ((6 : Int32) &&& 31).toUInt32).toInt32) &&& (3 : Int32)))] [(.ref an), (.ref as), (.ref as)])
      refine own_go (fun _ => XS.dup Xq2.here hx rfl (hb hby d2_147) rfl rfl) ?_
      show own_R p.tables e below _ Tq2 (mkF m 148 #[.val (.int ct), .val (.long dr), .second, .val (.int c0), .val (.int c1), .val (.int c2), .val (.int c3), .val (.int c4), .val (.int c5), .val (.int c6), .val (.int (((ct.toUInt32 >>> ((6 : Int32) &&& 31).toUInt32).toInt32) &&& (3 : Int32)))] [(.ref an), (.ref an), (.ref as), (.ref as)])
      refine own_go (fun _ => XS.iconst Xq2.here hx rfl (hb hby d2_148)) ?_
      show own_R p.tables e below _ Tq2 (mkF m 149 #[.val (.int ct), .val (.long dr), .second, .val (.int c0), .val (.int c1), .val (.int c2), .val (.int c3), .val (.int c4), .val (.int c5), .val (.int c6), .val (.int (((ct.toUInt32 >>> ((6 : Int32) &&& 31).toUInt32).toInt32) &&& (3 : Int32)))] [(.int (3 : Int32)), (.ref an), (.ref an), (.ref as), (.ref as)])
      refine own_go (fun _ => XS.iload Xq2.here hx rfl (hb hby d2_149) rfl ) ?_
      show own_R p.tables e below _ Tq2 (mkF m 151 #[.val (.int ct), .val (.long dr), .second, .val (.int c0), .val (.int c1), .val (.int c2), .val (.int c3), .val (.int c4), .val (.int c5), .val (.int c6), .val (.int (((ct.toUInt32 >>> ((6 : Int32) &&& 31).toUInt32).toInt32) &&& (3 : Int32)))] [(.int c3), (.int (3 : Int32)), (.ref an), (.ref an), (.ref as), (.ref as)])
      obtain ⟨Tq3, hq3, Xq3, eq3, Wq3, Vq3, stq3⟩ := own_stC Xq2 hx hZ eq2 Vq2 (j := (3 : Int32)) ⟨by decide, by decide⟩ 3 rfl (Nat.le_of_ble_eq_true rfl) (own_nar hc3) (g := (mkF m 151 #[.val (.int ct), .val (.long dr), .second, .val (.int c0), .val (.int c1), .val (.int c2), .val (.int c3), .val (.int c4), .val (.int c5), .val (.int c6), .val (.int (((ct.toUInt32 >>> ((6 : Int32) &&& 31).toUInt32).toInt32) &&& (3 : Int32)))] [(.int c3), (.int (3 : Int32)), (.ref an), (.ref an), (.ref as), (.ref as)])) rfl rfl (hb hby d2_151)
      have Kq3 : Keep h0 hq3 [] := Kq2.wr Wq3 (Or.inr qn)
      have Oq3 : Old Z n0 hq3 := Oq2.wr Wq3 gna
      have Exq3 := Exq2.wr Wq3
      have Cq3 := Cq2.other Wq3 (Or.inl nsn)
      have Uvq3 := Uvq2.other Wq3 (Or.inl nsn)
      have Nq3 := Fr.snoc Xq3 Nq2 gna
      refine own_go stq3 ?_
      show own_R p.tables e below _ Tq3 (mkF m 152 #[.val (.int ct), .val (.long dr), .second, .val (.int c0), .val (.int c1), .val (.int c2), .val (.int c3), .val (.int c4), .val (.int c5), .val (.int c6), .val (.int (((ct.toUInt32 >>> ((6 : Int32) &&& 31).toUInt32).toInt32) &&& (3 : Int32)))] [(.ref an), (.ref as), (.ref as)])
      refine own_go (fun _ => XS.dup Xq3.here hx rfl (hb hby d2_152) rfl rfl) ?_
      show own_R p.tables e below _ Tq3 (mkF m 153 #[.val (.int ct), .val (.long dr), .second, .val (.int c0), .val (.int c1), .val (.int c2), .val (.int c3), .val (.int c4), .val (.int c5), .val (.int c6), .val (.int (((ct.toUInt32 >>> ((6 : Int32) &&& 31).toUInt32).toInt32) &&& (3 : Int32)))] [(.ref an), (.ref an), (.ref as), (.ref as)])
      refine own_go (fun _ => XS.iconst Xq3.here hx rfl (hb hby d2_153)) ?_
      show own_R p.tables e below _ Tq3 (mkF m 154 #[.val (.int ct), .val (.long dr), .second, .val (.int c0), .val (.int c1), .val (.int c2), .val (.int c3), .val (.int c4), .val (.int c5), .val (.int c6), .val (.int (((ct.toUInt32 >>> ((6 : Int32) &&& 31).toUInt32).toInt32) &&& (3 : Int32)))] [(.int (4 : Int32)), (.ref an), (.ref an), (.ref as), (.ref as)])
      refine own_go (fun _ => XS.iload Xq3.here hx rfl (hb hby d2_154) rfl ) ?_
      show own_R p.tables e below _ Tq3 (mkF m 156 #[.val (.int ct), .val (.long dr), .second, .val (.int c0), .val (.int c1), .val (.int c2), .val (.int c3), .val (.int c4), .val (.int c5), .val (.int c6), .val (.int (((ct.toUInt32 >>> ((6 : Int32) &&& 31).toUInt32).toInt32) &&& (3 : Int32)))] [(.int c4), (.int (4 : Int32)), (.ref an), (.ref an), (.ref as), (.ref as)])
      obtain ⟨Tq4, hq4, Xq4, eq4, Wq4, Vq4, stq4⟩ := own_stC Xq3 hx hZ eq3 Vq3 (j := (4 : Int32)) ⟨by decide, by decide⟩ 4 rfl (Nat.le_of_ble_eq_true rfl) (own_nar hc4) (g := (mkF m 156 #[.val (.int ct), .val (.long dr), .second, .val (.int c0), .val (.int c1), .val (.int c2), .val (.int c3), .val (.int c4), .val (.int c5), .val (.int c6), .val (.int (((ct.toUInt32 >>> ((6 : Int32) &&& 31).toUInt32).toInt32) &&& (3 : Int32)))] [(.int c4), (.int (4 : Int32)), (.ref an), (.ref an), (.ref as), (.ref as)])) rfl rfl (hb hby d2_156)
      have Kq4 : Keep h0 hq4 [] := Kq3.wr Wq4 (Or.inr qn)
      have Oq4 : Old Z n0 hq4 := Oq3.wr Wq4 gna
      have Exq4 := Exq3.wr Wq4
      have Cq4 := Cq3.other Wq4 (Or.inl nsn)
      have Uvq4 := Uvq3.other Wq4 (Or.inl nsn)
      have Nq4 := Fr.snoc Xq4 Nq3 gna
      refine own_go stq4 ?_
      show own_R p.tables e below _ Tq4 (mkF m 157 #[.val (.int ct), .val (.long dr), .second, .val (.int c0), .val (.int c1), .val (.int c2), .val (.int c3), .val (.int c4), .val (.int c5), .val (.int c6), .val (.int (((ct.toUInt32 >>> ((6 : Int32) &&& 31).toUInt32).toInt32) &&& (3 : Int32)))] [(.ref an), (.ref as), (.ref as)])
      refine own_go (fun _ => XS.dup Xq4.here hx rfl (hb hby d2_157) rfl rfl) ?_
      show own_R p.tables e below _ Tq4 (mkF m 158 #[.val (.int ct), .val (.long dr), .second, .val (.int c0), .val (.int c1), .val (.int c2), .val (.int c3), .val (.int c4), .val (.int c5), .val (.int c6), .val (.int (((ct.toUInt32 >>> ((6 : Int32) &&& 31).toUInt32).toInt32) &&& (3 : Int32)))] [(.ref an), (.ref an), (.ref as), (.ref as)])
      refine own_go (fun _ => XS.iconst Xq4.here hx rfl (hb hby d2_158)) ?_
      show own_R p.tables e below _ Tq4 (mkF m 159 #[.val (.int ct), .val (.long dr), .second, .val (.int c0), .val (.int c1), .val (.int c2), .val (.int c3), .val (.int c4), .val (.int c5), .val (.int c6), .val (.int (((ct.toUInt32 >>> ((6 : Int32) &&& 31).toUInt32).toInt32) &&& (3 : Int32)))] [(.int (5 : Int32)), (.ref an), (.ref an), (.ref as), (.ref as)])
      refine own_go (fun _ => XS.iload Xq4.here hx rfl (hb hby d2_159) rfl ) ?_
      show own_R p.tables e below _ Tq4 (mkF m 161 #[.val (.int ct), .val (.long dr), .second, .val (.int c0), .val (.int c1), .val (.int c2), .val (.int c3), .val (.int c4), .val (.int c5), .val (.int c6), .val (.int (((ct.toUInt32 >>> ((6 : Int32) &&& 31).toUInt32).toInt32) &&& (3 : Int32)))] [(.int c5), (.int (5 : Int32)), (.ref an), (.ref an), (.ref as), (.ref as)])
      obtain ⟨Tq5, hq5, Xq5, eq5, Wq5, Vq5, stq5⟩ := own_stC Xq4 hx hZ eq4 Vq4 (j := (5 : Int32)) ⟨by decide, by decide⟩ 5 rfl (Nat.le_of_ble_eq_true rfl) (own_nar hc5) (g := (mkF m 161 #[.val (.int ct), .val (.long dr), .second, .val (.int c0), .val (.int c1), .val (.int c2), .val (.int c3), .val (.int c4), .val (.int c5), .val (.int c6), .val (.int (((ct.toUInt32 >>> ((6 : Int32) &&& 31).toUInt32).toInt32) &&& (3 : Int32)))] [(.int c5), (.int (5 : Int32)), (.ref an), (.ref an), (.ref as), (.ref as)])) rfl rfl (hb hby d2_161)
      have Kq5 : Keep h0 hq5 [] := Kq4.wr Wq5 (Or.inr qn)
      have Oq5 : Old Z n0 hq5 := Oq4.wr Wq5 gna
      have Exq5 := Exq4.wr Wq5
      have Cq5 := Cq4.other Wq5 (Or.inl nsn)
      have Uvq5 := Uvq4.other Wq5 (Or.inl nsn)
      have Nq5 := Fr.snoc Xq5 Nq4 gna
      refine own_go stq5 ?_
      show own_R p.tables e below _ Tq5 (mkF m 162 #[.val (.int ct), .val (.long dr), .second, .val (.int c0), .val (.int c1), .val (.int c2), .val (.int c3), .val (.int c4), .val (.int c5), .val (.int c6), .val (.int (((ct.toUInt32 >>> ((6 : Int32) &&& 31).toUInt32).toInt32) &&& (3 : Int32)))] [(.ref an), (.ref as), (.ref as)])
      refine own_go (fun _ => XS.dup Xq5.here hx rfl (hb hby d2_162) rfl rfl) ?_
      show own_R p.tables e below _ Tq5 (mkF m 163 #[.val (.int ct), .val (.long dr), .second, .val (.int c0), .val (.int c1), .val (.int c2), .val (.int c3), .val (.int c4), .val (.int c5), .val (.int c6), .val (.int (((ct.toUInt32 >>> ((6 : Int32) &&& 31).toUInt32).toInt32) &&& (3 : Int32)))] [(.ref an), (.ref an), (.ref as), (.ref as)])
      refine own_go (fun _ => XS.bipush Xq5.here hx rfl (hb hby d2_163)) ?_
      show own_R p.tables e below _ Tq5 (mkF m 165 #[.val (.int ct), .val (.long dr), .second, .val (.int c0), .val (.int c1), .val (.int c2), .val (.int c3), .val (.int c4), .val (.int c5), .val (.int c6), .val (.int (((ct.toUInt32 >>> ((6 : Int32) &&& 31).toUInt32).toInt32) &&& (3 : Int32)))] [(.int (6 : Int32)), (.ref an), (.ref an), (.ref as), (.ref as)])
      refine own_go (fun _ => XS.iload Xq5.here hx rfl (hb hby d2_165) rfl ) ?_
      show own_R p.tables e below _ Tq5 (mkF m 167 #[.val (.int ct), .val (.long dr), .second, .val (.int c0), .val (.int c1), .val (.int c2), .val (.int c3), .val (.int c4), .val (.int c5), .val (.int c6), .val (.int (((ct.toUInt32 >>> ((6 : Int32) &&& 31).toUInt32).toInt32) &&& (3 : Int32)))] [(.int c6), (.int (6 : Int32)), (.ref an), (.ref an), (.ref as), (.ref as)])
      obtain ⟨Tq6, hq6, Xq6, eq6, Wq6, Vq6, stq6⟩ := own_stC Xq5 hx hZ eq5 Vq5 (j := (6 : Int32)) ⟨by decide, by decide⟩ 6 rfl (Nat.le_of_ble_eq_true rfl) (own_nar hc6) (g := (mkF m 167 #[.val (.int ct), .val (.long dr), .second, .val (.int c0), .val (.int c1), .val (.int c2), .val (.int c3), .val (.int c4), .val (.int c5), .val (.int c6), .val (.int (((ct.toUInt32 >>> ((6 : Int32) &&& 31).toUInt32).toInt32) &&& (3 : Int32)))] [(.int c6), (.int (6 : Int32)), (.ref an), (.ref an), (.ref as), (.ref as)])) rfl rfl (hb hby d2_167)
      have Kq6 : Keep h0 hq6 [] := Kq5.wr Wq6 (Or.inr qn)
      have Oq6 : Old Z n0 hq6 := Oq5.wr Wq6 gna
      have Exq6 := Exq5.wr Wq6
      have Cq6 := Cq5.other Wq6 (Or.inl nsn)
      have Uvq6 := Uvq5.other Wq6 (Or.inl nsn)
      have Nq6 := Fr.snoc Xq6 Nq5 gna
      refine own_go stq6 ?_
      show own_R p.tables e below _ Tq6 (mkF m 168 #[.val (.int ct), .val (.long dr), .second, .val (.int c0), .val (.int c1), .val (.int c2), .val (.int c3), .val (.int c4), .val (.int c5), .val (.int c6), .val (.int (((ct.toUInt32 >>> ((6 : Int32) &&& 31).toUInt32).toInt32) &&& (3 : Int32)))] [(.ref an), (.ref as), (.ref as)])
      have hws : ∀ d ∈ StrChars.Road.words, d.before a0 Z = true := fun d hd => hw d ((by decide +kernel : ∀ d ∈ StrChars.Road.words, d ∈ tables_1) d hd)
      have hp : ∀ c ∈ ([c0, c1, c2, c3, c4, c5, c6] : List Int32), own_ch c := by
        intro c hc
        simp only [List.mem_cons, List.not_mem_nil, or_false] at hc
        rcases hc with rfl | rfl | rfl | rfl | rfl | rfl | rfl
        · exact hc0
        · exact hc1
        · exact hc2
        · exact hc3
        · exact hc4
        · exact hc5
        · exact hc6
      obtain ⟨vz, Tz, Lz, Xz, Qz, stz⟩ := own_backI Xq6 hx hZ hown (y := (⟨"java/lang/String", "<init>", "([C)V"⟩ : MethodName)) rfl (hw _ (List.mem_of_getElem? (i := 18) rfl)) (hw _ (List.mem_of_getElem? (i := 19) rfl)) (hw _ (List.mem_of_getElem? (i := 20) rfl)) (hw _ (List.mem_of_getElem? (i := 16) rfl)) (by decide) (W := 1) (kc := 1) (ks := 7) (StrChars.Road.backV (R := ({ frames := 4, cells := 3, slots := 18, locals := 80 } : Room)) (W := 1) hZ hws (kI := 4) (hw _ (List.mem_of_getElem? (i := 15) rfl)) (cs := [c0, c1, c2, c3, c4, c5, c6]) (bs := ([c0, c1, c2, c3, c4, c5, c6] : List Int32).map (fun c => c.toInt8.toInt32)) (n := 7) gsa (Nat.le_trans Z0 Kq6.1) Exq6 Uvq6 Cq6 Vq6 (O2.ext Oq6.2) hzc rfl rfl (by decide) (by decide) hp rfl (by decide) (by decide)) (g := (mkF m 168 #[.val (.int ct), .val (.long dr), .second, .val (.int c0), .val (.int c1), .val (.int c2), .val (.int c3), .val (.int c4), .val (.int c5), .val (.int c6), .val (.int (((ct.toUInt32 >>> ((6 : Int32) &&& 31).toUInt32).toInt32) &&& (3 : Int32)))] [(.ref an), (.ref as), (.ref as)])) rfl (by rw [hml]; rfl) (a := as) (argsL := [(.ref an)]) (rest := [(.ref as)]) (lenOf pd___C_V rfl) rfl rfl (by show 2 * 0 + _ ≤ _; exact Nat.le_of_eq rfl) (hb hby d2_168) eq6 (by decide) (by decide)
      obtain ⟨rfl, Nzq, Kz, Ez, Cz, tz, kz, z1, z2, z3, Vz, Az⟩ := Qz
      have Nz := Fr.app Nq6 Nzq
      have Kf : Keep h0 Tz.heap [] := Kq6.trans Kz (allS (Or.inr qs) all0)
      refine own_go stz ?_
      show own_R p.tables e below _ Tz (mkF m 171 #[.val (.int ct), .val (.long dr), .second, .val (.int c0), .val (.int c1), .val (.int c2), .val (.int c3), .val (.int c4), .val (.int c5), .val (.int c6), .val (.int (((ct.toUInt32 >>> ((6 : Int32) &&& 31).toUInt32).toInt32) &&& (3 : Int32)))] [(.ref as)])
      exact own_end Xz (some (.ref as)) (fun h => by rw [hret] at h; cases h) hlk (fun fs hr => own_retA Xz hx hret rfl rfl (hb hby d2_171) hr) ⟨as, [c0, c1, c2, c3, c4, c5, c6], rfl, Nz, Kf, tz, kz, Ez, Vz, Cz, Az, hp, Nat.le_of_ble_eq_true rfl⟩ (by decide) (by decide)
    · show own_R p.tables e below _ Ta5 (mkF m 122 #[.val (.int ct), .val (.long dr), .second, .val (.int c0), .val (.int c1), .val (.int c2), .val (.int c3), .val (.int c4), .val (.int c5), .val (.int c6), .val (.int (((ct.toUInt32 >>> ((6 : Int32) &&& 31).toUInt32).toInt32) &&& (3 : Int32)))] [(.int (3 : Int32)), (.int (((ct.toUInt32 >>> ((6 : Int32) &&& 31).toUInt32).toInt32) &&& (3 : Int32)))])
      refine own_go (fun _ => XS.icmpYes Xa5.here hx rfl (pc0 := 122) (pc' := 172) rfl (hb hby d2_122) rfl (feq hl3).2 (by decide) (by decide)) ?_
      show own_R p.tables e below _ Ta5 (mkF m 172 #[.val (.int ct), .val (.long dr), .second, .val (.int c0), .val (.int c1), .val (.int c2), .val (.int c3), .val (.int c4), .val (.int c5), .val (.int c6), .val (.int (((ct.toUInt32 >>> ((6 : Int32) &&& 31).toUInt32).toInt32) &&& (3 : Int32)))] [])
      obtain ⟨Ts, hs, Xs, es, Es, As, Ds, -, sts⟩ := newO Xa5 hx hZ hown (hw _ (List.mem_of_getElem? (i := 14) rfl)) (hw _ (List.mem_of_getElem? (i := 15) rfl)) (hw _ (List.mem_of_getElem? (i := 16) rfl)) ea5 (g := (mkF m 172 #[.val (.int ct), .val (.long dr), .second, .val (.int c0), .val (.int c1), .val (.int c2), .val (.int c3), .val (.int c4), .val (.int c5), .val (.int c6), .val (.int (((ct.toUInt32 >>> ((6 : Int32) &&& 31).toUInt32).toInt32) &&& (3 : Int32)))] [])) rfl (hb hby d2_172) (by decide) (by decide)
      obtain ⟨as, gs⟩ : ∃ z, z = h0.size := ⟨_, rfl⟩
      rw [← gs] at As Ds sts
      refine own_go sts ?_
      show own_R p.tables e below _ Ts (mkF m 175 #[.val (.int ct), .val (.long dr), .second, .val (.int c0), .val (.int c1), .val (.int c2), .val (.int c3), .val (.int c4), .val (.int c5), .val (.int c6), .val (.int (((ct.toUInt32 >>> ((6 : Int32) &&& 31).toUInt32).toInt32) &&& (3 : Int32)))] [(.ref as)])
      refine own_go (fun _ => XS.dup Xs.here hx rfl (hb hby d2_175) rfl rfl) ?_
      show own_R p.tables e below _ Ts (mkF m 176 #[.val (.int ct), .val (.long dr), .second, .val (.int c0), .val (.int c1), .val (.int c2), .val (.int c3), .val (.int c4), .val (.int c5), .val (.int c6), .val (.int (((ct.toUInt32 >>> ((6 : Int32) &&& 31).toUInt32).toInt32) &&& (3 : Int32)))] [(.ref as), (.ref as)])
      refine own_go (fun _ => XS.bipush Xs.here hx rfl (hb hby d2_176)) ?_
      show own_R p.tables e below _ Ts (mkF m 178 #[.val (.int ct), .val (.long dr), .second, .val (.int c0), .val (.int c1), .val (.int c2), .val (.int c3), .val (.int c4), .val (.int c5), .val (.int c6), .val (.int (((ct.toUInt32 >>> ((6 : Int32) &&& 31).toUInt32).toInt32) &&& (3 : Int32)))] [(.int (6 : Int32)), (.ref as), (.ref as)])
      obtain ⟨Tn, hn, kn, Xn, en, En, An, stn⟩ := newP Xs hx hZ (hw _ (List.mem_of_getElem? (i := 17) rfl)) es (g := (mkF m 178 #[.val (.int ct), .val (.long dr), .second, .val (.int c0), .val (.int c1), .val (.int c2), .val (.int c3), .val (.int c4), .val (.int c5), .val (.int c6), .val (.int (((ct.toUInt32 >>> ((6 : Int32) &&& 31).toUInt32).toInt32) &&& (3 : Int32)))] [(.int (6 : Int32)), (.ref as), (.ref as)])) rfl (hb hby d2_178) rfl (by decide) (cap := 6) (by decide) (by decide) (by decide) (by decide)
      obtain ⟨an, gn⟩ : ∃ z, z = hs.size := ⟨_, rfl⟩
      rw [← gn] at An stn
      refine own_go stn ?_
      show own_R p.tables e below _ Tn (mkF m 180 #[.val (.int ct), .val (.long dr), .second, .val (.int c0), .val (.int c1), .val (.int c2), .val (.int c3), .val (.int c4), .val (.int c5), .val (.int c6), .val (.int (((ct.toUInt32 >>> ((6 : Int32) &&& 31).toUInt32).toInt32) &&& (3 : Int32)))] [(.ref an), (.ref as), (.ref as)])
      have Vn : Arv Z hn an kn .char (6 : Int32) [(.int 0), (.int 0), (.int 0), (.int 0), (.int 0), (.int 0)] (.int 0) := (Arv.new An (by decide)).pad (pad_rep [] (.int 0) 6)
      have gsa : n0 ≤ as := Nat.le_trans Z0 (Nat.le_of_eq gs.symm)
      have qs : h0.size ≤ as := Nat.le_of_eq gs.symm
      have qn : h0.size ≤ an := Nat.le_trans Es.1 (Nat.le_of_eq gn.symm)
      have gna : n0 ≤ an := Nat.le_trans Z0 qn
      have nsn : as ≠ an := Nat.ne_of_lt (Nat.lt_of_lt_of_le As.lt (Nat.le_of_eq gn.symm))
      have Kn : Keep h0 hn [] := ((Keep.refl h0 []).ext Es).ext En
      have On : Old Z n0 hn := (X00.ext Es).ext En
      have Exn := As.ext En
      have Cn : Fld Z hn as "java/lang/String" "coder" "B" (.int (0 : Int32)) := (Ds (Or.inr (hw _ (List.mem_of_getElem? (i := 41) rfl))) (ty := .byte) (by decide)).ext En
      have Uvn : Fld Z hn as "java/lang/String" "value" "[B" .null := (Ds (Or.inr (hw _ (List.mem_of_getElem? (i := 43) rfl))) (ty := (.array .byte)) (by decide)).ext En
      refine own_go (fun _ => XS.dup Xn.here hx rfl (hb hby d2_180) rfl rfl) ?_
      show own_R p.tables e below _ Tn (mkF m 181 #[.val (.int ct), .val (.long dr), .second, .val (.int c0), .val (.int c1), .val (.int c2), .val (.int c3), .val (.int c4), .val (.int c5), .val (.int c6), .val (.int (((ct.toUInt32 >>> ((6 : Int32) &&& 31).toUInt32).toInt32) &&& (3 : Int32)))] [(.ref an), (.ref an), (.ref as), (.ref as)])
      refine own_go (fun _ => XS.iconst Xn.here hx rfl (hb hby d2_181)) ?_
      show own_R p.tables e below _ Tn (mkF m 182 #[.val (.int ct), .val (.long dr), .second, .val (.int c0), .val (.int c1), .val (.int c2), .val (.int c3), .val (.int c4), .val (.int c5), .val (.int c6), .val (.int (((ct.toUInt32 >>> ((6 : Int32) &&& 31).toUInt32).toInt32) &&& (3 : Int32)))] [(.int (0 : Int32)), (.ref an), (.ref an), (.ref as), (.ref as)])
      refine own_go (fun _ => XS.iloadN Xn.here hx rfl (hb hby d2_182) rfl ) ?_
      show own_R p.tables e below _ Tn (mkF m 183 #[.val (.int ct), .val (.long dr), .second, .val (.int c0), .val (.int c1), .val (.int c2), .val (.int c3), .val (.int c4), .val (.int c5), .val (.int c6), .val (.int (((ct.toUInt32 >>> ((6 : Int32) &&& 31).toUInt32).toInt32) &&& (3 : Int32)))] [(.int c0), (.int (0 : Int32)), (.ref an), (.ref an), (.ref as), (.ref as)])
      obtain ⟨Tq0, hq0, Xq0, eq0, Wq0, Vq0, stq0⟩ := own_stC Xn hx hZ en Vn (j := (0 : Int32)) ⟨by decide, by decide⟩ 0 rfl (Nat.le_of_ble_eq_true rfl) (own_nar hc0) (g := (mkF m 183 #[.val (.int ct), .val (.long dr), .second, .val (.int c0), .val (.int c1), .val (.int c2), .val (.int c3), .val (.int c4), .val (.int c5), .val (.int c6), .val (.int (((ct.toUInt32 >>> ((6 : Int32) &&& 31).toUInt32).toInt32) &&& (3 : Int32)))] [(.int c0), (.int (0 : Int32)), (.ref an), (.ref an), (.ref as), (.ref as)])) rfl rfl (hb hby d2_183)
      have Kq0 : Keep h0 hq0 [] := Kn.wr Wq0 (Or.inr qn)
      have Oq0 : Old Z n0 hq0 := On.wr Wq0 gna
      have Exq0 := Exn.wr Wq0
      have Cq0 := Cn.other Wq0 (Or.inl nsn)
      have Uvq0 := Uvn.other Wq0 (Or.inl nsn)
      have Nq0 := Fr.snoc Xq0 Na5 gna
      refine own_go stq0 ?_
      show own_R p.tables e below _ Tq0 (mkF m 184 #[.val (.int ct), .val (.long dr), .second, .val (.int c0), .val (.int c1), .val (.int c2), .val (.int c3), .val (.int c4), .val (.int c5), .val (.int c6), .val (.int (((ct.toUInt32 >>> ((6 : Int32) &&& 31).toUInt32).toInt32) &&& (3 : Int32)))] [(.ref an), (.ref as), (.ref as)])
      refine own_go (fun _ => XS.dup Xq0.here hx rfl (hb hby d2_184) rfl rfl) ?_
      show own_R p.tables e below _ Tq0 (mkF m 185 #[.val (.int ct), .val (.long dr), .second, .val (.int c0), .val (.int c1), .val (.int c2), .val (.int c3), .val (.int c4), .val (.int c5), .val (.int c6), .val (.int (((ct.toUInt32 >>> ((6 : Int32) &&& 31).toUInt32).toInt32) &&& (3 : Int32)))] [(.ref an), (.ref an), (.ref as), (.ref as)])
      refine own_go (fun _ => XS.iconst Xq0.here hx rfl (hb hby d2_185)) ?_
      show own_R p.tables e below _ Tq0 (mkF m 186 #[.val (.int ct), .val (.long dr), .second, .val (.int c0), .val (.int c1), .val (.int c2), .val (.int c3), .val (.int c4), .val (.int c5), .val (.int c6), .val (.int (((ct.toUInt32 >>> ((6 : Int32) &&& 31).toUInt32).toInt32) &&& (3 : Int32)))] [(.int (1 : Int32)), (.ref an), (.ref an), (.ref as), (.ref as)])
      refine own_go (fun _ => XS.iload Xq0.here hx rfl (hb hby d2_186) rfl ) ?_
      show own_R p.tables e below _ Tq0 (mkF m 188 #[.val (.int ct), .val (.long dr), .second, .val (.int c0), .val (.int c1), .val (.int c2), .val (.int c3), .val (.int c4), .val (.int c5), .val (.int c6), .val (.int (((ct.toUInt32 >>> ((6 : Int32) &&& 31).toUInt32).toInt32) &&& (3 : Int32)))] [(.int c1), (.int (1 : Int32)), (.ref an), (.ref an), (.ref as), (.ref as)])
      obtain ⟨Tq1, hq1, Xq1, eq1, Wq1, Vq1, stq1⟩ := own_stC Xq0 hx hZ eq0 Vq0 (j := (1 : Int32)) ⟨by decide, by decide⟩ 1 rfl (Nat.le_of_ble_eq_true rfl) (own_nar hc1) (g := (mkF m 188 #[.val (.int ct), .val (.long dr), .second, .val (.int c0), .val (.int c1), .val (.int c2), .val (.int c3), .val (.int c4), .val (.int c5), .val (.int c6), .val (.int (((ct.toUInt32 >>> ((6 : Int32) &&& 31).toUInt32).toInt32) &&& (3 : Int32)))] [(.int c1), (.int (1 : Int32)), (.ref an), (.ref an), (.ref as), (.ref as)])) rfl rfl (hb hby d2_188)
      have Kq1 : Keep h0 hq1 [] := Kq0.wr Wq1 (Or.inr qn)
      have Oq1 : Old Z n0 hq1 := Oq0.wr Wq1 gna
      have Exq1 := Exq0.wr Wq1
      have Cq1 := Cq0.other Wq1 (Or.inl nsn)
      have Uvq1 := Uvq0.other Wq1 (Or.inl nsn)
      have Nq1 := Fr.snoc Xq1 Nq0 gna
      refine own_go stq1 ?_
      show own_R p.tables e below _ Tq1 (mkF m 189 #[.val (.int ct), .val (.long dr), .second, .val (.int c0), .val (.int c1), .val (.int c2), .val (.int c3), .val (.int c4), .val (.int c5), .val (.int c6), .val (.int (((ct.toUInt32 >>> ((6 : Int32) &&& 31).toUInt32).toInt32) &&& (3 : Int32)))] [(.ref an), (.ref as), (.ref as)])
      refine own_go (fun _ => XS.dup Xq1.here hx rfl (hb hby d2_189) rfl rfl) ?_
      show own_R p.tables e below _ Tq1 (mkF m 190 #[.val (.int ct), .val (.long dr), .second, .val (.int c0), .val (.int c1), .val (.int c2), .val (.int c3), .val (.int c4), .val (.int c5), .val (.int c6), .val (.int (((ct.toUInt32 >>> ((6 : Int32) &&& 31).toUInt32).toInt32) &&& (3 : Int32)))] [(.ref an), (.ref an), (.ref as), (.ref as)])
      refine own_go (fun _ => XS.iconst Xq1.here hx rfl (hb hby d2_190)) ?_
      show own_R p.tables e below _ Tq1 (mkF m 191 #[.val (.int ct), .val (.long dr), .second, .val (.int c0), .val (.int c1), .val (.int c2), .val (.int c3), .val (.int c4), .val (.int c5), .val (.int c6), .val (.int (((ct.toUInt32 >>> ((6 : Int32) &&& 31).toUInt32).toInt32) &&& (3 : Int32)))] [(.int (2 : Int32)), (.ref an), (.ref an), (.ref as), (.ref as)])
      refine own_go (fun _ => XS.iload Xq1.here hx rfl (hb hby d2_191) rfl ) ?_
      show own_R p.tables e below _ Tq1 (mkF m 193 #[.val (.int ct), .val (.long dr), .second, .val (.int c0), .val (.int c1), .val (.int c2), .val (.int c3), .val (.int c4), .val (.int c5), .val (.int c6), .val (.int (((ct.toUInt32 >>> ((6 : Int32) &&& 31).toUInt32).toInt32) &&& (3 : Int32)))] [(.int c2), (.int (2 : Int32)), (.ref an), (.ref an), (.ref as), (.ref as)])
      obtain ⟨Tq2, hq2, Xq2, eq2, Wq2, Vq2, stq2⟩ := own_stC Xq1 hx hZ eq1 Vq1 (j := (2 : Int32)) ⟨by decide, by decide⟩ 2 rfl (Nat.le_of_ble_eq_true rfl) (own_nar hc2) (g := (mkF m 193 #[.val (.int ct), .val (.long dr), .second, .val (.int c0), .val (.int c1), .val (.int c2), .val (.int c3), .val (.int c4), .val (.int c5), .val (.int c6), .val (.int (((ct.toUInt32 >>> ((6 : Int32) &&& 31).toUInt32).toInt32) &&& (3 : Int32)))] [(.int c2), (.int (2 : Int32)), (.ref an), (.ref an), (.ref as), (.ref as)])) rfl rfl (hb hby d2_193)
      have Kq2 : Keep h0 hq2 [] := Kq1.wr Wq2 (Or.inr qn)
      have Oq2 : Old Z n0 hq2 := Oq1.wr Wq2 gna
      have Exq2 := Exq1.wr Wq2
      have Cq2 := Cq1.other Wq2 (Or.inl nsn)
      have Uvq2 := Uvq1.other Wq2 (Or.inl nsn)
      have Nq2 := Fr.snoc Xq2 Nq1 gna
      refine own_go stq2 ?_
      show own_R p.tables e below _ Tq2 (mkF m 194 #[.val (.int ct), .val (.long dr), .second, .val (.int c0), .val (.int c1), .val (.int c2), .val (.int c3), .val (.int c4), .val (.int c5), .val (.int c6), .val (.int (((ct.toUInt32 >>> ((6 : Int32) &&& 31).toUInt32).toInt32) &&& (3 : Int32)))] [(.ref an), (.ref as), (.ref as)])
      refine own_go (fun _ => XS.dup Xq2.here hx rfl (hb hby d2_194) rfl rfl) ?_
      show own_R p.tables e below _ Tq2 (mkF m 195 #[.val (.int ct), .val (.long dr), .second, .val (.int c0), .val (.int c1), .val (.int c2), .val (.int c3), .val (.int c4), .val (.int c5), .val (.int c6), .val (.int (((ct.toUInt32 >>> ((6 : Int32) &&& 31).toUInt32).toInt32) &&& (3 : Int32)))] [(.ref an), (.ref an), (.ref as), (.ref as)])
      refine own_go (fun _ => XS.iconst Xq2.here hx rfl (hb hby d2_195)) ?_
      show own_R p.tables e below _ Tq2 (mkF m 196 #[.val (.int ct), .val (.long dr), .second, .val (.int c0), .val (.int c1), .val (.int c2), .val (.int c3), .val (.int c4), .val (.int c5), .val (.int c6), .val (.int (((ct.toUInt32 >>> ((6 : Int32) &&& 31).toUInt32).toInt32) &&& (3 : Int32)))] [(.int (3 : Int32)), (.ref an), (.ref an), (.ref as), (.ref as)])
      refine own_go (fun _ => XS.iload Xq2.here hx rfl (hb hby d2_196) rfl ) ?_
      show own_R p.tables e below _ Tq2 (mkF m 198 #[.val (.int ct), .val (.long dr), .second, .val (.int c0), .val (.int c1), .val (.int c2), .val (.int c3), .val (.int c4), .val (.int c5), .val (.int c6), .val (.int (((ct.toUInt32 >>> ((6 : Int32) &&& 31).toUInt32).toInt32) &&& (3 : Int32)))] [(.int c3), (.int (3 : Int32)), (.ref an), (.ref an), (.ref as), (.ref as)])
      obtain ⟨Tq3, hq3, Xq3, eq3, Wq3, Vq3, stq3⟩ := own_stC Xq2 hx hZ eq2 Vq2 (j := (3 : Int32)) ⟨by decide, by decide⟩ 3 rfl (Nat.le_of_ble_eq_true rfl) (own_nar hc3) (g := (mkF m 198 #[.val (.int ct), .val (.long dr), .second, .val (.int c0), .val (.int c1), .val (.int c2), .val (.int c3), .val (.int c4), .val (.int c5), .val (.int c6), .val (.int (((ct.toUInt32 >>> ((6 : Int32) &&& 31).toUInt32).toInt32) &&& (3 : Int32)))] [(.int c3), (.int (3 : Int32)), (.ref an), (.ref an), (.ref as), (.ref as)])) rfl rfl (hb hby d2_198)
      have Kq3 : Keep h0 hq3 [] := Kq2.wr Wq3 (Or.inr qn)
      have Oq3 : Old Z n0 hq3 := Oq2.wr Wq3 gna
      have Exq3 := Exq2.wr Wq3
      have Cq3 := Cq2.other Wq3 (Or.inl nsn)
      have Uvq3 := Uvq2.other Wq3 (Or.inl nsn)
      have Nq3 := Fr.snoc Xq3 Nq2 gna
      refine own_go stq3 ?_
      show own_R p.tables e below _ Tq3 (mkF m 199 #[.val (.int ct), .val (.long dr), .second, .val (.int c0), .val (.int c1), .val (.int c2), .val (.int c3), .val (.int c4), .val (.int c5), .val (.int c6), .val (.int (((ct.toUInt32 >>> ((6 : Int32) &&& 31).toUInt32).toInt32) &&& (3 : Int32)))] [(.ref an), (.ref as), (.ref as)])
      refine own_go (fun _ => XS.dup Xq3.here hx rfl (hb hby d2_199) rfl rfl) ?_
      show own_R p.tables e below _ Tq3 (mkF m 200 #[.val (.int ct), .val (.long dr), .second, .val (.int c0), .val (.int c1), .val (.int c2), .val (.int c3), .val (.int c4), .val (.int c5), .val (.int c6), .val (.int (((ct.toUInt32 >>> ((6 : Int32) &&& 31).toUInt32).toInt32) &&& (3 : Int32)))] [(.ref an), (.ref an), (.ref as), (.ref as)])
      refine own_go (fun _ => XS.iconst Xq3.here hx rfl (hb hby d2_200)) ?_
      show own_R p.tables e below _ Tq3 (mkF m 201 #[.val (.int ct), .val (.long dr), .second, .val (.int c0), .val (.int c1), .val (.int c2), .val (.int c3), .val (.int c4), .val (.int c5), .val (.int c6), .val (.int (((ct.toUInt32 >>> ((6 : Int32) &&& 31).toUInt32).toInt32) &&& (3 : Int32)))] [(.int (4 : Int32)), (.ref an), (.ref an), (.ref as), (.ref as)])
      refine own_go (fun _ => XS.iload Xq3.here hx rfl (hb hby d2_201) rfl ) ?_
      show own_R p.tables e below _ Tq3 (mkF m 203 #[.val (.int ct), .val (.long dr), .second, .val (.int c0), .val (.int c1), .val (.int c2), .val (.int c3), .val (.int c4), .val (.int c5), .val (.int c6), .val (.int (((ct.toUInt32 >>> ((6 : Int32) &&& 31).toUInt32).toInt32) &&& (3 : Int32)))] [(.int c4), (.int (4 : Int32)), (.ref an), (.ref an), (.ref as), (.ref as)])
      obtain ⟨Tq4, hq4, Xq4, eq4, Wq4, Vq4, stq4⟩ := own_stC Xq3 hx hZ eq3 Vq3 (j := (4 : Int32)) ⟨by decide, by decide⟩ 4 rfl (Nat.le_of_ble_eq_true rfl) (own_nar hc4) (g := (mkF m 203 #[.val (.int ct), .val (.long dr), .second, .val (.int c0), .val (.int c1), .val (.int c2), .val (.int c3), .val (.int c4), .val (.int c5), .val (.int c6), .val (.int (((ct.toUInt32 >>> ((6 : Int32) &&& 31).toUInt32).toInt32) &&& (3 : Int32)))] [(.int c4), (.int (4 : Int32)), (.ref an), (.ref an), (.ref as), (.ref as)])) rfl rfl (hb hby d2_203)
      have Kq4 : Keep h0 hq4 [] := Kq3.wr Wq4 (Or.inr qn)
      have Oq4 : Old Z n0 hq4 := Oq3.wr Wq4 gna
      have Exq4 := Exq3.wr Wq4
      have Cq4 := Cq3.other Wq4 (Or.inl nsn)
      have Uvq4 := Uvq3.other Wq4 (Or.inl nsn)
      have Nq4 := Fr.snoc Xq4 Nq3 gna
      refine own_go stq4 ?_
      show own_R p.tables e below _ Tq4 (mkF m 204 #[.val (.int ct), .val (.long dr), .second, .val (.int c0), .val (.int c1), .val (.int c2), .val (.int c3), .val (.int c4), .val (.int c5), .val (.int c6), .val (.int (((ct.toUInt32 >>> ((6 : Int32) &&& 31).toUInt32).toInt32) &&& (3 : Int32)))] [(.ref an), (.ref as), (.ref as)])
      refine own_go (fun _ => XS.dup Xq4.here hx rfl (hb hby d2_204) rfl rfl) ?_
      show own_R p.tables e below _ Tq4 (mkF m 205 #[.val (.int ct), .val (.long dr), .second, .val (.int c0), .val (.int c1), .val (.int c2), .val (.int c3), .val (.int c4), .val (.int c5), .val (.int c6), .val (.int (((ct.toUInt32 >>> ((6 : Int32) &&& 31).toUInt32).toInt32) &&& (3 : Int32)))] [(.ref an), (.ref an), (.ref as), (.ref as)])
      refine own_go (fun _ => XS.iconst Xq4.here hx rfl (hb hby d2_205)) ?_
      show own_R p.tables e below _ Tq4 (mkF m 206 #[.val (.int ct), .val (.long dr), .second, .val (.int c0), .val (.int c1), .val (.int c2), .val (.int c3), .val (.int c4), .val (.int c5), .val (.int c6), .val (.int (((ct.toUInt32 >>> ((6 : Int32) &&& 31).toUInt32).toInt32) &&& (3 : Int32)))] [(.int (5 : Int32)), (.ref an), (.ref an), (.ref as), (.ref as)])
      refine own_go (fun _ => XS.iload Xq4.here hx rfl (hb hby d2_206) rfl ) ?_
      show own_R p.tables e below _ Tq4 (mkF m 208 #[.val (.int ct), .val (.long dr), .second, .val (.int c0), .val (.int c1), .val (.int c2), .val (.int c3), .val (.int c4), .val (.int c5), .val (.int c6), .val (.int (((ct.toUInt32 >>> ((6 : Int32) &&& 31).toUInt32).toInt32) &&& (3 : Int32)))] [(.int c5), (.int (5 : Int32)), (.ref an), (.ref an), (.ref as), (.ref as)])
      obtain ⟨Tq5, hq5, Xq5, eq5, Wq5, Vq5, stq5⟩ := own_stC Xq4 hx hZ eq4 Vq4 (j := (5 : Int32)) ⟨by decide, by decide⟩ 5 rfl (Nat.le_of_ble_eq_true rfl) (own_nar hc5) (g := (mkF m 208 #[.val (.int ct), .val (.long dr), .second, .val (.int c0), .val (.int c1), .val (.int c2), .val (.int c3), .val (.int c4), .val (.int c5), .val (.int c6), .val (.int (((ct.toUInt32 >>> ((6 : Int32) &&& 31).toUInt32).toInt32) &&& (3 : Int32)))] [(.int c5), (.int (5 : Int32)), (.ref an), (.ref an), (.ref as), (.ref as)])) rfl rfl (hb hby d2_208)
      have Kq5 : Keep h0 hq5 [] := Kq4.wr Wq5 (Or.inr qn)
      have Oq5 : Old Z n0 hq5 := Oq4.wr Wq5 gna
      have Exq5 := Exq4.wr Wq5
      have Cq5 := Cq4.other Wq5 (Or.inl nsn)
      have Uvq5 := Uvq4.other Wq5 (Or.inl nsn)
      have Nq5 := Fr.snoc Xq5 Nq4 gna
      refine own_go stq5 ?_
      show own_R p.tables e below _ Tq5 (mkF m 209 #[.val (.int ct), .val (.long dr), .second, .val (.int c0), .val (.int c1), .val (.int c2), .val (.int c3), .val (.int c4), .val (.int c5), .val (.int c6), .val (.int (((ct.toUInt32 >>> ((6 : Int32) &&& 31).toUInt32).toInt32) &&& (3 : Int32)))] [(.ref an), (.ref as), (.ref as)])
      have hws : ∀ d ∈ StrChars.Road.words, d.before a0 Z = true := fun d hd => hw d ((by decide +kernel : ∀ d ∈ StrChars.Road.words, d ∈ tables_1) d hd)
      have hp : ∀ c ∈ ([c0, c1, c2, c3, c4, c5] : List Int32), own_ch c := by
        intro c hc
        simp only [List.mem_cons, List.not_mem_nil, or_false] at hc
        rcases hc with rfl | rfl | rfl | rfl | rfl | rfl
        · exact hc0
        · exact hc1
        · exact hc2
        · exact hc3
        · exact hc4
        · exact hc5
      obtain ⟨vz, Tz, Lz, Xz, Qz, stz⟩ := own_backI Xq5 hx hZ hown (y := (⟨"java/lang/String", "<init>", "([C)V"⟩ : MethodName)) rfl (hw _ (List.mem_of_getElem? (i := 18) rfl)) (hw _ (List.mem_of_getElem? (i := 19) rfl)) (hw _ (List.mem_of_getElem? (i := 20) rfl)) (hw _ (List.mem_of_getElem? (i := 16) rfl)) (by decide) (W := 1) (kc := 1) (ks := 6) (StrChars.Road.backV (R := ({ frames := 4, cells := 3, slots := 18, locals := 80 } : Room)) (W := 1) hZ hws (kI := 4) (hw _ (List.mem_of_getElem? (i := 15) rfl)) (cs := [c0, c1, c2, c3, c4, c5]) (bs := ([c0, c1, c2, c3, c4, c5] : List Int32).map (fun c => c.toInt8.toInt32)) (n := 6) gsa (Nat.le_trans Z0 Kq5.1) Exq5 Uvq5 Cq5 Vq5 (O2.ext Oq5.2) hzc rfl rfl (by decide) (by decide) hp rfl (by decide) (by decide)) (g := (mkF m 209 #[.val (.int ct), .val (.long dr), .second, .val (.int c0), .val (.int c1), .val (.int c2), .val (.int c3), .val (.int c4), .val (.int c5), .val (.int c6), .val (.int (((ct.toUInt32 >>> ((6 : Int32) &&& 31).toUInt32).toInt32) &&& (3 : Int32)))] [(.ref an), (.ref as), (.ref as)])) rfl (by rw [hml]; rfl) (a := as) (argsL := [(.ref an)]) (rest := [(.ref as)]) (lenOf pd___C_V rfl) rfl rfl (by show 2 * 0 + _ ≤ _; exact Nat.le_of_eq rfl) (hb hby d2_209) eq5 (by decide) (by decide)
      obtain ⟨rfl, Nzq, Kz, Ez, Cz, tz, kz, z1, z2, z3, Vz, Az⟩ := Qz
      have Nz := Fr.app Nq5 Nzq
      have Kf : Keep h0 Tz.heap [] := Kq5.trans Kz (allS (Or.inr qs) all0)
      refine own_go stz ?_
      show own_R p.tables e below _ Tz (mkF m 212 #[.val (.int ct), .val (.long dr), .second, .val (.int c0), .val (.int c1), .val (.int c2), .val (.int c3), .val (.int c4), .val (.int c5), .val (.int c6), .val (.int (((ct.toUInt32 >>> ((6 : Int32) &&& 31).toUInt32).toInt32) &&& (3 : Int32)))] [(.ref as)])
      exact own_end Xz (some (.ref as)) (fun h => by rw [hret] at h; cases h) hlk (fun fs hr => own_retA Xz hx hret rfl rfl (hb hby d2_212) hr) ⟨as, [c0, c1, c2, c3, c4, c5], rfl, Nz, Kf, tz, kz, Ez, Vz, Cz, Az, hp, Nat.le_of_ble_eq_true rfl⟩ (by decide) (by decide)
set_option maxRecDepth 65536 in
set_option maxHeartbeats 40000000 in
theorem rmIU (l : Launch) (Z : State) (a0 : Array Value) (hw : ∀ d ∈ tables_1, d.before a0 Z = true) (ws : List Jvm.Cond) (h0 : Heap) (n0 : Nat) (x : Addr) (cs : List Int32) {zc : Int32} {fm : Value} (S : own_S Z h0 x cs) (SC : Sta Z h0 "java/lang/String" "COMPACT_STRINGS" "Z" (.int zc)) (hzc : ¬ zc = 0) (SF : Sta Z h0 "jdk/internal/util/Preconditions" "SIOOBE_FORMATTER" "Ljava/util/function/BiFunction;" fm) (rf : fm.isRef = true) :
    own_C l Z (⟨"com/example/registrum/registrum/protocol/ExtensionExtendsCommandPinLaw", "isUpdate", "(Ljava/lang/String;)Z"⟩ : MethodName) method_6_code 1 (some .boolean) ws ({ frames := 4, cells := 0, slots := 0, locals := 80 } : Room) #[(.ref x)] h0 (own_Qr (some (.int (own_b (cs = own_U)))) h0 n0) := by
  refine own_body (ls := #[.val (.ref x)]) pn_13 (fun m => by first | (simp [entryFrame, mkF, argsToLocals, Value.category]; done) | rfl) ?_
  intro p e s m below meth c T0 hZ hx hby hml hown hnm hret hlk X0 e0
  replace hml : c.maxLocals = 1 := hml
  have N0 := Fr.nil n0
  obtain ⟨t, kb, E, V, C, A, hp, hl⟩ := S
  have hln : ∀ d ∈ StrChars.Road.wordsLen, d.before a0 Z = true := fun d hd => hw d ((by decide +kernel : ∀ d ∈ StrChars.Road.wordsLen, d ∈ tables_1) d hd)
  have hch : ∀ d ∈ StrChars.Road.wordsChN, d.before a0 Z = true := fun d hd => hw d ((by decide +kernel : ∀ d ∈ StrChars.Road.wordsChN, d ∈ tables_1) d hd)
  have hcd : StrChars.Road.CodA cs 0 (Int32.ofNat cs.length) ((cs.map fun c => c.toInt8.toInt32).map Value.int) := StrChars.Road.codOf rfl (fun c hc => (hp c hc).2)
  have hbd := own_up hp
  refine own_go (fun _ => XS.aloadN X0.here hx rfl (hb hby d13_0) rfl rfl) ?_
  show own_R p.tables e below _ T0 (mkF m 1 #[.val (.ref x)] [(.ref x)])
  obtain ⟨v1, T1, L1, X1, Q1, st1⟩ := own_backV X0 hx hZ hown (y := (⟨"java/lang/String", "length", "()I"⟩ : MethodName)) (hw _ (List.mem_of_getElem? (i := 69) rfl)) (hw _ (List.mem_of_getElem? (i := 70) rfl)) (hw _ (List.mem_of_getElem? (i := 72) rfl)) (hw _ (List.mem_of_getElem? (i := 71) rfl)) (hw _ (List.mem_of_getElem? (i := 73) rfl)) (hw _ (List.mem_of_getElem? (i := 16) rfl)) (by decide) (W := 0) (kc := 0) (ks := 0) (Q := fun v h' L => v = some (.int (Int32.ofNat cs.length)) ∧ L = [] ∧ h' = h0) (StrChars.Road.lenW (R := ({ frames := 4, cells := 0, slots := 0, locals := 80 } : Room)) (W := 0) hZ hln (kI := 4) (hw _ (List.mem_of_getElem? (i := 15) rfl)) E V C A hcd hbd SC hzc hl (by decide) (by decide)) E (g := (mkF m 1 #[.val (.ref x)] [(.ref x)])) rfl (by rw [hml]; rfl) (b := x) (argsL := []) (rest := []) (lenOf pd___I rfl) rfl rfl (by show 2 * 0 + _ ≤ _; exact Nat.le_of_eq rfl) (hb hby d13_1) e0 (by decide) (by decide)
  obtain ⟨rfl, rfl, e1⟩ := Q1
  refine own_go st1 ?_
  show own_R p.tables e below _ T1 (mkF m 4 #[.val (.ref x)] [(.int (Int32.ofNat cs.length))])
  refine own_go (fun _ => XS.bipush X1.here hx rfl (hb hby d13_4)) ?_
  show own_R p.tables e below _ T1 (mkF m 6 #[.val (.ref x)] [(.int (6 : Int32)), (.int (Int32.ofNat cs.length))])
  by_cases kl : (Int32.ofNat cs.length) = (6 : Int32)
  · show own_R p.tables e below _ T1 (mkF m 6 #[.val (.ref x)] [(.int (6 : Int32)), (.int (Int32.ofNat cs.length))])
    refine own_go (fun _ => XS.icmpNo X1.here hx rfl (hb hby d13_6) rfl (teq kl).2) ?_
    show own_R p.tables e below _ T1 (mkF m 9 #[.val (.ref x)] [])
    have hl6 : cs.length = 6 := (own_len6 hl).mp kl
    refine own_go (fun _ => XS.aloadN X1.here hx rfl (hb hby d13_9) rfl rfl) ?_
    show own_R p.tables e below _ T1 (mkF m 10 #[.val (.ref x)] [(.ref x)])
    refine own_go (fun _ => XS.iconst X1.here hx rfl (hb hby d13_10)) ?_
    show own_R p.tables e below _ T1 (mkF m 11 #[.val (.ref x)] [(.int (0 : Int32)), (.ref x)])
    obtain ⟨vc0, Tc0, Lc0, Xc0, Qc0, stc0⟩ := own_backV X1 hx hZ hown (y := (⟨"java/lang/String", "charAt", "(I)C"⟩ : MethodName)) (hw _ (List.mem_of_getElem? (i := 83) rfl)) (hw _ (List.mem_of_getElem? (i := 84) rfl)) (hw _ (List.mem_of_getElem? (i := 86) rfl)) (hw _ (List.mem_of_getElem? (i := 85) rfl)) (hw _ (List.mem_of_getElem? (i := 87) rfl)) (hw _ (List.mem_of_getElem? (i := 16) rfl)) (by decide) (W := 0) (kc := 0) (ks := 0) (Q := fun v h' L => v = some (.int (cs.getD 0 0)) ∧ L = [] ∧ h' = h0) (StrChars.Road.chN (R := ({ frames := 4, cells := 0, slots := 0, locals := 80 } : Room)) (W := 0) hZ hch (kI := 4) (hw _ (List.mem_of_getElem? (i := 15) rfl)) (i := 0) (j := (0 : Int32)) E V C A hcd hbd SC hzc SF rf hl (by omega) rfl (by decide) (by decide)) E (g := (mkF m 11 #[.val (.ref x)] [(.int (0 : Int32)), (.ref x)])) rfl (by rw [hml]; rfl) (b := x) (argsL := [(.int (0 : Int32))]) (rest := []) (lenOf pd__I_C rfl) rfl rfl (by show 2 * 0 + _ ≤ _; exact Nat.le_of_eq rfl) (hb hby d13_11) e1 (by decide) (by decide)
    obtain ⟨rfl, rfl, ec0⟩ := Qc0
    refine own_go stc0 ?_
    show own_R p.tables e below _ Tc0 (mkF m 14 #[.val (.ref x)] [(.int (cs.getD 0 0))])
    refine own_go (fun _ => XS.bipush Xc0.here hx rfl (hb hby d13_14)) ?_
    show own_R p.tables e below _ Tc0 (mkF m 16 #[.val (.ref x)] [(.int (117 : Int32)), (.int (cs.getD 0 0))])
    by_cases k0 : (cs.getD 0 0) = (117 : Int32)
    · show own_R p.tables e below _ Tc0 (mkF m 16 #[.val (.ref x)] [(.int (117 : Int32)), (.int (cs.getD 0 0))])
      refine own_go (fun _ => XS.icmpNo Xc0.here hx rfl (hb hby d13_16) rfl (teq k0).2) ?_
      show own_R p.tables e below _ Tc0 (mkF m 19 #[.val (.ref x)] [])
      refine own_go (fun _ => XS.aloadN Xc0.here hx rfl (hb hby d13_19) rfl rfl) ?_
      show own_R p.tables e below _ Tc0 (mkF m 20 #[.val (.ref x)] [(.ref x)])
      refine own_go (fun _ => XS.iconst Xc0.here hx rfl (hb hby d13_20)) ?_
      show own_R p.tables e below _ Tc0 (mkF m 21 #[.val (.ref x)] [(.int (1 : Int32)), (.ref x)])
      obtain ⟨vc1, Tc1, Lc1, Xc1, Qc1, stc1⟩ := own_backV Xc0 hx hZ hown (y := (⟨"java/lang/String", "charAt", "(I)C"⟩ : MethodName)) (hw _ (List.mem_of_getElem? (i := 83) rfl)) (hw _ (List.mem_of_getElem? (i := 84) rfl)) (hw _ (List.mem_of_getElem? (i := 86) rfl)) (hw _ (List.mem_of_getElem? (i := 85) rfl)) (hw _ (List.mem_of_getElem? (i := 87) rfl)) (hw _ (List.mem_of_getElem? (i := 16) rfl)) (by decide) (W := 0) (kc := 0) (ks := 0) (Q := fun v h' L => v = some (.int (cs.getD 1 0)) ∧ L = [] ∧ h' = h0) (StrChars.Road.chN (R := ({ frames := 4, cells := 0, slots := 0, locals := 80 } : Room)) (W := 0) hZ hch (kI := 4) (hw _ (List.mem_of_getElem? (i := 15) rfl)) (i := 1) (j := (1 : Int32)) E V C A hcd hbd SC hzc SF rf hl (by omega) rfl (by decide) (by decide)) E (g := (mkF m 21 #[.val (.ref x)] [(.int (1 : Int32)), (.ref x)])) rfl (by rw [hml]; rfl) (b := x) (argsL := [(.int (1 : Int32))]) (rest := []) (lenOf pd__I_C rfl) rfl rfl (by show 2 * 0 + _ ≤ _; exact Nat.le_of_eq rfl) (hb hby d13_21) ec0 (by decide) (by decide)
      obtain ⟨rfl, rfl, ec1⟩ := Qc1
      refine own_go stc1 ?_
      show own_R p.tables e below _ Tc1 (mkF m 24 #[.val (.ref x)] [(.int (cs.getD 1 0))])
      refine own_go (fun _ => XS.bipush Xc1.here hx rfl (hb hby d13_24)) ?_
      show own_R p.tables e below _ Tc1 (mkF m 26 #[.val (.ref x)] [(.int (112 : Int32)), (.int (cs.getD 1 0))])
      by_cases k1 : (cs.getD 1 0) = (112 : Int32)
      · show own_R p.tables e below _ Tc1 (mkF m 26 #[.val (.ref x)] [(.int (112 : Int32)), (.int (cs.getD 1 0))])
        refine own_go (fun _ => XS.icmpNo Xc1.here hx rfl (hb hby d13_26) rfl (teq k1).2) ?_
        show own_R p.tables e below _ Tc1 (mkF m 29 #[.val (.ref x)] [])
        refine own_go (fun _ => XS.aloadN Xc1.here hx rfl (hb hby d13_29) rfl rfl) ?_
        show own_R p.tables e below _ Tc1 (mkF m 30 #[.val (.ref x)] [(.ref x)])
        refine own_go (fun _ => XS.iconst Xc1.here hx rfl (hb hby d13_30)) ?_
        show own_R p.tables e below _ Tc1 (mkF m 31 #[.val (.ref x)] [(.int (2 : Int32)), (.ref x)])
        obtain ⟨vc2, Tc2, Lc2, Xc2, Qc2, stc2⟩ := own_backV Xc1 hx hZ hown (y := (⟨"java/lang/String", "charAt", "(I)C"⟩ : MethodName)) (hw _ (List.mem_of_getElem? (i := 83) rfl)) (hw _ (List.mem_of_getElem? (i := 84) rfl)) (hw _ (List.mem_of_getElem? (i := 86) rfl)) (hw _ (List.mem_of_getElem? (i := 85) rfl)) (hw _ (List.mem_of_getElem? (i := 87) rfl)) (hw _ (List.mem_of_getElem? (i := 16) rfl)) (by decide) (W := 0) (kc := 0) (ks := 0) (Q := fun v h' L => v = some (.int (cs.getD 2 0)) ∧ L = [] ∧ h' = h0) (StrChars.Road.chN (R := ({ frames := 4, cells := 0, slots := 0, locals := 80 } : Room)) (W := 0) hZ hch (kI := 4) (hw _ (List.mem_of_getElem? (i := 15) rfl)) (i := 2) (j := (2 : Int32)) E V C A hcd hbd SC hzc SF rf hl (by omega) rfl (by decide) (by decide)) E (g := (mkF m 31 #[.val (.ref x)] [(.int (2 : Int32)), (.ref x)])) rfl (by rw [hml]; rfl) (b := x) (argsL := [(.int (2 : Int32))]) (rest := []) (lenOf pd__I_C rfl) rfl rfl (by show 2 * 0 + _ ≤ _; exact Nat.le_of_eq rfl) (hb hby d13_31) ec1 (by decide) (by decide)
        obtain ⟨rfl, rfl, ec2⟩ := Qc2
        refine own_go stc2 ?_
        show own_R p.tables e below _ Tc2 (mkF m 34 #[.val (.ref x)] [(.int (cs.getD 2 0))])
        refine own_go (fun _ => XS.bipush Xc2.here hx rfl (hb hby d13_34)) ?_
        show own_R p.tables e below _ Tc2 (mkF m 36 #[.val (.ref x)] [(.int (100 : Int32)), (.int (cs.getD 2 0))])
        by_cases k2 : (cs.getD 2 0) = (100 : Int32)
        · show own_R p.tables e below _ Tc2 (mkF m 36 #[.val (.ref x)] [(.int (100 : Int32)), (.int (cs.getD 2 0))])
          refine own_go (fun _ => XS.icmpNo Xc2.here hx rfl (hb hby d13_36) rfl (teq k2).2) ?_
          show own_R p.tables e below _ Tc2 (mkF m 39 #[.val (.ref x)] [])
          refine own_go (fun _ => XS.aloadN Xc2.here hx rfl (hb hby d13_39) rfl rfl) ?_
          show own_R p.tables e below _ Tc2 (mkF m 40 #[.val (.ref x)] [(.ref x)])
          refine own_go (fun _ => XS.iconst Xc2.here hx rfl (hb hby d13_40)) ?_
          show own_R p.tables e below _ Tc2 (mkF m 41 #[.val (.ref x)] [(.int (3 : Int32)), (.ref x)])
          obtain ⟨vc3, Tc3, Lc3, Xc3, Qc3, stc3⟩ := own_backV Xc2 hx hZ hown (y := (⟨"java/lang/String", "charAt", "(I)C"⟩ : MethodName)) (hw _ (List.mem_of_getElem? (i := 83) rfl)) (hw _ (List.mem_of_getElem? (i := 84) rfl)) (hw _ (List.mem_of_getElem? (i := 86) rfl)) (hw _ (List.mem_of_getElem? (i := 85) rfl)) (hw _ (List.mem_of_getElem? (i := 87) rfl)) (hw _ (List.mem_of_getElem? (i := 16) rfl)) (by decide) (W := 0) (kc := 0) (ks := 0) (Q := fun v h' L => v = some (.int (cs.getD 3 0)) ∧ L = [] ∧ h' = h0) (StrChars.Road.chN (R := ({ frames := 4, cells := 0, slots := 0, locals := 80 } : Room)) (W := 0) hZ hch (kI := 4) (hw _ (List.mem_of_getElem? (i := 15) rfl)) (i := 3) (j := (3 : Int32)) E V C A hcd hbd SC hzc SF rf hl (by omega) rfl (by decide) (by decide)) E (g := (mkF m 41 #[.val (.ref x)] [(.int (3 : Int32)), (.ref x)])) rfl (by rw [hml]; rfl) (b := x) (argsL := [(.int (3 : Int32))]) (rest := []) (lenOf pd__I_C rfl) rfl rfl (by show 2 * 0 + _ ≤ _; exact Nat.le_of_eq rfl) (hb hby d13_41) ec2 (by decide) (by decide)
          obtain ⟨rfl, rfl, ec3⟩ := Qc3
          refine own_go stc3 ?_
          show own_R p.tables e below _ Tc3 (mkF m 44 #[.val (.ref x)] [(.int (cs.getD 3 0))])
          refine own_go (fun _ => XS.bipush Xc3.here hx rfl (hb hby d13_44)) ?_
          show own_R p.tables e below _ Tc3 (mkF m 46 #[.val (.ref x)] [(.int (97 : Int32)), (.int (cs.getD 3 0))])
          by_cases k3 : (cs.getD 3 0) = (97 : Int32)
          · show own_R p.tables e below _ Tc3 (mkF m 46 #[.val (.ref x)] [(.int (97 : Int32)), (.int (cs.getD 3 0))])
            refine own_go (fun _ => XS.icmpNo Xc3.here hx rfl (hb hby d13_46) rfl (teq k3).2) ?_
            show own_R p.tables e below _ Tc3 (mkF m 49 #[.val (.ref x)] [])
            refine own_go (fun _ => XS.aloadN Xc3.here hx rfl (hb hby d13_49) rfl rfl) ?_
            show own_R p.tables e below _ Tc3 (mkF m 50 #[.val (.ref x)] [(.ref x)])
            refine own_go (fun _ => XS.iconst Xc3.here hx rfl (hb hby d13_50)) ?_
            show own_R p.tables e below _ Tc3 (mkF m 51 #[.val (.ref x)] [(.int (4 : Int32)), (.ref x)])
            obtain ⟨vc4, Tc4, Lc4, Xc4, Qc4, stc4⟩ := own_backV Xc3 hx hZ hown (y := (⟨"java/lang/String", "charAt", "(I)C"⟩ : MethodName)) (hw _ (List.mem_of_getElem? (i := 83) rfl)) (hw _ (List.mem_of_getElem? (i := 84) rfl)) (hw _ (List.mem_of_getElem? (i := 86) rfl)) (hw _ (List.mem_of_getElem? (i := 85) rfl)) (hw _ (List.mem_of_getElem? (i := 87) rfl)) (hw _ (List.mem_of_getElem? (i := 16) rfl)) (by decide) (W := 0) (kc := 0) (ks := 0) (Q := fun v h' L => v = some (.int (cs.getD 4 0)) ∧ L = [] ∧ h' = h0) (StrChars.Road.chN (R := ({ frames := 4, cells := 0, slots := 0, locals := 80 } : Room)) (W := 0) hZ hch (kI := 4) (hw _ (List.mem_of_getElem? (i := 15) rfl)) (i := 4) (j := (4 : Int32)) E V C A hcd hbd SC hzc SF rf hl (by omega) rfl (by decide) (by decide)) E (g := (mkF m 51 #[.val (.ref x)] [(.int (4 : Int32)), (.ref x)])) rfl (by rw [hml]; rfl) (b := x) (argsL := [(.int (4 : Int32))]) (rest := []) (lenOf pd__I_C rfl) rfl rfl (by show 2 * 0 + _ ≤ _; exact Nat.le_of_eq rfl) (hb hby d13_51) ec3 (by decide) (by decide)
            obtain ⟨rfl, rfl, ec4⟩ := Qc4
            refine own_go stc4 ?_
            show own_R p.tables e below _ Tc4 (mkF m 54 #[.val (.ref x)] [(.int (cs.getD 4 0))])
            refine own_go (fun _ => XS.bipush Xc4.here hx rfl (hb hby d13_54)) ?_
            show own_R p.tables e below _ Tc4 (mkF m 56 #[.val (.ref x)] [(.int (116 : Int32)), (.int (cs.getD 4 0))])
            by_cases k4 : (cs.getD 4 0) = (116 : Int32)
            · show own_R p.tables e below _ Tc4 (mkF m 56 #[.val (.ref x)] [(.int (116 : Int32)), (.int (cs.getD 4 0))])
              refine own_go (fun _ => XS.icmpNo Xc4.here hx rfl (hb hby d13_56) rfl (teq k4).2) ?_
              show own_R p.tables e below _ Tc4 (mkF m 59 #[.val (.ref x)] [])
              refine own_go (fun _ => XS.aloadN Xc4.here hx rfl (hb hby d13_59) rfl rfl) ?_
              show own_R p.tables e below _ Tc4 (mkF m 60 #[.val (.ref x)] [(.ref x)])
              refine own_go (fun _ => XS.iconst Xc4.here hx rfl (hb hby d13_60)) ?_
              show own_R p.tables e below _ Tc4 (mkF m 61 #[.val (.ref x)] [(.int (5 : Int32)), (.ref x)])
              obtain ⟨vc5, Tc5, Lc5, Xc5, Qc5, stc5⟩ := own_backV Xc4 hx hZ hown (y := (⟨"java/lang/String", "charAt", "(I)C"⟩ : MethodName)) (hw _ (List.mem_of_getElem? (i := 83) rfl)) (hw _ (List.mem_of_getElem? (i := 84) rfl)) (hw _ (List.mem_of_getElem? (i := 86) rfl)) (hw _ (List.mem_of_getElem? (i := 85) rfl)) (hw _ (List.mem_of_getElem? (i := 87) rfl)) (hw _ (List.mem_of_getElem? (i := 16) rfl)) (by decide) (W := 0) (kc := 0) (ks := 0) (Q := fun v h' L => v = some (.int (cs.getD 5 0)) ∧ L = [] ∧ h' = h0) (StrChars.Road.chN (R := ({ frames := 4, cells := 0, slots := 0, locals := 80 } : Room)) (W := 0) hZ hch (kI := 4) (hw _ (List.mem_of_getElem? (i := 15) rfl)) (i := 5) (j := (5 : Int32)) E V C A hcd hbd SC hzc SF rf hl (by omega) rfl (by decide) (by decide)) E (g := (mkF m 61 #[.val (.ref x)] [(.int (5 : Int32)), (.ref x)])) rfl (by rw [hml]; rfl) (b := x) (argsL := [(.int (5 : Int32))]) (rest := []) (lenOf pd__I_C rfl) rfl rfl (by show 2 * 0 + _ ≤ _; exact Nat.le_of_eq rfl) (hb hby d13_61) ec4 (by decide) (by decide)
              obtain ⟨rfl, rfl, ec5⟩ := Qc5
              refine own_go stc5 ?_
              show own_R p.tables e below _ Tc5 (mkF m 64 #[.val (.ref x)] [(.int (cs.getD 5 0))])
              refine own_go (fun _ => XS.bipush Xc5.here hx rfl (hb hby d13_64)) ?_
              show own_R p.tables e below _ Tc5 (mkF m 66 #[.val (.ref x)] [(.int (101 : Int32)), (.int (cs.getD 5 0))])
              by_cases k5 : (cs.getD 5 0) = (101 : Int32)
              · show own_R p.tables e below _ Tc5 (mkF m 66 #[.val (.ref x)] [(.int (101 : Int32)), (.int (cs.getD 5 0))])
                refine own_go (fun _ => XS.icmpNo Xc5.here hx rfl (hb hby d13_66) rfl (teq k5).2) ?_
                show own_R p.tables e below _ Tc5 (mkF m 69 #[.val (.ref x)] [])
                refine own_go (fun _ => XS.iconst Xc5.here hx rfl (hb hby d13_69)) ?_
                show own_R p.tables e below _ Tc5 (mkF m 70 #[.val (.ref x)] [(.int (1 : Int32))])
                refine own_go (fun _ => XS.goto Xc5.here hx rfl (pc0 := 70) (pc' := 74) rfl (hb hby d13_70) (by decide) (by decide)) ?_
                show own_R p.tables e below _ Tc5 (mkF m 74 #[.val (.ref x)] [(.int (1 : Int32))])
                have ev : own_b (cs = own_U) = 1 := if_pos (own_is hl6 k0 k1 k2 k3 k4 k5)
                exact own_end Xc5 (some (.int (1 : Int32))) (fun h => by rw [hret] at h; cases h) hlk (fun fs hr => retN Xc5 hx (t := .boolean) hret (by simp) (hb hby d13_74) hr) ⟨by rw [ev], Fr.nil n0, ec5⟩ (by decide) (by decide)
              · show own_R p.tables e below _ Tc5 (mkF m 66 #[.val (.ref x)] [(.int (101 : Int32)), (.int (cs.getD 5 0))])
                refine own_go (fun _ => XS.icmpYes Xc5.here hx rfl (pc0 := 66) (pc' := 73) rfl (hb hby d13_66) rfl (feq k5).2 (by decide) (by decide)) ?_
                show own_R p.tables e below _ Tc5 (mkF m 73 #[.val (.ref x)] [])
                refine own_go (fun _ => XS.iconst Xc5.here hx rfl (hb hby d13_73)) ?_
                show own_R p.tables e below _ Tc5 (mkF m 74 #[.val (.ref x)] [(.int (0 : Int32))])
                have ev : own_b (cs = own_U) = 0 := if_neg (own_ne 5 101 rfl k5)
                exact own_end Xc5 (some (.int (0 : Int32))) (fun h => by rw [hret] at h; cases h) hlk (fun fs hr => retN Xc5 hx (t := .boolean) hret (by simp) (hb hby d13_74) hr) ⟨by rw [ev], Fr.nil n0, ec5⟩ (by decide) (by decide)
            · show own_R p.tables e below _ Tc4 (mkF m 56 #[.val (.ref x)] [(.int (116 : Int32)), (.int (cs.getD 4 0))])
              refine own_go (fun _ => XS.icmpYes Xc4.here hx rfl (pc0 := 56) (pc' := 73) rfl (hb hby d13_56) rfl (feq k4).2 (by decide) (by decide)) ?_
              show own_R p.tables e below _ Tc4 (mkF m 73 #[.val (.ref x)] [])
              refine own_go (fun _ => XS.iconst Xc4.here hx rfl (hb hby d13_73)) ?_
              show own_R p.tables e below _ Tc4 (mkF m 74 #[.val (.ref x)] [(.int (0 : Int32))])
              have ev : own_b (cs = own_U) = 0 := if_neg (own_ne 4 116 rfl k4)
              exact own_end Xc4 (some (.int (0 : Int32))) (fun h => by rw [hret] at h; cases h) hlk (fun fs hr => retN Xc4 hx (t := .boolean) hret (by simp) (hb hby d13_74) hr) ⟨by rw [ev], Fr.nil n0, ec4⟩ (by decide) (by decide)
          · show own_R p.tables e below _ Tc3 (mkF m 46 #[.val (.ref x)] [(.int (97 : Int32)), (.int (cs.getD 3 0))])
            refine own_go (fun _ => XS.icmpYes Xc3.here hx rfl (pc0 := 46) (pc' := 73) rfl (hb hby d13_46) rfl (feq k3).2 (by decide) (by decide)) ?_
            show own_R p.tables e below _ Tc3 (mkF m 73 #[.val (.ref x)] [])
            refine own_go (fun _ => XS.iconst Xc3.here hx rfl (hb hby d13_73)) ?_
            show own_R p.tables e below _ Tc3 (mkF m 74 #[.val (.ref x)] [(.int (0 : Int32))])
            have ev : own_b (cs = own_U) = 0 := if_neg (own_ne 3 97 rfl k3)
            exact own_end Xc3 (some (.int (0 : Int32))) (fun h => by rw [hret] at h; cases h) hlk (fun fs hr => retN Xc3 hx (t := .boolean) hret (by simp) (hb hby d13_74) hr) ⟨by rw [ev], Fr.nil n0, ec3⟩ (by decide) (by decide)
        · show own_R p.tables e below _ Tc2 (mkF m 36 #[.val (.ref x)] [(.int (100 : Int32)), (.int (cs.getD 2 0))])
          refine own_go (fun _ => XS.icmpYes Xc2.here hx rfl (pc0 := 36) (pc' := 73) rfl (hb hby d13_36) rfl (feq k2).2 (by decide) (by decide)) ?_
          show own_R p.tables e below _ Tc2 (mkF m 73 #[.val (.ref x)] [])
          refine own_go (fun _ => XS.iconst Xc2.here hx rfl (hb hby d13_73)) ?_
          show own_R p.tables e below _ Tc2 (mkF m 74 #[.val (.ref x)] [(.int (0 : Int32))])
          have ev : own_b (cs = own_U) = 0 := if_neg (own_ne 2 100 rfl k2)
          exact own_end Xc2 (some (.int (0 : Int32))) (fun h => by rw [hret] at h; cases h) hlk (fun fs hr => retN Xc2 hx (t := .boolean) hret (by simp) (hb hby d13_74) hr) ⟨by rw [ev], Fr.nil n0, ec2⟩ (by decide) (by decide)
      · show own_R p.tables e below _ Tc1 (mkF m 26 #[.val (.ref x)] [(.int (112 : Int32)), (.int (cs.getD 1 0))])
        refine own_go (fun _ => XS.icmpYes Xc1.here hx rfl (pc0 := 26) (pc' := 73) rfl (hb hby d13_26) rfl (feq k1).2 (by decide) (by decide)) ?_
        show own_R p.tables e below _ Tc1 (mkF m 73 #[.val (.ref x)] [])
        refine own_go (fun _ => XS.iconst Xc1.here hx rfl (hb hby d13_73)) ?_
        show own_R p.tables e below _ Tc1 (mkF m 74 #[.val (.ref x)] [(.int (0 : Int32))])
        have ev : own_b (cs = own_U) = 0 := if_neg (own_ne 1 112 rfl k1)
        exact own_end Xc1 (some (.int (0 : Int32))) (fun h => by rw [hret] at h; cases h) hlk (fun fs hr => retN Xc1 hx (t := .boolean) hret (by simp) (hb hby d13_74) hr) ⟨by rw [ev], Fr.nil n0, ec1⟩ (by decide) (by decide)
    · show own_R p.tables e below _ Tc0 (mkF m 16 #[.val (.ref x)] [(.int (117 : Int32)), (.int (cs.getD 0 0))])
      refine own_go (fun _ => XS.icmpYes Xc0.here hx rfl (pc0 := 16) (pc' := 73) rfl (hb hby d13_16) rfl (feq k0).2 (by decide) (by decide)) ?_
      show own_R p.tables e below _ Tc0 (mkF m 73 #[.val (.ref x)] [])
      refine own_go (fun _ => XS.iconst Xc0.here hx rfl (hb hby d13_73)) ?_
      show own_R p.tables e below _ Tc0 (mkF m 74 #[.val (.ref x)] [(.int (0 : Int32))])
      have ev : own_b (cs = own_U) = 0 := if_neg (own_ne 0 117 rfl k0)
      exact own_end Xc0 (some (.int (0 : Int32))) (fun h => by rw [hret] at h; cases h) hlk (fun fs hr => retN Xc0 hx (t := .boolean) hret (by simp) (hb hby d13_74) hr) ⟨by rw [ev], Fr.nil n0, ec0⟩ (by decide) (by decide)
  · show own_R p.tables e below _ T1 (mkF m 6 #[.val (.ref x)] [(.int (6 : Int32)), (.int (Int32.ofNat cs.length))])
    refine own_go (fun _ => XS.icmpYes X1.here hx rfl (pc0 := 6) (pc' := 73) rfl (hb hby d13_6) rfl (feq kl).2 (by decide) (by decide)) ?_
    show own_R p.tables e below _ T1 (mkF m 73 #[.val (.ref x)] [])
    refine own_go (fun _ => XS.iconst X1.here hx rfl (hb hby d13_73)) ?_
    show own_R p.tables e below _ T1 (mkF m 74 #[.val (.ref x)] [(.int (0 : Int32))])
    have ev : own_b (cs = own_U) = 0 := if_neg (fun q => kl ((own_len6 hl).mpr (by rw [q]; rfl)))
    exact own_end X1 (some (.int (0 : Int32))) (fun h => by rw [hret] at h; cases h) hlk (fun fs hr => retN X1 hx (t := .boolean) hret (by simp) (hb hby d13_74) hr) ⟨by rw [ev], Fr.nil n0, e1⟩ (by decide) (by decide)
set_option maxRecDepth 65536 in
set_option maxHeartbeats 4000000 in
theorem rmXn (l : Launch) (Z : State) (a0 : Array Value) (hw : ∀ d ∈ tables_1, d.before a0 Z = true) (ws : List Jvm.Cond) (h0 : Heap) (n0 : Nat) (g dom x y : Addr) (Fm : Fld Z h0 g "com/example/registrum/registrum/protocol/Epp$Extension" "mapping" "Lcom/example/registrum/registrum/protocol/Epp$Mapping;" (.ref dom)) :
    own_C l Z (⟨"com/example/registrum/registrum/protocol/Epp$Extension", "extendsCommand", "(Lcom/example/registrum/registrum/protocol/Epp$Mapping;Ljava/lang/String;Ljava/lang/String;)Z"⟩ : MethodName) prog_25_method_7_code 4 (some .boolean) ws ({ frames := 0, cells := 0, slots := 0, locals := 0 } : Room) #[(.ref g), .null, (.ref x), (.ref y)] h0 (own_Qr (some (.int 0)) h0 n0) := by
  refine own_body (ls := #[.val (.ref g), .val .null, .val (.ref x), .val (.ref y)]) pn_10 (fun m => by first | (simp [entryFrame, mkF, argsToLocals, Value.category]; done) | rfl) ?_
  intro p e s m below meth c T0 hZ hx hby hml hown hnm hret hlk X0 e0
  replace hml : c.maxLocals = 4 := hml
  have N0 := Fr.nil n0
  refine own_go (fun _ => XS.aloadN X0.here hx rfl (hb hby d10_0) rfl rfl) ?_
  show own_R p.tables e below _ T0 (mkF m 1 #[.val (.ref g), .val .null, .val (.ref x), .val (.ref y)] [(.ref g)])
  obtain ⟨T1, X1, e1, st1⟩ := getF X0 hx hZ hown (host := "") (Or.inl (hw _ (List.mem_of_getElem? (i := 52) rfl))) Via.refl e0 Fm (g := (mkF m 1 #[.val (.ref g), .val .null, .val (.ref x), .val (.ref y)] [(.ref g)])) rfl rfl (hb hby d10_1)
  refine own_go st1 ?_
  show own_R p.tables e below _ T1 (mkF m 4 #[.val (.ref g), .val .null, .val (.ref x), .val (.ref y)] [(.ref dom)])
  refine own_go (fun _ => XS.aloadN X1.here hx rfl (hb hby d10_4) rfl rfl) ?_
  show own_R p.tables e below _ T1 (mkF m 5 #[.val (.ref g), .val .null, .val (.ref x), .val (.ref y)] [.null, (.ref dom)])
  refine own_go (fun _ => Jvm.RoadKit.acmp (g := (mkF m 5 #[.val (.ref g), .val .null, .val (.ref x), .val (.ref y)] [.null, (.ref dom)])) X1 hx rfl rfl rfl (pc0 := 5) (pc' := 34) (same := false) rfl (hb hby d10_5) rfl (decide_eq_false nofun) (by decide) (by decide)) ?_
  show own_R p.tables e below _ T1 (mkF m 34 #[.val (.ref g), .val .null, .val (.ref x), .val (.ref y)] [])
  refine own_go (fun _ => XS.iconst X1.here hx rfl (hb hby d10_34)) ?_
  show own_R p.tables e below _ T1 (mkF m 35 #[.val (.ref g), .val .null, .val (.ref x), .val (.ref y)] [(.int (0 : Int32))])
  exact own_end X1 (some (.int (0 : Int32))) (fun h => by rw [hret] at h; cases h) hlk (fun fs hr => retN X1 hx (t := .boolean) hret (by simp) (hb hby d10_35) hr) ⟨rfl, N0, e1⟩ (by decide) (by decide)
set_option maxRecDepth 65536 in
set_option maxHeartbeats 4000000 in
theorem rmXo (l : Launch) (Z : State) (a0 : Array Value) (hw : ∀ d ∈ tables_1, d.before a0 Z = true) (ws : List Jvm.Cond) (h0 : Heap) (n0 : Nat) (g dom x y : Addr) (b : Addr) (nb : b ≠ dom) (Fm : Fld Z h0 g "com/example/registrum/registrum/protocol/Epp$Extension" "mapping" "Lcom/example/registrum/registrum/protocol/Epp$Mapping;" (.ref dom)) :
    own_C l Z (⟨"com/example/registrum/registrum/protocol/Epp$Extension", "extendsCommand", "(Lcom/example/registrum/registrum/protocol/Epp$Mapping;Ljava/lang/String;Ljava/lang/String;)Z"⟩ : MethodName) prog_25_method_7_code 4 (some .boolean) ws ({ frames := 0, cells := 0, slots := 0, locals := 0 } : Room) #[(.ref g), (.ref b), (.ref x), (.ref y)] h0 (own_Qr (some (.int 0)) h0 n0) := by
  refine own_body (ls := #[.val (.ref g), .val (.ref b), .val (.ref x), .val (.ref y)]) pn_10 (fun m => by first | (simp [entryFrame, mkF, argsToLocals, Value.category]; done) | rfl) ?_
  intro p e s m below meth c T0 hZ hx hby hml hown hnm hret hlk X0 e0
  replace hml : c.maxLocals = 4 := hml
  have N0 := Fr.nil n0
  refine own_go (fun _ => XS.aloadN X0.here hx rfl (hb hby d10_0) rfl rfl) ?_
  show own_R p.tables e below _ T0 (mkF m 1 #[.val (.ref g), .val (.ref b), .val (.ref x), .val (.ref y)] [(.ref g)])
  obtain ⟨T1, X1, e1, st1⟩ := getF X0 hx hZ hown (host := "") (Or.inl (hw _ (List.mem_of_getElem? (i := 52) rfl))) Via.refl e0 Fm (g := (mkF m 1 #[.val (.ref g), .val (.ref b), .val (.ref x), .val (.ref y)] [(.ref g)])) rfl rfl (hb hby d10_1)
  refine own_go st1 ?_
  show own_R p.tables e below _ T1 (mkF m 4 #[.val (.ref g), .val (.ref b), .val (.ref x), .val (.ref y)] [(.ref dom)])
  refine own_go (fun _ => XS.aloadN X1.here hx rfl (hb hby d10_4) rfl rfl) ?_
  show own_R p.tables e below _ T1 (mkF m 5 #[.val (.ref g), .val (.ref b), .val (.ref x), .val (.ref y)] [(.ref b), (.ref dom)])
  refine own_go (fun _ => Jvm.RoadKit.acmp (g := (mkF m 5 #[.val (.ref g), .val (.ref b), .val (.ref x), .val (.ref y)] [(.ref b), (.ref dom)])) X1 hx rfl rfl rfl (pc0 := 5) (pc' := 34) (same := false) rfl (hb hby d10_5) rfl (decide_eq_false fun q => nb (Value.ref.inj q).symm) (by decide) (by decide)) ?_
  show own_R p.tables e below _ T1 (mkF m 34 #[.val (.ref g), .val (.ref b), .val (.ref x), .val (.ref y)] [])
  refine own_go (fun _ => XS.iconst X1.here hx rfl (hb hby d10_34)) ?_
  show own_R p.tables e below _ T1 (mkF m 35 #[.val (.ref g), .val (.ref b), .val (.ref x), .val (.ref y)] [(.int (0 : Int32))])
  exact own_end X1 (some (.int (0 : Int32))) (fun h => by rw [hret] at h; cases h) hlk (fun fs hr => retN X1 hx (t := .boolean) hret (by simp) (hb hby d10_35) hr) ⟨rfl, N0, e1⟩ (by decide) (by decide)
set_option maxRecDepth 65536 in
set_option maxHeartbeats 40000000 in
theorem rmXd (l : Launch) (Z : State) (a0 : Array Value) (hw : ∀ d ∈ tables_1, d.before a0 Z = true) (ws : List Jvm.Cond) (h0 : Heap) (n0 : Nat) (g dom x y cm : Addr) (cs ds : List Int32) {zc : Int32} (Fm : Fld Z h0 g "com/example/registrum/registrum/protocol/Epp$Extension" "mapping" "Lcom/example/registrum/registrum/protocol/Epp$Mapping;" (.ref dom)) (Fc : Fld Z h0 g "com/example/registrum/registrum/protocol/Epp$Extension" "command" "Ljava/lang/String;" (.ref cm)) (Fe : Fld Z h0 g "com/example/registrum/registrum/protocol/Epp$Extension" "element" "Ljava/lang/String;" (.ref cm)) (Sm : own_S Z h0 cm own_U) (Sx : own_S Z h0 x cs) (Sy : own_S Z h0 y ds) (SC : Sta Z h0 "java/lang/String" "COMPACT_STRINGS" "Z" (.int zc)) (hzc : ¬ zc = 0) :
    own_C l Z (⟨"com/example/registrum/registrum/protocol/Epp$Extension", "extendsCommand", "(Lcom/example/registrum/registrum/protocol/Epp$Mapping;Ljava/lang/String;Ljava/lang/String;)Z"⟩ : MethodName) prog_25_method_7_code 4 (some .boolean) ws ({ frames := 2, cells := 0, slots := 0, locals := 40 } : Room) #[(.ref g), (.ref dom), (.ref x), (.ref y)] h0 (own_Qr (some (.int (own_b (cs = own_U ∧ ds = own_U)))) h0 n0) := by
  refine own_body (ls := #[.val (.ref g), .val (.ref dom), .val (.ref x), .val (.ref y)]) pn_10 (fun m => by first | (simp [entryFrame, mkF, argsToLocals, Value.category]; done) | rfl) ?_
  intro p e s m below meth c T0 hZ hx hby hml hown hnm hret hlk X0 e0
  replace hml : c.maxLocals = 4 := hml
  have N0 := Fr.nil n0
  obtain ⟨tm, kbm, Em, Vm, Cm, Am, hpm, hlm⟩ := Sm
  have hcdm := StrChars.Road.codOf (n := _) rfl (fun c hc => (hpm c hc).2)
  have hbdm := own_up hpm
  obtain ⟨tx, kbx, Ex, Vx, Cx, Ax, hpx, hlx⟩ := Sx
  have hcdx := StrChars.Road.codOf (n := _) rfl (fun c hc => (hpx c hc).2)
  have hbdx := own_up hpx
  obtain ⟨ty, kby, Ey, Vy, Cy, Ay, hpy, hly⟩ := Sy
  have hcdy := StrChars.Road.codOf (n := _) rfl (fun c hc => (hpy c hc).2)
  have hbdy := own_up hpy
  have hweq : ∀ d ∈ StrChars.Road.wordsEq, d.before a0 Z = true := fun d hd => hw d ((by decide +kernel : ∀ d ∈ StrChars.Road.wordsEq, d ∈ tables_1) d hd)
  refine own_go (fun _ => XS.aloadN X0.here hx rfl (hb hby d10_0) rfl rfl) ?_
  show own_R p.tables e below _ T0 (mkF m 1 #[.val (.ref g), .val (.ref dom), .val (.ref x), .val (.ref y)] [(.ref g)])
  obtain ⟨T1, X1, e1, st1⟩ := getF X0 hx hZ hown (host := "") (Or.inl (hw _ (List.mem_of_getElem? (i := 52) rfl))) Via.refl e0 Fm (g := (mkF m 1 #[.val (.ref g), .val (.ref dom), .val (.ref x), .val (.ref y)] [(.ref g)])) rfl rfl (hb hby d10_1)
  refine own_go st1 ?_
  show own_R p.tables e below _ T1 (mkF m 4 #[.val (.ref g), .val (.ref dom), .val (.ref x), .val (.ref y)] [(.ref dom)])
  refine own_go (fun _ => XS.aloadN X1.here hx rfl (hb hby d10_4) rfl rfl) ?_
  show own_R p.tables e below _ T1 (mkF m 5 #[.val (.ref g), .val (.ref dom), .val (.ref x), .val (.ref y)] [(.ref dom), (.ref dom)])
  refine own_go (fun _ => Jvm.RoadKit.acmp (g := (mkF m 5 #[.val (.ref g), .val (.ref dom), .val (.ref x), .val (.ref y)] [(.ref dom), (.ref dom)])) X1 hx rfl rfl rfl (pc0 := 5) (pc' := 8) (same := true) rfl (hb hby d10_5) rfl (decide_eq_true rfl) (by decide) (by decide)) ?_
  show own_R p.tables e below _ T1 (mkF m 8 #[.val (.ref g), .val (.ref dom), .val (.ref x), .val (.ref y)] [])
  refine own_go (fun _ => XS.aloadN X1.here hx rfl (hb hby d10_8) rfl rfl) ?_
  show own_R p.tables e below _ T1 (mkF m 9 #[.val (.ref g), .val (.ref dom), .val (.ref x), .val (.ref y)] [(.ref g)])
  obtain ⟨T2, X2, e2, st2⟩ := getF X1 hx hZ hown (host := "") (Or.inl (hw _ (List.mem_of_getElem? (i := 54) rfl))) Via.refl e1 Fc (g := (mkF m 9 #[.val (.ref g), .val (.ref dom), .val (.ref x), .val (.ref y)] [(.ref g)])) rfl rfl (hb hby d10_9)
  refine own_go st2 ?_
  show own_R p.tables e below _ T2 (mkF m 12 #[.val (.ref g), .val (.ref dom), .val (.ref x), .val (.ref y)] [(.ref cm)])
  refine own_go (fun _ => XS.aloadN X2.here hx rfl (hb hby d10_12) rfl rfl) ?_
  show own_R p.tables e below _ T2 (mkF m 13 #[.val (.ref g), .val (.ref dom), .val (.ref x), .val (.ref y)] [(.ref x), (.ref cm)])
  obtain ⟨v3, T3, L3, X3, Q3, st3⟩ := own_backV X2 hx hZ hown (y := (⟨"java/lang/String", "equals", "(Ljava/lang/Object;)Z"⟩ : MethodName)) (hw _ (List.mem_of_getElem? (i := 56) rfl)) (hw _ (List.mem_of_getElem? (i := 57) rfl)) (hw _ (List.mem_of_getElem? (i := 59) rfl)) (hw _ (List.mem_of_getElem? (i := 58) rfl)) (hw _ (List.mem_of_getElem? (i := 60) rfl)) (hw _ (List.mem_of_getElem? (i := 16) rfl)) (by decide) (W := 0) (kc := 0) (ks := 0) (Q := fun v h' L => ((v = some (.int 1) ∧ own_U = cs) ∨ (v = some (.int 0) ∧ ¬ own_U = cs)) ∧ L = [] ∧ h' = h0) (StrChars.Road.eqW (R := ({ frames := 2, cells := 0, slots := 0, locals := 40 } : Room)) (W := 0) hZ hweq (kI := 4) (hw _ (List.mem_of_getElem? (i := 15) rfl)) Em Vm Cm Am hcdm hbdm hlm Ex Vx Cx Ax hcdx hbdx hlx SC hzc (by decide) (by decide)) Em (g := (mkF m 13 #[.val (.ref g), .val (.ref dom), .val (.ref x), .val (.ref y)] [(.ref x), (.ref cm)])) rfl (by rw [hml]; rfl) (b := cm) (argsL := [(.ref x)]) (rest := []) (lenOf pd__Ljava_lang_Object__Z rfl) rfl rfl (by show 2 * 0 + _ ≤ _; exact Nat.le_of_eq rfl) (hb hby d10_13) e2 (by decide) (by decide)
  obtain ⟨hor3, rfl, e3⟩ := Q3
  rcases hor3 with ⟨rfl, k3⟩ | ⟨rfl, k3⟩
  · refine own_go st3 ?_
    show own_R p.tables e below _ T3 (mkF m 16 #[.val (.ref g), .val (.ref dom), .val (.ref x), .val (.ref y)] [(.int (1 : Int32))])
    refine own_go (fun _ => XS.ifNo X3.here hx rfl (hb hby d10_16) rfl ((if0 _ _).trans (feq (by decide)).1)) ?_
    show own_R p.tables e below _ T3 (mkF m 19 #[.val (.ref g), .val (.ref dom), .val (.ref x), .val (.ref y)] [])
    refine own_go (fun _ => XS.aloadN X3.here hx rfl (hb hby d10_19) rfl rfl) ?_
    show own_R p.tables e below _ T3 (mkF m 20 #[.val (.ref g), .val (.ref dom), .val (.ref x), .val (.ref y)] [(.ref g)])
    obtain ⟨T4, X4, e4, st4⟩ := getF X3 hx hZ hown (host := "") (Or.inl (hw _ (List.mem_of_getElem? (i := 104) rfl))) Via.refl e3 Fe (g := (mkF m 20 #[.val (.ref g), .val (.ref dom), .val (.ref x), .val (.ref y)] [(.ref g)])) rfl rfl (hb hby d10_20)
    refine own_go st4 ?_
    show own_R p.tables e below _ T4 (mkF m 23 #[.val (.ref g), .val (.ref dom), .val (.ref x), .val (.ref y)] [(.ref cm)])
    refine own_go (fun _ => XS.aloadN X4.here hx rfl (hb hby d10_23) rfl rfl) ?_
    show own_R p.tables e below _ T4 (mkF m 24 #[.val (.ref g), .val (.ref dom), .val (.ref x), .val (.ref y)] [(.ref y), (.ref cm)])
    obtain ⟨v5, T5, L5, X5, Q5, st5⟩ := own_backV X4 hx hZ hown (y := (⟨"java/lang/String", "equals", "(Ljava/lang/Object;)Z"⟩ : MethodName)) (hw _ (List.mem_of_getElem? (i := 56) rfl)) (hw _ (List.mem_of_getElem? (i := 57) rfl)) (hw _ (List.mem_of_getElem? (i := 59) rfl)) (hw _ (List.mem_of_getElem? (i := 58) rfl)) (hw _ (List.mem_of_getElem? (i := 60) rfl)) (hw _ (List.mem_of_getElem? (i := 16) rfl)) (by decide) (W := 0) (kc := 0) (ks := 0) (Q := fun v h' L => ((v = some (.int 1) ∧ own_U = ds) ∨ (v = some (.int 0) ∧ ¬ own_U = ds)) ∧ L = [] ∧ h' = h0) (StrChars.Road.eqW (R := ({ frames := 2, cells := 0, slots := 0, locals := 40 } : Room)) (W := 0) hZ hweq (kI := 4) (hw _ (List.mem_of_getElem? (i := 15) rfl)) Em Vm Cm Am hcdm hbdm hlm Ey Vy Cy Ay hcdy hbdy hly SC hzc (by decide) (by decide)) Em (g := (mkF m 24 #[.val (.ref g), .val (.ref dom), .val (.ref x), .val (.ref y)] [(.ref y), (.ref cm)])) rfl (by rw [hml]; rfl) (b := cm) (argsL := [(.ref y)]) (rest := []) (lenOf pd__Ljava_lang_Object__Z rfl) rfl rfl (by show 2 * 0 + _ ≤ _; exact Nat.le_of_eq rfl) (hb hby d10_24) e4 (by decide) (by decide)
    obtain ⟨hor5, rfl, e5⟩ := Q5
    rcases hor5 with ⟨rfl, k5⟩ | ⟨rfl, k5⟩
    · refine own_go st5 ?_
      show own_R p.tables e below _ T5 (mkF m 27 #[.val (.ref g), .val (.ref dom), .val (.ref x), .val (.ref y)] [(.int (1 : Int32))])
      refine own_go (fun _ => XS.ifNo X5.here hx rfl (hb hby d10_27) rfl ((if0 _ _).trans (feq (by decide)).1)) ?_
      show own_R p.tables e below _ T5 (mkF m 30 #[.val (.ref g), .val (.ref dom), .val (.ref x), .val (.ref y)] [])
      refine own_go (fun _ => XS.iconst X5.here hx rfl (hb hby d10_30)) ?_
      show own_R p.tables e below _ T5 (mkF m 31 #[.val (.ref g), .val (.ref dom), .val (.ref x), .val (.ref y)] [(.int (1 : Int32))])
      refine own_go (fun _ => XS.goto X5.here hx rfl (pc0 := 31) (pc' := 35) rfl (hb hby d10_31) (by decide) (by decide)) ?_
      show own_R p.tables e below _ T5 (mkF m 35 #[.val (.ref g), .val (.ref dom), .val (.ref x), .val (.ref y)] [(.int (1 : Int32))])
      have ev : own_b (cs = own_U ∧ ds = own_U) = 1 := if_pos ⟨k3.symm, k5.symm⟩
      exact own_end X5 (some (.int (1 : Int32))) (fun h => by rw [hret] at h; cases h) hlk (fun fs hr => retN X5 hx (t := .boolean) hret (by simp) (hb hby d10_35) hr) ⟨by rw [ev], Fr.nil n0, e5⟩ (by decide) (by decide)
    · refine own_go st5 ?_
      show own_R p.tables e below _ T5 (mkF m 27 #[.val (.ref g), .val (.ref dom), .val (.ref x), .val (.ref y)] [(.int (0 : Int32))])
      refine own_go (fun _ => XS.ifYes X5.here hx rfl (pc0 := 27) (pc' := 34) rfl (hb hby d10_27) rfl ((if0 _ _).trans (teq (by decide)).1) (by decide) (by decide)) ?_
      show own_R p.tables e below _ T5 (mkF m 34 #[.val (.ref g), .val (.ref dom), .val (.ref x), .val (.ref y)] [])
      refine own_go (fun _ => XS.iconst X5.here hx rfl (hb hby d10_34)) ?_
      show own_R p.tables e below _ T5 (mkF m 35 #[.val (.ref g), .val (.ref dom), .val (.ref x), .val (.ref y)] [(.int (0 : Int32))])
      have ev : own_b (cs = own_U ∧ ds = own_U) = 0 := if_neg (fun q => k5 q.2.symm)
      exact own_end X5 (some (.int (0 : Int32))) (fun h => by rw [hret] at h; cases h) hlk (fun fs hr => retN X5 hx (t := .boolean) hret (by simp) (hb hby d10_35) hr) ⟨by rw [ev], Fr.nil n0, e5⟩ (by decide) (by decide)
  · refine own_go st3 ?_
    show own_R p.tables e below _ T3 (mkF m 16 #[.val (.ref g), .val (.ref dom), .val (.ref x), .val (.ref y)] [(.int (0 : Int32))])
    refine own_go (fun _ => XS.ifYes X3.here hx rfl (pc0 := 16) (pc' := 34) rfl (hb hby d10_16) rfl ((if0 _ _).trans (teq (by decide)).1) (by decide) (by decide)) ?_
    show own_R p.tables e below _ T3 (mkF m 34 #[.val (.ref g), .val (.ref dom), .val (.ref x), .val (.ref y)] [])
    refine own_go (fun _ => XS.iconst X3.here hx rfl (hb hby d10_34)) ?_
    show own_R p.tables e below _ T3 (mkF m 35 #[.val (.ref g), .val (.ref dom), .val (.ref x), .val (.ref y)] [(.int (0 : Int32))])
    have ev : own_b (cs = own_U ∧ ds = own_U) = 0 := if_neg (fun q => k3 q.1.symm)
    exact own_end X3 (some (.int (0 : Int32))) (fun h => by rw [hret] at h; cases h) hlk (fun fs hr => retN X3 hx (t := .boolean) hret (by simp) (hb hby d10_35) hr) ⟨by rw [ev], Fr.nil n0, e3⟩ (by decide) (by decide)
def own_Q0 (n0 : Nat) (v : Option Value) (h : Heap) (L : List Loc) : Prop := v = some (.int (1 : Int32)) ∧ Fr n0 L
set_option maxRecDepth 65536 in
set_option maxHeartbeats 40000000 in
theorem rm0 (l : Launch) (Z : State) (a0 : Array Value) (hw : ∀ d ∈ tables_1, d.before a0 Z = true) (ws : List Jvm.Cond) (h0 : Heap) (n0 : Nat) (mm ca : Int32) (da : Int64) (cb : Int32) (db : Int64) {zc : Int32} {fm : Value} (dom con hos g cm : Addr) (n1 : con ≠ dom) (n2 : hos ≠ dom) (SD : Sta Z Z.heap "com/example/registrum/registrum/protocol/Epp$Mapping" "DOMAIN" "Lcom/example/registrum/registrum/protocol/Epp$Mapping;" (.ref dom)) (SN : Sta Z Z.heap "com/example/registrum/registrum/protocol/Epp$Mapping" "CONTACT" "Lcom/example/registrum/registrum/protocol/Epp$Mapping;" (.ref con)) (SH : Sta Z Z.heap "com/example/registrum/registrum/protocol/Epp$Mapping" "HOST" "Lcom/example/registrum/registrum/protocol/Epp$Mapping;" (.ref hos)) (SG : Sta Z Z.heap "com/example/registrum/registrum/protocol/Epp$Extension" "GRACE_PERIODS" "Lcom/example/registrum/registrum/protocol/Epp$Extension;" (.ref g)) (EG : Exa Z Z.heap g "com/example/registrum/registrum/protocol/Epp$Extension") (Fm : Fld Z Z.heap g "com/example/registrum/registrum/protocol/Epp$Extension" "mapping" "Lcom/example/registrum/registrum/protocol/Epp$Mapping;" (.ref dom)) (Fc : Fld Z Z.heap g "com/example/registrum/registrum/protocol/Epp$Extension" "command" "Ljava/lang/String;" (.ref cm)) (Fe : Fld Z Z.heap g "com/example/registrum/registrum/protocol/Epp$Extension" "element" "Ljava/lang/String;" (.ref cm)) (Sm : own_S Z Z.heap cm own_U) (O2 : Sta Z Z.heap "java/lang/String" "COMPACT_STRINGS" "Z" (.int zc)) (hzc : ¬ zc = 0) (O4 : Sta Z Z.heap "jdk/internal/util/Preconditions" "SIOOBE_FORMATTER" "Ljava/util/function/BiFunction;" fm) (rf : fm.isRef = true) (X00 : Old Z n0 h0) (Z0 : n0 ≤ h0.size) :
    own_C l Z x code maxLocals ret ws room_1 #[(.int mm), (.int ca), (.long da), (.int cb), (.long db)] h0 (own_Q0 n0) := by
  refine own_body (ls := #[.val (.int mm), .val (.int ca), .val (.long da), .second, .val (.int cb), .val (.long db), .second, .unset, .unset, .unset, .unset, .unset]) pn_0 (fun m => by first | (simp [entryFrame, mkF, argsToLocals, Value.category, maxLocals]; done) | rfl) ?_
  intro p e s m below meth c T0 hZ hx hby hml hown hnm hret hlk X0 e0
  replace hml : c.maxLocals = 12 := hml
  have N0 := Fr.nil n0
  refine own_go (fun _ => XS.iloadN X0.here hx rfl (hb hby at_0) rfl ) ?_
  show own_R p.tables e below _ T0 (mkF m 1 #[.val (.int mm), .val (.int ca), .val (.long da), .second, .val (.int cb), .val (.long db), .second, .unset, .unset, .unset, .unset, .unset] [(.int mm)])
  obtain ⟨v1, T1, L1, X1, Q1, st1⟩ := own_callS X0 hx hZ hown (y := (⟨"com/example/registrum/registrum/protocol/ExtensionExtendsCommandPinLaw", "pick", "(I)Lcom/example/registrum/registrum/protocol/Epp$Mapping;"⟩ : MethodName)) (hw _ (List.mem_of_getElem? (i := 0) rfl)) (hw _ (List.mem_of_getElem? (i := 1) rfl)) (hw _ (List.mem_of_getElem? (i := 2) rfl)) (hw _ (List.mem_of_getElem? (i := 3) rfl)) (by decide) (rmPk l Z a0 hw [] h0 n0 mm dom con hos n1 n2 (SD.ext X00.2) (SN.ext X00.2) (SH.ext X00.2)) (W := 0) (g := (mkF m 1 #[.val (.int mm), .val (.int ca), .val (.long da), .second, .val (.int cb), .val (.long db), .second, .unset, .unset, .unset, .unset, .unset] [(.int mm)])) rfl (by rw [hml]; rfl) (argsL := [(.int mm)]) (rest := []) (lenOf pd__I_Lcom_example_registrum_registrum_protocol_Epp_Mapping_ rfl) rfl rfl (by show 2 * 0 + _ ≤ _; exact Nat.le_of_eq rfl) (hb hby at_1) e0 (by decide) (by decide) (by decide) (by decide)
  obtain ⟨hor, N1q, e1⟩ := Q1
  have N1 := Fr.app N0 N1q
  rcases hor with rfl | ⟨b, rfl, nb⟩ | rfl
  · refine own_go st1 ?_
    show own_R p.tables e below _ T1 (mkF m 4 #[.val (.int mm), .val (.int ca), .val (.long da), .second, .val (.int cb), .val (.long db), .second, .unset, .unset, .unset, .unset, .unset] [(.ref dom)])
    refine own_go (fun _ => XS.astore X1.here hx rfl (hb hby at_4) rfl rfl (l' := #[.val (.int mm), .val (.int ca), .val (.long da), .second, .val (.int cb), .val (.long db), .second, .val (.ref dom), .unset, .unset, .unset, .unset]) rfl) ?_
    show own_R p.tables e below _ T1 (mkF m 6 #[.val (.int mm), .val (.int ca), .val (.long da), .second, .val (.int cb), .val (.long db), .second, .val (.ref dom), .unset, .unset, .unset, .unset] [])
    refine own_go (fun _ => XS.iloadN X1.here hx rfl (hb hby at_6) rfl ) ?_
    show own_R p.tables e below _ T1 (mkF m 7 #[.val (.int mm), .val (.int ca), .val (.long da), .second, .val (.int cb), .val (.long db), .second, .val (.ref dom), .unset, .unset, .unset, .unset] [(.int ca)])
    refine own_go (fun _ => XS.lloadN X1.here hx rfl (hb hby at_7) rfl ) ?_
    show own_R p.tables e below _ T1 (mkF m 8 #[.val (.int mm), .val (.int ca), .val (.long da), .second, .val (.int cb), .val (.long db), .second, .val (.ref dom), .unset, .unset, .unset, .unset] [(.long da), (.int ca)])
    obtain ⟨v2, T2, L2, X2, Q2, st2⟩ := own_callS X1 hx hZ hown (y := (⟨"com/example/registrum/registrum/protocol/ExtensionExtendsCommandPinLaw", "make", "(IJ)Ljava/lang/String;"⟩ : MethodName)) (hw _ (List.mem_of_getElem? (i := 7) rfl)) (hw _ (List.mem_of_getElem? (i := 8) rfl)) (hw _ (List.mem_of_getElem? (i := 2) rfl)) (hw _ (List.mem_of_getElem? (i := 9) rfl)) (by decide) (rmMk l Z a0 hw [] h0 n0 ca da Z0 O2 hzc X00) (W := 0) (g := (mkF m 8 #[.val (.int mm), .val (.int ca), .val (.long da), .second, .val (.int cb), .val (.long db), .second, .val (.ref dom), .unset, .unset, .unset, .unset] [(.long da), (.int ca)])) rfl (by rw [hml]; rfl) (argsL := [(.int ca), (.long da)]) (rest := []) (lenOf pd__IJ_Ljava_lang_String_ rfl) rfl rfl (by show 2 * 0 + _ ≤ _; exact Nat.le_of_eq rfl) (hb hby at_8) e1 (by decide) (by decide) (by decide) (by decide)
    obtain ⟨x, cs, rfl, N2q, K2, S2⟩ := Q2
    have N2 := Fr.app N1 N2q
    have O2b : Old Z n0 T2.heap := X00.keep K2 all0
    refine own_go st2 ?_
    show own_R p.tables e below _ T2 (mkF m 11 #[.val (.int mm), .val (.int ca), .val (.long da), .second, .val (.int cb), .val (.long db), .second, .val (.ref dom), .unset, .unset, .unset, .unset] [(.ref x)])
    refine own_go (fun _ => XS.astore X2.here hx rfl (hb hby at_11) rfl rfl (l' := #[.val (.int mm), .val (.int ca), .val (.long da), .second, .val (.int cb), .val (.long db), .second, .val (.ref dom), .val (.ref x), .unset, .unset, .unset]) rfl) ?_
    show own_R p.tables e below _ T2 (mkF m 13 #[.val (.int mm), .val (.int ca), .val (.long da), .second, .val (.int cb), .val (.long db), .second, .val (.ref dom), .val (.ref x), .unset, .unset, .unset] [])
    refine own_go (fun _ => XS.iload X2.here hx rfl (hb hby at_13) rfl ) ?_
    show own_R p.tables e below _ T2 (mkF m 15 #[.val (.int mm), .val (.int ca), .val (.long da), .second, .val (.int cb), .val (.long db), .second, .val (.ref dom), .val (.ref x), .unset, .unset, .unset] [(.int cb)])
    refine own_go (fun _ => XS.lload X2.here hx rfl (hb hby at_15) rfl ) ?_
    show own_R p.tables e below _ T2 (mkF m 17 #[.val (.int mm), .val (.int ca), .val (.long da), .second, .val (.int cb), .val (.long db), .second, .val (.ref dom), .val (.ref x), .unset, .unset, .unset] [(.long db), (.int cb)])
    obtain ⟨v3, T3, L3, X3, Q3, st3⟩ := own_callS X2 hx hZ hown (y := (⟨"com/example/registrum/registrum/protocol/ExtensionExtendsCommandPinLaw", "make", "(IJ)Ljava/lang/String;"⟩ : MethodName)) (hw _ (List.mem_of_getElem? (i := 7) rfl)) (hw _ (List.mem_of_getElem? (i := 8) rfl)) (hw _ (List.mem_of_getElem? (i := 2) rfl)) (hw _ (List.mem_of_getElem? (i := 9) rfl)) (by decide) (rmMk l Z a0 hw [] T2.heap n0 cb db (Nat.le_trans Z0 K2.1) O2 hzc O2b) (W := 0) (g := (mkF m 17 #[.val (.int mm), .val (.int ca), .val (.long da), .second, .val (.int cb), .val (.long db), .second, .val (.ref dom), .val (.ref x), .unset, .unset, .unset] [(.long db), (.int cb)])) rfl (by rw [hml]; rfl) (argsL := [(.int cb), (.long db)]) (rest := []) (lenOf pd__IJ_Ljava_lang_String_ rfl) rfl rfl (by show 2 * 0 + _ ≤ _; exact Nat.le_of_eq rfl) (hb hby at_17) rfl (by decide) (by decide) (by decide) (by decide)
    obtain ⟨y, ds, rfl, N3q, K3, S3⟩ := Q3
    have N3 := Fr.app N2 N3q
    have O3 : Old Z n0 T3.heap := O2b.keep K3 all0
    have S2b := S2.keep K3
    refine own_go st3 ?_
    show own_R p.tables e below _ T3 (mkF m 20 #[.val (.int mm), .val (.int ca), .val (.long da), .second, .val (.int cb), .val (.long db), .second, .val (.ref dom), .val (.ref x), .unset, .unset, .unset] [(.ref y)])
    refine own_go (fun _ => XS.astore X3.here hx rfl (hb hby at_20) rfl rfl (l' := #[.val (.int mm), .val (.int ca), .val (.long da), .second, .val (.int cb), .val (.long db), .second, .val (.ref dom), .val (.ref x), .val (.ref y), .unset, .unset]) rfl) ?_
    show own_R p.tables e below _ T3 (mkF m 22 #[.val (.int mm), .val (.int ca), .val (.long da), .second, .val (.int cb), .val (.long db), .second, .val (.ref dom), .val (.ref x), .val (.ref y), .unset, .unset] [])
    obtain ⟨T4, X4, e4, st4⟩ := getS X3 hx hZ hown (host := "") (hw _ (List.mem_of_getElem? (i := 44) rfl)) Via.refl rfl (SG.ext O3.2) (g := (mkF m 22 #[.val (.int mm), .val (.int ca), .val (.long da), .second, .val (.int cb), .val (.long db), .second, .val (.ref dom), .val (.ref x), .val (.ref y), .unset, .unset] [])) rfl (hb hby at_22)
    refine own_go st4 ?_
    show own_R p.tables e below _ T4 (mkF m 25 #[.val (.int mm), .val (.int ca), .val (.long da), .second, .val (.int cb), .val (.long db), .second, .val (.ref dom), .val (.ref x), .val (.ref y), .unset, .unset] [(.ref g)])
    refine own_go (fun _ => XS.aload X4.here hx rfl (hb hby at_25) rfl rfl) ?_
    show own_R p.tables e below _ T4 (mkF m 27 #[.val (.int mm), .val (.int ca), .val (.long da), .second, .val (.int cb), .val (.long db), .second, .val (.ref dom), .val (.ref x), .val (.ref y), .unset, .unset] [(.ref dom), (.ref g)])
    refine own_go (fun _ => XS.aload X4.here hx rfl (hb hby at_27) rfl rfl) ?_
    show own_R p.tables e below _ T4 (mkF m 29 #[.val (.int mm), .val (.int ca), .val (.long da), .second, .val (.int cb), .val (.long db), .second, .val (.ref dom), .val (.ref x), .val (.ref y), .unset, .unset] [(.ref x), (.ref dom), (.ref g)])
    refine own_go (fun _ => XS.aload X4.here hx rfl (hb hby at_29) rfl rfl) ?_
    show own_R p.tables e below _ T4 (mkF m 31 #[.val (.int mm), .val (.int ca), .val (.long da), .second, .val (.int cb), .val (.long db), .second, .val (.ref dom), .val (.ref x), .val (.ref y), .unset, .unset] [(.ref y), (.ref x), (.ref dom), (.ref g)])
    obtain ⟨v5, T5, L5, X5, Q5, st5⟩ := own_callV X4 hx hZ hown (y := (⟨"com/example/registrum/registrum/protocol/Epp$Extension", "extendsCommand", "(Lcom/example/registrum/registrum/protocol/Epp$Mapping;Ljava/lang/String;Ljava/lang/String;)Z"⟩ : MethodName)) (hw _ (List.mem_of_getElem? (i := 47) rfl)) (hw _ (List.mem_of_getElem? (i := 48) rfl)) (hw _ (List.mem_of_getElem? (i := 50) rfl)) (hw _ (List.mem_of_getElem? (i := 49) rfl)) (hw _ (List.mem_of_getElem? (i := 51) rfl)) (hw _ (List.mem_of_getElem? (i := 45) rfl)) (by decide) (rmXd l Z a0 hw [] T3.heap n0 g dom x y cm cs ds (Fm.ext O3.2) (Fc.ext O3.2) (Fe.ext O3.2) (Sm.ext O3.2) S2b S3 (O2.ext O3.2) hzc) (EG.ext O3.2) (W := 0) (g := (mkF m 31 #[.val (.int mm), .val (.int ca), .val (.long da), .second, .val (.int cb), .val (.long db), .second, .val (.ref dom), .val (.ref x), .val (.ref y), .unset, .unset] [(.ref y), (.ref x), (.ref dom), (.ref g)])) rfl (by rw [hml]; rfl) (b := g) (argsL := [(.ref dom), (.ref x), (.ref y)]) (rest := []) (lenOf pd__Lcom_example_registrum_registrum_protocol_Epp_Mapping_Ljava_lang_String_Ljava_lang_String__Z rfl) rfl rfl (by show 2 * 0 + _ ≤ _; exact Nat.le_of_eq rfl) (hb hby at_31) e4 (by decide) (by decide) (by decide) (by decide)
    obtain ⟨rfl, N5q, e5⟩ := Q5
    have N5 := Fr.app N3 N5q
    refine own_go st5 ?_
    show own_R p.tables e below _ T5 (mkF m 34 #[.val (.int mm), .val (.int ca), .val (.long da), .second, .val (.int cb), .val (.long db), .second, .val (.ref dom), .val (.ref x), .val (.ref y), .unset, .unset] [(.int (own_b (cs = own_U ∧ ds = own_U)))])
    refine own_go (fun _ => XS.istore X5.here hx rfl (hb hby at_34) rfl (l' := #[.val (.int mm), .val (.int ca), .val (.long da), .second, .val (.int cb), .val (.long db), .second, .val (.ref dom), .val (.ref x), .val (.ref y), .val (.int (own_b (cs = own_U ∧ ds = own_U))), .unset]) rfl) ?_
    show own_R p.tables e below _ T5 (mkF m 36 #[.val (.int mm), .val (.int ca), .val (.long da), .second, .val (.int cb), .val (.long db), .second, .val (.ref dom), .val (.ref x), .val (.ref y), .val (.int (own_b (cs = own_U ∧ ds = own_U))), .unset] [])
    refine own_go (fun _ => XS.aload X5.here hx rfl (hb hby at_36) rfl rfl) ?_
    show own_R p.tables e below _ T5 (mkF m 38 #[.val (.int mm), .val (.int ca), .val (.long da), .second, .val (.int cb), .val (.long db), .second, .val (.ref dom), .val (.ref x), .val (.ref y), .val (.int (own_b (cs = own_U ∧ ds = own_U))), .unset] [(.ref dom)])
    obtain ⟨T6, X6, e6, st6⟩ := getS X5 hx hZ hown (host := "") (hw _ (List.mem_of_getElem? (i := 4) rfl)) Via.refl e5 (SD.ext O3.2) (g := (mkF m 38 #[.val (.int mm), .val (.int ca), .val (.long da), .second, .val (.int cb), .val (.long db), .second, .val (.ref dom), .val (.ref x), .val (.ref y), .val (.int (own_b (cs = own_U ∧ ds = own_U))), .unset] [(.ref dom)])) rfl (hb hby at_38)
    refine own_go st6 ?_
    show own_R p.tables e below _ T6 (mkF m 41 #[.val (.int mm), .val (.int ca), .val (.long da), .second, .val (.int cb), .val (.long db), .second, .val (.ref dom), .val (.ref x), .val (.ref y), .val (.int (own_b (cs = own_U ∧ ds = own_U))), .unset] [(.ref dom), (.ref dom)])
    refine own_go (fun _ => Jvm.RoadKit.acmp (g := (mkF m 41 #[.val (.int mm), .val (.int ca), .val (.long da), .second, .val (.int cb), .val (.long db), .second, .val (.ref dom), .val (.ref x), .val (.ref y), .val (.int (own_b (cs = own_U ∧ ds = own_U))), .unset] [(.ref dom), (.ref dom)])) X6 hx rfl rfl rfl (pc0 := 41) (pc' := 44) (same := true) rfl (hb hby at_41) rfl (decide_eq_true rfl) (by decide) (by decide)) ?_
    show own_R p.tables e below _ T6 (mkF m 44 #[.val (.int mm), .val (.int ca), .val (.long da), .second, .val (.int cb), .val (.long db), .second, .val (.ref dom), .val (.ref x), .val (.ref y), .val (.int (own_b (cs = own_U ∧ ds = own_U))), .unset] [])
    refine own_go (fun _ => XS.aload X6.here hx rfl (hb hby at_44) rfl rfl) ?_
    show own_R p.tables e below _ T6 (mkF m 46 #[.val (.int mm), .val (.int ca), .val (.long da), .second, .val (.int cb), .val (.long db), .second, .val (.ref dom), .val (.ref x), .val (.ref y), .val (.int (own_b (cs = own_U ∧ ds = own_U))), .unset] [(.ref x)])
    obtain ⟨v7, T7, L7, X7, Q7, st7⟩ := own_callS X6 hx hZ hown (y := (⟨"com/example/registrum/registrum/protocol/ExtensionExtendsCommandPinLaw", "isUpdate", "(Ljava/lang/String;)Z"⟩ : MethodName)) (hw _ (List.mem_of_getElem? (i := 66) rfl)) (hw _ (List.mem_of_getElem? (i := 67) rfl)) (hw _ (List.mem_of_getElem? (i := 2) rfl)) (hw _ (List.mem_of_getElem? (i := 68) rfl)) (by decide) (rmIU l Z a0 hw [] T3.heap n0 x cs S2b (O2.ext O3.2) hzc (O4.ext O3.2) rf) (W := 0) (g := (mkF m 46 #[.val (.int mm), .val (.int ca), .val (.long da), .second, .val (.int cb), .val (.long db), .second, .val (.ref dom), .val (.ref x), .val (.ref y), .val (.int (own_b (cs = own_U ∧ ds = own_U))), .unset] [(.ref x)])) rfl (by rw [hml]; rfl) (argsL := [(.ref x)]) (rest := []) (lenOf pd__Ljava_lang_String__Z rfl) rfl rfl (by show 2 * 0 + _ ≤ _; exact Nat.le_of_eq rfl) (hb hby at_46) e6 (by decide) (by decide) (by decide) (by decide)
    obtain ⟨rfl, N7q, e7⟩ := Q7
    have N7 := Fr.app N5 N7q
    refine own_go st7 ?_
    show own_R p.tables e below _ T7 (mkF m 49 #[.val (.int mm), .val (.int ca), .val (.long da), .second, .val (.int cb), .val (.long db), .second, .val (.ref dom), .val (.ref x), .val (.ref y), .val (.int (own_b (cs = own_U ∧ ds = own_U))), .unset] [(.int (own_b (cs = own_U)))])
    by_cases k1 : cs = own_U
    · have v1 : own_b (cs = own_U) = 1 := if_pos k1
      show own_R p.tables e below _ T7 (mkF m 49 #[.val (.int mm), .val (.int ca), .val (.long da), .second, .val (.int cb), .val (.long db), .second, .val (.ref dom), .val (.ref x), .val (.ref y), .val (.int (own_b (cs = own_U ∧ ds = own_U))), .unset] [(.int (own_b (cs = own_U)))])
      refine own_go (fun _ => XS.ifNo X7.here hx rfl (hb hby at_49) rfl ((if0 _ _).trans (feq (by rw [v1]; decide)).1)) ?_
      show own_R p.tables e below _ T7 (mkF m 52 #[.val (.int mm), .val (.int ca), .val (.long da), .second, .val (.int cb), .val (.long db), .second, .val (.ref dom), .val (.ref x), .val (.ref y), .val (.int (own_b (cs = own_U ∧ ds = own_U))), .unset] [])
      refine own_go (fun _ => XS.aload X7.here hx rfl (hb hby at_52) rfl rfl) ?_
      show own_R p.tables e below _ T7 (mkF m 54 #[.val (.int mm), .val (.int ca), .val (.long da), .second, .val (.int cb), .val (.long db), .second, .val (.ref dom), .val (.ref x), .val (.ref y), .val (.int (own_b (cs = own_U ∧ ds = own_U))), .unset] [(.ref y)])
      obtain ⟨v8, T8, L8, X8, Q8, st8⟩ := own_callS X7 hx hZ hown (y := (⟨"com/example/registrum/registrum/protocol/ExtensionExtendsCommandPinLaw", "isUpdate", "(Ljava/lang/String;)Z"⟩ : MethodName)) (hw _ (List.mem_of_getElem? (i := 66) rfl)) (hw _ (List.mem_of_getElem? (i := 67) rfl)) (hw _ (List.mem_of_getElem? (i := 2) rfl)) (hw _ (List.mem_of_getElem? (i := 68) rfl)) (by decide) (rmIU l Z a0 hw [] T3.heap n0 y ds S3 (O2.ext O3.2) hzc (O4.ext O3.2) rf) (W := 0) (g := (mkF m 54 #[.val (.int mm), .val (.int ca), .val (.long da), .second, .val (.int cb), .val (.long db), .second, .val (.ref dom), .val (.ref x), .val (.ref y), .val (.int (own_b (cs = own_U ∧ ds = own_U))), .unset] [(.ref y)])) rfl (by rw [hml]; rfl) (argsL := [(.ref y)]) (rest := []) (lenOf pd__Ljava_lang_String__Z rfl) rfl rfl (by show 2 * 0 + _ ≤ _; exact Nat.le_of_eq rfl) (hb hby at_54) e7 (by decide) (by decide) (by decide) (by decide)
      obtain ⟨rfl, N8q, e8⟩ := Q8
      have N8 := Fr.app N7 N8q
      refine own_go st8 ?_
      show own_R p.tables e below _ T8 (mkF m 57 #[.val (.int mm), .val (.int ca), .val (.long da), .second, .val (.int cb), .val (.long db), .second, .val (.ref dom), .val (.ref x), .val (.ref y), .val (.int (own_b (cs = own_U ∧ ds = own_U))), .unset] [(.int (own_b (ds = own_U)))])
      by_cases k2 : ds = own_U
      · have v2 : own_b (ds = own_U) = 1 := if_pos k2
        show own_R p.tables e below _ T8 (mkF m 57 #[.val (.int mm), .val (.int ca), .val (.long da), .second, .val (.int cb), .val (.long db), .second, .val (.ref dom), .val (.ref x), .val (.ref y), .val (.int (own_b (cs = own_U ∧ ds = own_U))), .unset] [(.int (own_b (ds = own_U)))])
        refine own_go (fun _ => XS.ifNo X8.here hx rfl (hb hby at_57) rfl ((if0 _ _).trans (feq (by rw [v2]; decide)).1)) ?_
        show own_R p.tables e below _ T8 (mkF m 60 #[.val (.int mm), .val (.int ca), .val (.long da), .second, .val (.int cb), .val (.long db), .second, .val (.ref dom), .val (.ref x), .val (.ref y), .val (.int (own_b (cs = own_U ∧ ds = own_U))), .unset] [])
        refine own_go (fun _ => XS.iconst X8.here hx rfl (hb hby at_60)) ?_
        show own_R p.tables e below _ T8 (mkF m 61 #[.val (.int mm), .val (.int ca), .val (.long da), .second, .val (.int cb), .val (.long db), .second, .val (.ref dom), .val (.ref x), .val (.ref y), .val (.int (own_b (cs = own_U ∧ ds = own_U))), .unset] [(.int (1 : Int32))])
        refine own_go (fun _ => XS.goto X8.here hx rfl (pc0 := 61) (pc' := 65) rfl (hb hby at_61) (by decide) (by decide)) ?_
        show own_R p.tables e below _ T8 (mkF m 65 #[.val (.int mm), .val (.int ca), .val (.long da), .second, .val (.int cb), .val (.long db), .second, .val (.ref dom), .val (.ref x), .val (.ref y), .val (.int (own_b (cs = own_U ∧ ds = own_U))), .unset] [(.int (1 : Int32))])
        refine own_go (fun _ => XS.istore X8.here hx rfl (hb hby at_65) rfl (l' := #[.val (.int mm), .val (.int ca), .val (.long da), .second, .val (.int cb), .val (.long db), .second, .val (.ref dom), .val (.ref x), .val (.ref y), .val (.int (own_b (cs = own_U ∧ ds = own_U))), .val (.int (1 : Int32))]) rfl) ?_
        show own_R p.tables e below _ T8 (mkF m 67 #[.val (.int mm), .val (.int ca), .val (.long da), .second, .val (.int cb), .val (.long db), .second, .val (.ref dom), .val (.ref x), .val (.ref y), .val (.int (own_b (cs = own_U ∧ ds = own_U))), .val (.int (1 : Int32))] [])
        refine own_go (fun _ => XS.iload X8.here hx rfl (hb hby at_67) rfl ) ?_
        show own_R p.tables e below _ T8 (mkF m 69 #[.val (.int mm), .val (.int ca), .val (.long da), .second, .val (.int cb), .val (.long db), .second, .val (.ref dom), .val (.ref x), .val (.ref y), .val (.int (own_b (cs = own_U ∧ ds = own_U))), .val (.int (1 : Int32))] [(.int (own_b (cs = own_U ∧ ds = own_U)))])
        refine own_go (fun _ => XS.iload X8.here hx rfl (hb hby at_69) rfl ) ?_
        show own_R p.tables e below _ T8 (mkF m 71 #[.val (.int mm), .val (.int ca), .val (.long da), .second, .val (.int cb), .val (.long db), .second, .val (.ref dom), .val (.ref x), .val (.ref y), .val (.int (own_b (cs = own_U ∧ ds = own_U))), .val (.int (1 : Int32))] [(.int (1 : Int32)), (.int (own_b (cs = own_U ∧ ds = own_U)))])
        refine own_go (fun _ => XS.icmpNo X8.here hx rfl (hb hby at_71) rfl (teq (if_pos ⟨k1, k2⟩)).2) ?_
        show own_R p.tables e below _ T8 (mkF m 74 #[.val (.int mm), .val (.int ca), .val (.long da), .second, .val (.int cb), .val (.long db), .second, .val (.ref dom), .val (.ref x), .val (.ref y), .val (.int (own_b (cs = own_U ∧ ds = own_U))), .val (.int (1 : Int32))] [])
        refine own_go (fun _ => XS.iconst X8.here hx rfl (hb hby at_74)) ?_
        show own_R p.tables e below _ T8 (mkF m 75 #[.val (.int mm), .val (.int ca), .val (.long da), .second, .val (.int cb), .val (.long db), .second, .val (.ref dom), .val (.ref x), .val (.ref y), .val (.int (own_b (cs = own_U ∧ ds = own_U))), .val (.int (1 : Int32))] [(.int (1 : Int32))])
        refine own_go (fun _ => XS.goto X8.here hx rfl (pc0 := 75) (pc' := 79) rfl (hb hby at_75) (by decide) (by decide)) ?_
        show own_R p.tables e below _ T8 (mkF m 79 #[.val (.int mm), .val (.int ca), .val (.long da), .second, .val (.int cb), .val (.long db), .second, .val (.ref dom), .val (.ref x), .val (.ref y), .val (.int (own_b (cs = own_U ∧ ds = own_U))), .val (.int (1 : Int32))] [(.int (1 : Int32))])
        exact own_end X8 (some (.int (1 : Int32))) (fun h => by rw [hret] at h; cases h) hlk (fun fs hr => retN X8 hx (t := .boolean) hret (by simp) (hb hby at_79) hr) ⟨rfl, N8⟩ (by decide) (by decide)
      · have v2 : own_b (ds = own_U) = 0 := if_neg k2
        show own_R p.tables e below _ T8 (mkF m 57 #[.val (.int mm), .val (.int ca), .val (.long da), .second, .val (.int cb), .val (.long db), .second, .val (.ref dom), .val (.ref x), .val (.ref y), .val (.int (own_b (cs = own_U ∧ ds = own_U))), .unset] [(.int (own_b (ds = own_U)))])
        refine own_go (fun _ => XS.ifYes X8.here hx rfl (pc0 := 57) (pc' := 64) rfl (hb hby at_57) rfl ((if0 _ _).trans (teq v2).1) (by decide) (by decide)) ?_
        show own_R p.tables e below _ T8 (mkF m 64 #[.val (.int mm), .val (.int ca), .val (.long da), .second, .val (.int cb), .val (.long db), .second, .val (.ref dom), .val (.ref x), .val (.ref y), .val (.int (own_b (cs = own_U ∧ ds = own_U))), .unset] [])
        refine own_go (fun _ => XS.iconst X8.here hx rfl (hb hby at_64)) ?_
        show own_R p.tables e below _ T8 (mkF m 65 #[.val (.int mm), .val (.int ca), .val (.long da), .second, .val (.int cb), .val (.long db), .second, .val (.ref dom), .val (.ref x), .val (.ref y), .val (.int (own_b (cs = own_U ∧ ds = own_U))), .unset] [(.int (0 : Int32))])
        refine own_go (fun _ => XS.istore X8.here hx rfl (hb hby at_65) rfl (l' := #[.val (.int mm), .val (.int ca), .val (.long da), .second, .val (.int cb), .val (.long db), .second, .val (.ref dom), .val (.ref x), .val (.ref y), .val (.int (own_b (cs = own_U ∧ ds = own_U))), .val (.int (0 : Int32))]) rfl) ?_
        show own_R p.tables e below _ T8 (mkF m 67 #[.val (.int mm), .val (.int ca), .val (.long da), .second, .val (.int cb), .val (.long db), .second, .val (.ref dom), .val (.ref x), .val (.ref y), .val (.int (own_b (cs = own_U ∧ ds = own_U))), .val (.int (0 : Int32))] [])
        refine own_go (fun _ => XS.iload X8.here hx rfl (hb hby at_67) rfl ) ?_
        show own_R p.tables e below _ T8 (mkF m 69 #[.val (.int mm), .val (.int ca), .val (.long da), .second, .val (.int cb), .val (.long db), .second, .val (.ref dom), .val (.ref x), .val (.ref y), .val (.int (own_b (cs = own_U ∧ ds = own_U))), .val (.int (0 : Int32))] [(.int (own_b (cs = own_U ∧ ds = own_U)))])
        refine own_go (fun _ => XS.iload X8.here hx rfl (hb hby at_69) rfl ) ?_
        show own_R p.tables e below _ T8 (mkF m 71 #[.val (.int mm), .val (.int ca), .val (.long da), .second, .val (.int cb), .val (.long db), .second, .val (.ref dom), .val (.ref x), .val (.ref y), .val (.int (own_b (cs = own_U ∧ ds = own_U))), .val (.int (0 : Int32))] [(.int (0 : Int32)), (.int (own_b (cs = own_U ∧ ds = own_U)))])
        refine own_go (fun _ => XS.icmpNo X8.here hx rfl (hb hby at_71) rfl (teq (if_neg (fun q => k2 q.2))).2) ?_
        show own_R p.tables e below _ T8 (mkF m 74 #[.val (.int mm), .val (.int ca), .val (.long da), .second, .val (.int cb), .val (.long db), .second, .val (.ref dom), .val (.ref x), .val (.ref y), .val (.int (own_b (cs = own_U ∧ ds = own_U))), .val (.int (0 : Int32))] [])
        refine own_go (fun _ => XS.iconst X8.here hx rfl (hb hby at_74)) ?_
        show own_R p.tables e below _ T8 (mkF m 75 #[.val (.int mm), .val (.int ca), .val (.long da), .second, .val (.int cb), .val (.long db), .second, .val (.ref dom), .val (.ref x), .val (.ref y), .val (.int (own_b (cs = own_U ∧ ds = own_U))), .val (.int (0 : Int32))] [(.int (1 : Int32))])
        refine own_go (fun _ => XS.goto X8.here hx rfl (pc0 := 75) (pc' := 79) rfl (hb hby at_75) (by decide) (by decide)) ?_
        show own_R p.tables e below _ T8 (mkF m 79 #[.val (.int mm), .val (.int ca), .val (.long da), .second, .val (.int cb), .val (.long db), .second, .val (.ref dom), .val (.ref x), .val (.ref y), .val (.int (own_b (cs = own_U ∧ ds = own_U))), .val (.int (0 : Int32))] [(.int (1 : Int32))])
        exact own_end X8 (some (.int (1 : Int32))) (fun h => by rw [hret] at h; cases h) hlk (fun fs hr => retN X8 hx (t := .boolean) hret (by simp) (hb hby at_79) hr) ⟨rfl, N8⟩ (by decide) (by decide)
    · have v1 : own_b (cs = own_U) = 0 := if_neg k1
      show own_R p.tables e below _ T7 (mkF m 49 #[.val (.int mm), .val (.int ca), .val (.long da), .second, .val (.int cb), .val (.long db), .second, .val (.ref dom), .val (.ref x), .val (.ref y), .val (.int (own_b (cs = own_U ∧ ds = own_U))), .unset] [(.int (own_b (cs = own_U)))])
      refine own_go (fun _ => XS.ifYes X7.here hx rfl (pc0 := 49) (pc' := 64) rfl (hb hby at_49) rfl ((if0 _ _).trans (teq v1).1) (by decide) (by decide)) ?_
      show own_R p.tables e below _ T7 (mkF m 64 #[.val (.int mm), .val (.int ca), .val (.long da), .second, .val (.int cb), .val (.long db), .second, .val (.ref dom), .val (.ref x), .val (.ref y), .val (.int (own_b (cs = own_U ∧ ds = own_U))), .unset] [])
      refine own_go (fun _ => XS.iconst X7.here hx rfl (hb hby at_64)) ?_
      show own_R p.tables e below _ T7 (mkF m 65 #[.val (.int mm), .val (.int ca), .val (.long da), .second, .val (.int cb), .val (.long db), .second, .val (.ref dom), .val (.ref x), .val (.ref y), .val (.int (own_b (cs = own_U ∧ ds = own_U))), .unset] [(.int (0 : Int32))])
      refine own_go (fun _ => XS.istore X7.here hx rfl (hb hby at_65) rfl (l' := #[.val (.int mm), .val (.int ca), .val (.long da), .second, .val (.int cb), .val (.long db), .second, .val (.ref dom), .val (.ref x), .val (.ref y), .val (.int (own_b (cs = own_U ∧ ds = own_U))), .val (.int (0 : Int32))]) rfl) ?_
      show own_R p.tables e below _ T7 (mkF m 67 #[.val (.int mm), .val (.int ca), .val (.long da), .second, .val (.int cb), .val (.long db), .second, .val (.ref dom), .val (.ref x), .val (.ref y), .val (.int (own_b (cs = own_U ∧ ds = own_U))), .val (.int (0 : Int32))] [])
      refine own_go (fun _ => XS.iload X7.here hx rfl (hb hby at_67) rfl ) ?_
      show own_R p.tables e below _ T7 (mkF m 69 #[.val (.int mm), .val (.int ca), .val (.long da), .second, .val (.int cb), .val (.long db), .second, .val (.ref dom), .val (.ref x), .val (.ref y), .val (.int (own_b (cs = own_U ∧ ds = own_U))), .val (.int (0 : Int32))] [(.int (own_b (cs = own_U ∧ ds = own_U)))])
      refine own_go (fun _ => XS.iload X7.here hx rfl (hb hby at_69) rfl ) ?_
      show own_R p.tables e below _ T7 (mkF m 71 #[.val (.int mm), .val (.int ca), .val (.long da), .second, .val (.int cb), .val (.long db), .second, .val (.ref dom), .val (.ref x), .val (.ref y), .val (.int (own_b (cs = own_U ∧ ds = own_U))), .val (.int (0 : Int32))] [(.int (0 : Int32)), (.int (own_b (cs = own_U ∧ ds = own_U)))])
      refine own_go (fun _ => XS.icmpNo X7.here hx rfl (hb hby at_71) rfl (teq (if_neg (fun q => k1 q.1))).2) ?_
      show own_R p.tables e below _ T7 (mkF m 74 #[.val (.int mm), .val (.int ca), .val (.long da), .second, .val (.int cb), .val (.long db), .second, .val (.ref dom), .val (.ref x), .val (.ref y), .val (.int (own_b (cs = own_U ∧ ds = own_U))), .val (.int (0 : Int32))] [])
      refine own_go (fun _ => XS.iconst X7.here hx rfl (hb hby at_74)) ?_
      show own_R p.tables e below _ T7 (mkF m 75 #[.val (.int mm), .val (.int ca), .val (.long da), .second, .val (.int cb), .val (.long db), .second, .val (.ref dom), .val (.ref x), .val (.ref y), .val (.int (own_b (cs = own_U ∧ ds = own_U))), .val (.int (0 : Int32))] [(.int (1 : Int32))])
      refine own_go (fun _ => XS.goto X7.here hx rfl (pc0 := 75) (pc' := 79) rfl (hb hby at_75) (by decide) (by decide)) ?_
      show own_R p.tables e below _ T7 (mkF m 79 #[.val (.int mm), .val (.int ca), .val (.long da), .second, .val (.int cb), .val (.long db), .second, .val (.ref dom), .val (.ref x), .val (.ref y), .val (.int (own_b (cs = own_U ∧ ds = own_U))), .val (.int (0 : Int32))] [(.int (1 : Int32))])
      exact own_end X7 (some (.int (1 : Int32))) (fun h => by rw [hret] at h; cases h) hlk (fun fs hr => retN X7 hx (t := .boolean) hret (by simp) (hb hby at_79) hr) ⟨rfl, N7⟩ (by decide) (by decide)
  · refine own_go st1 ?_
    show own_R p.tables e below _ T1 (mkF m 4 #[.val (.int mm), .val (.int ca), .val (.long da), .second, .val (.int cb), .val (.long db), .second, .unset, .unset, .unset, .unset, .unset] [(.ref b)])
    refine own_go (fun _ => XS.astore X1.here hx rfl (hb hby at_4) rfl rfl (l' := #[.val (.int mm), .val (.int ca), .val (.long da), .second, .val (.int cb), .val (.long db), .second, .val (.ref b), .unset, .unset, .unset, .unset]) rfl) ?_
    show own_R p.tables e below _ T1 (mkF m 6 #[.val (.int mm), .val (.int ca), .val (.long da), .second, .val (.int cb), .val (.long db), .second, .val (.ref b), .unset, .unset, .unset, .unset] [])
    refine own_go (fun _ => XS.iloadN X1.here hx rfl (hb hby at_6) rfl ) ?_
    show own_R p.tables e below _ T1 (mkF m 7 #[.val (.int mm), .val (.int ca), .val (.long da), .second, .val (.int cb), .val (.long db), .second, .val (.ref b), .unset, .unset, .unset, .unset] [(.int ca)])
    refine own_go (fun _ => XS.lloadN X1.here hx rfl (hb hby at_7) rfl ) ?_
    show own_R p.tables e below _ T1 (mkF m 8 #[.val (.int mm), .val (.int ca), .val (.long da), .second, .val (.int cb), .val (.long db), .second, .val (.ref b), .unset, .unset, .unset, .unset] [(.long da), (.int ca)])
    obtain ⟨v2, T2, L2, X2, Q2, st2⟩ := own_callS X1 hx hZ hown (y := (⟨"com/example/registrum/registrum/protocol/ExtensionExtendsCommandPinLaw", "make", "(IJ)Ljava/lang/String;"⟩ : MethodName)) (hw _ (List.mem_of_getElem? (i := 7) rfl)) (hw _ (List.mem_of_getElem? (i := 8) rfl)) (hw _ (List.mem_of_getElem? (i := 2) rfl)) (hw _ (List.mem_of_getElem? (i := 9) rfl)) (by decide) (rmMk l Z a0 hw [] h0 n0 ca da Z0 O2 hzc X00) (W := 0) (g := (mkF m 8 #[.val (.int mm), .val (.int ca), .val (.long da), .second, .val (.int cb), .val (.long db), .second, .val (.ref b), .unset, .unset, .unset, .unset] [(.long da), (.int ca)])) rfl (by rw [hml]; rfl) (argsL := [(.int ca), (.long da)]) (rest := []) (lenOf pd__IJ_Ljava_lang_String_ rfl) rfl rfl (by show 2 * 0 + _ ≤ _; exact Nat.le_of_eq rfl) (hb hby at_8) e1 (by decide) (by decide) (by decide) (by decide)
    obtain ⟨x, cs, rfl, N2q, K2, S2⟩ := Q2
    have N2 := Fr.app N1 N2q
    have O2b : Old Z n0 T2.heap := X00.keep K2 all0
    refine own_go st2 ?_
    show own_R p.tables e below _ T2 (mkF m 11 #[.val (.int mm), .val (.int ca), .val (.long da), .second, .val (.int cb), .val (.long db), .second, .val (.ref b), .unset, .unset, .unset, .unset] [(.ref x)])
    refine own_go (fun _ => XS.astore X2.here hx rfl (hb hby at_11) rfl rfl (l' := #[.val (.int mm), .val (.int ca), .val (.long da), .second, .val (.int cb), .val (.long db), .second, .val (.ref b), .val (.ref x), .unset, .unset, .unset]) rfl) ?_
    show own_R p.tables e below _ T2 (mkF m 13 #[.val (.int mm), .val (.int ca), .val (.long da), .second, .val (.int cb), .val (.long db), .second, .val (.ref b), .val (.ref x), .unset, .unset, .unset] [])
    refine own_go (fun _ => XS.iload X2.here hx rfl (hb hby at_13) rfl ) ?_
    show own_R p.tables e below _ T2 (mkF m 15 #[.val (.int mm), .val (.int ca), .val (.long da), .second, .val (.int cb), .val (.long db), .second, .val (.ref b), .val (.ref x), .unset, .unset, .unset] [(.int cb)])
    refine own_go (fun _ => XS.lload X2.here hx rfl (hb hby at_15) rfl ) ?_
    show own_R p.tables e below _ T2 (mkF m 17 #[.val (.int mm), .val (.int ca), .val (.long da), .second, .val (.int cb), .val (.long db), .second, .val (.ref b), .val (.ref x), .unset, .unset, .unset] [(.long db), (.int cb)])
    obtain ⟨v3, T3, L3, X3, Q3, st3⟩ := own_callS X2 hx hZ hown (y := (⟨"com/example/registrum/registrum/protocol/ExtensionExtendsCommandPinLaw", "make", "(IJ)Ljava/lang/String;"⟩ : MethodName)) (hw _ (List.mem_of_getElem? (i := 7) rfl)) (hw _ (List.mem_of_getElem? (i := 8) rfl)) (hw _ (List.mem_of_getElem? (i := 2) rfl)) (hw _ (List.mem_of_getElem? (i := 9) rfl)) (by decide) (rmMk l Z a0 hw [] T2.heap n0 cb db (Nat.le_trans Z0 K2.1) O2 hzc O2b) (W := 0) (g := (mkF m 17 #[.val (.int mm), .val (.int ca), .val (.long da), .second, .val (.int cb), .val (.long db), .second, .val (.ref b), .val (.ref x), .unset, .unset, .unset] [(.long db), (.int cb)])) rfl (by rw [hml]; rfl) (argsL := [(.int cb), (.long db)]) (rest := []) (lenOf pd__IJ_Ljava_lang_String_ rfl) rfl rfl (by show 2 * 0 + _ ≤ _; exact Nat.le_of_eq rfl) (hb hby at_17) rfl (by decide) (by decide) (by decide) (by decide)
    obtain ⟨y, ds, rfl, N3q, K3, S3⟩ := Q3
    have N3 := Fr.app N2 N3q
    have O3 : Old Z n0 T3.heap := O2b.keep K3 all0
    have S2b := S2.keep K3
    refine own_go st3 ?_
    show own_R p.tables e below _ T3 (mkF m 20 #[.val (.int mm), .val (.int ca), .val (.long da), .second, .val (.int cb), .val (.long db), .second, .val (.ref b), .val (.ref x), .unset, .unset, .unset] [(.ref y)])
    refine own_go (fun _ => XS.astore X3.here hx rfl (hb hby at_20) rfl rfl (l' := #[.val (.int mm), .val (.int ca), .val (.long da), .second, .val (.int cb), .val (.long db), .second, .val (.ref b), .val (.ref x), .val (.ref y), .unset, .unset]) rfl) ?_
    show own_R p.tables e below _ T3 (mkF m 22 #[.val (.int mm), .val (.int ca), .val (.long da), .second, .val (.int cb), .val (.long db), .second, .val (.ref b), .val (.ref x), .val (.ref y), .unset, .unset] [])
    obtain ⟨T4, X4, e4, st4⟩ := getS X3 hx hZ hown (host := "") (hw _ (List.mem_of_getElem? (i := 44) rfl)) Via.refl rfl (SG.ext O3.2) (g := (mkF m 22 #[.val (.int mm), .val (.int ca), .val (.long da), .second, .val (.int cb), .val (.long db), .second, .val (.ref b), .val (.ref x), .val (.ref y), .unset, .unset] [])) rfl (hb hby at_22)
    refine own_go st4 ?_
    show own_R p.tables e below _ T4 (mkF m 25 #[.val (.int mm), .val (.int ca), .val (.long da), .second, .val (.int cb), .val (.long db), .second, .val (.ref b), .val (.ref x), .val (.ref y), .unset, .unset] [(.ref g)])
    refine own_go (fun _ => XS.aload X4.here hx rfl (hb hby at_25) rfl rfl) ?_
    show own_R p.tables e below _ T4 (mkF m 27 #[.val (.int mm), .val (.int ca), .val (.long da), .second, .val (.int cb), .val (.long db), .second, .val (.ref b), .val (.ref x), .val (.ref y), .unset, .unset] [(.ref b), (.ref g)])
    refine own_go (fun _ => XS.aload X4.here hx rfl (hb hby at_27) rfl rfl) ?_
    show own_R p.tables e below _ T4 (mkF m 29 #[.val (.int mm), .val (.int ca), .val (.long da), .second, .val (.int cb), .val (.long db), .second, .val (.ref b), .val (.ref x), .val (.ref y), .unset, .unset] [(.ref x), (.ref b), (.ref g)])
    refine own_go (fun _ => XS.aload X4.here hx rfl (hb hby at_29) rfl rfl) ?_
    show own_R p.tables e below _ T4 (mkF m 31 #[.val (.int mm), .val (.int ca), .val (.long da), .second, .val (.int cb), .val (.long db), .second, .val (.ref b), .val (.ref x), .val (.ref y), .unset, .unset] [(.ref y), (.ref x), (.ref b), (.ref g)])
    obtain ⟨v5, T5, L5, X5, Q5, st5⟩ := own_callV X4 hx hZ hown (y := (⟨"com/example/registrum/registrum/protocol/Epp$Extension", "extendsCommand", "(Lcom/example/registrum/registrum/protocol/Epp$Mapping;Ljava/lang/String;Ljava/lang/String;)Z"⟩ : MethodName)) (hw _ (List.mem_of_getElem? (i := 47) rfl)) (hw _ (List.mem_of_getElem? (i := 48) rfl)) (hw _ (List.mem_of_getElem? (i := 50) rfl)) (hw _ (List.mem_of_getElem? (i := 49) rfl)) (hw _ (List.mem_of_getElem? (i := 51) rfl)) (hw _ (List.mem_of_getElem? (i := 45) rfl)) (by decide) (rmXo l Z a0 hw [] T3.heap n0 g dom x y b nb (Fm.ext O3.2)) (EG.ext O3.2) (W := 0) (g := (mkF m 31 #[.val (.int mm), .val (.int ca), .val (.long da), .second, .val (.int cb), .val (.long db), .second, .val (.ref b), .val (.ref x), .val (.ref y), .unset, .unset] [(.ref y), (.ref x), (.ref b), (.ref g)])) rfl (by rw [hml]; rfl) (b := g) (argsL := [(.ref b), (.ref x), (.ref y)]) (rest := []) (lenOf pd__Lcom_example_registrum_registrum_protocol_Epp_Mapping_Ljava_lang_String_Ljava_lang_String__Z rfl) rfl rfl (by show 2 * 0 + _ ≤ _; exact Nat.le_of_eq rfl) (hb hby at_31) e4 (by decide) (by decide) (by decide) (by decide)
    obtain ⟨rfl, N5q, e5⟩ := Q5
    have N5 := Fr.app N3 N5q
    refine own_go st5 ?_
    show own_R p.tables e below _ T5 (mkF m 34 #[.val (.int mm), .val (.int ca), .val (.long da), .second, .val (.int cb), .val (.long db), .second, .val (.ref b), .val (.ref x), .val (.ref y), .unset, .unset] [(.int (0 : Int32))])
    refine own_go (fun _ => XS.istore X5.here hx rfl (hb hby at_34) rfl (l' := #[.val (.int mm), .val (.int ca), .val (.long da), .second, .val (.int cb), .val (.long db), .second, .val (.ref b), .val (.ref x), .val (.ref y), .val (.int (0 : Int32)), .unset]) rfl) ?_
    show own_R p.tables e below _ T5 (mkF m 36 #[.val (.int mm), .val (.int ca), .val (.long da), .second, .val (.int cb), .val (.long db), .second, .val (.ref b), .val (.ref x), .val (.ref y), .val (.int (0 : Int32)), .unset] [])
    refine own_go (fun _ => XS.aload X5.here hx rfl (hb hby at_36) rfl rfl) ?_
    show own_R p.tables e below _ T5 (mkF m 38 #[.val (.int mm), .val (.int ca), .val (.long da), .second, .val (.int cb), .val (.long db), .second, .val (.ref b), .val (.ref x), .val (.ref y), .val (.int (0 : Int32)), .unset] [(.ref b)])
    obtain ⟨T6, X6, e6, st6⟩ := getS X5 hx hZ hown (host := "") (hw _ (List.mem_of_getElem? (i := 4) rfl)) Via.refl e5 (SD.ext O3.2) (g := (mkF m 38 #[.val (.int mm), .val (.int ca), .val (.long da), .second, .val (.int cb), .val (.long db), .second, .val (.ref b), .val (.ref x), .val (.ref y), .val (.int (0 : Int32)), .unset] [(.ref b)])) rfl (hb hby at_38)
    refine own_go st6 ?_
    show own_R p.tables e below _ T6 (mkF m 41 #[.val (.int mm), .val (.int ca), .val (.long da), .second, .val (.int cb), .val (.long db), .second, .val (.ref b), .val (.ref x), .val (.ref y), .val (.int (0 : Int32)), .unset] [(.ref dom), (.ref b)])
    refine own_go (fun _ => Jvm.RoadKit.acmp (g := (mkF m 41 #[.val (.int mm), .val (.int ca), .val (.long da), .second, .val (.int cb), .val (.long db), .second, .val (.ref b), .val (.ref x), .val (.ref y), .val (.int (0 : Int32)), .unset] [(.ref dom), (.ref b)])) X6 hx rfl rfl rfl (pc0 := 41) (pc' := 64) (same := false) rfl (hb hby at_41) rfl (decide_eq_false fun q => nb (Value.ref.inj q)) (by decide) (by decide)) ?_
    show own_R p.tables e below _ T6 (mkF m 64 #[.val (.int mm), .val (.int ca), .val (.long da), .second, .val (.int cb), .val (.long db), .second, .val (.ref b), .val (.ref x), .val (.ref y), .val (.int (0 : Int32)), .unset] [])
    refine own_go (fun _ => XS.iconst X6.here hx rfl (hb hby at_64)) ?_
    show own_R p.tables e below _ T6 (mkF m 65 #[.val (.int mm), .val (.int ca), .val (.long da), .second, .val (.int cb), .val (.long db), .second, .val (.ref b), .val (.ref x), .val (.ref y), .val (.int (0 : Int32)), .unset] [(.int (0 : Int32))])
    refine own_go (fun _ => XS.istore X6.here hx rfl (hb hby at_65) rfl (l' := #[.val (.int mm), .val (.int ca), .val (.long da), .second, .val (.int cb), .val (.long db), .second, .val (.ref b), .val (.ref x), .val (.ref y), .val (.int (0 : Int32)), .val (.int (0 : Int32))]) rfl) ?_
    show own_R p.tables e below _ T6 (mkF m 67 #[.val (.int mm), .val (.int ca), .val (.long da), .second, .val (.int cb), .val (.long db), .second, .val (.ref b), .val (.ref x), .val (.ref y), .val (.int (0 : Int32)), .val (.int (0 : Int32))] [])
    refine own_go (fun _ => XS.iload X6.here hx rfl (hb hby at_67) rfl ) ?_
    show own_R p.tables e below _ T6 (mkF m 69 #[.val (.int mm), .val (.int ca), .val (.long da), .second, .val (.int cb), .val (.long db), .second, .val (.ref b), .val (.ref x), .val (.ref y), .val (.int (0 : Int32)), .val (.int (0 : Int32))] [(.int (0 : Int32))])
    refine own_go (fun _ => XS.iload X6.here hx rfl (hb hby at_69) rfl ) ?_
    show own_R p.tables e below _ T6 (mkF m 71 #[.val (.int mm), .val (.int ca), .val (.long da), .second, .val (.int cb), .val (.long db), .second, .val (.ref b), .val (.ref x), .val (.ref y), .val (.int (0 : Int32)), .val (.int (0 : Int32))] [(.int (0 : Int32)), (.int (0 : Int32))])
    refine own_go (fun _ => XS.icmpNo X6.here hx rfl (hb hby at_71) rfl (teq rfl).2) ?_
    show own_R p.tables e below _ T6 (mkF m 74 #[.val (.int mm), .val (.int ca), .val (.long da), .second, .val (.int cb), .val (.long db), .second, .val (.ref b), .val (.ref x), .val (.ref y), .val (.int (0 : Int32)), .val (.int (0 : Int32))] [])
    refine own_go (fun _ => XS.iconst X6.here hx rfl (hb hby at_74)) ?_
    show own_R p.tables e below _ T6 (mkF m 75 #[.val (.int mm), .val (.int ca), .val (.long da), .second, .val (.int cb), .val (.long db), .second, .val (.ref b), .val (.ref x), .val (.ref y), .val (.int (0 : Int32)), .val (.int (0 : Int32))] [(.int (1 : Int32))])
    refine own_go (fun _ => XS.goto X6.here hx rfl (pc0 := 75) (pc' := 79) rfl (hb hby at_75) (by decide) (by decide)) ?_
    show own_R p.tables e below _ T6 (mkF m 79 #[.val (.int mm), .val (.int ca), .val (.long da), .second, .val (.int cb), .val (.long db), .second, .val (.ref b), .val (.ref x), .val (.ref y), .val (.int (0 : Int32)), .val (.int (0 : Int32))] [(.int (1 : Int32))])
    exact own_end X6 (some (.int (1 : Int32))) (fun h => by rw [hret] at h; cases h) hlk (fun fs hr => retN X6 hx (t := .boolean) hret (by simp) (hb hby at_79) hr) ⟨rfl, N5⟩ (by decide) (by decide)
  · refine own_go st1 ?_
    show own_R p.tables e below _ T1 (mkF m 4 #[.val (.int mm), .val (.int ca), .val (.long da), .second, .val (.int cb), .val (.long db), .second, .unset, .unset, .unset, .unset, .unset] [.null])
    refine own_go (fun _ => XS.astore X1.here hx rfl (hb hby at_4) rfl rfl (l' := #[.val (.int mm), .val (.int ca), .val (.long da), .second, .val (.int cb), .val (.long db), .second, .val .null, .unset, .unset, .unset, .unset]) rfl) ?_
    show own_R p.tables e below _ T1 (mkF m 6 #[.val (.int mm), .val (.int ca), .val (.long da), .second, .val (.int cb), .val (.long db), .second, .val .null, .unset, .unset, .unset, .unset] [])
    refine own_go (fun _ => XS.iloadN X1.here hx rfl (hb hby at_6) rfl ) ?_
    show own_R p.tables e below _ T1 (mkF m 7 #[.val (.int mm), .val (.int ca), .val (.long da), .second, .val (.int cb), .val (.long db), .second, .val .null, .unset, .unset, .unset, .unset] [(.int ca)])
    refine own_go (fun _ => XS.lloadN X1.here hx rfl (hb hby at_7) rfl ) ?_
    show own_R p.tables e below _ T1 (mkF m 8 #[.val (.int mm), .val (.int ca), .val (.long da), .second, .val (.int cb), .val (.long db), .second, .val .null, .unset, .unset, .unset, .unset] [(.long da), (.int ca)])
    obtain ⟨v2, T2, L2, X2, Q2, st2⟩ := own_callS X1 hx hZ hown (y := (⟨"com/example/registrum/registrum/protocol/ExtensionExtendsCommandPinLaw", "make", "(IJ)Ljava/lang/String;"⟩ : MethodName)) (hw _ (List.mem_of_getElem? (i := 7) rfl)) (hw _ (List.mem_of_getElem? (i := 8) rfl)) (hw _ (List.mem_of_getElem? (i := 2) rfl)) (hw _ (List.mem_of_getElem? (i := 9) rfl)) (by decide) (rmMk l Z a0 hw [] h0 n0 ca da Z0 O2 hzc X00) (W := 0) (g := (mkF m 8 #[.val (.int mm), .val (.int ca), .val (.long da), .second, .val (.int cb), .val (.long db), .second, .val .null, .unset, .unset, .unset, .unset] [(.long da), (.int ca)])) rfl (by rw [hml]; rfl) (argsL := [(.int ca), (.long da)]) (rest := []) (lenOf pd__IJ_Ljava_lang_String_ rfl) rfl rfl (by show 2 * 0 + _ ≤ _; exact Nat.le_of_eq rfl) (hb hby at_8) e1 (by decide) (by decide) (by decide) (by decide)
    obtain ⟨x, cs, rfl, N2q, K2, S2⟩ := Q2
    have N2 := Fr.app N1 N2q
    have O2b : Old Z n0 T2.heap := X00.keep K2 all0
    refine own_go st2 ?_
    show own_R p.tables e below _ T2 (mkF m 11 #[.val (.int mm), .val (.int ca), .val (.long da), .second, .val (.int cb), .val (.long db), .second, .val .null, .unset, .unset, .unset, .unset] [(.ref x)])
    refine own_go (fun _ => XS.astore X2.here hx rfl (hb hby at_11) rfl rfl (l' := #[.val (.int mm), .val (.int ca), .val (.long da), .second, .val (.int cb), .val (.long db), .second, .val .null, .val (.ref x), .unset, .unset, .unset]) rfl) ?_
    show own_R p.tables e below _ T2 (mkF m 13 #[.val (.int mm), .val (.int ca), .val (.long da), .second, .val (.int cb), .val (.long db), .second, .val .null, .val (.ref x), .unset, .unset, .unset] [])
    refine own_go (fun _ => XS.iload X2.here hx rfl (hb hby at_13) rfl ) ?_
    show own_R p.tables e below _ T2 (mkF m 15 #[.val (.int mm), .val (.int ca), .val (.long da), .second, .val (.int cb), .val (.long db), .second, .val .null, .val (.ref x), .unset, .unset, .unset] [(.int cb)])
    refine own_go (fun _ => XS.lload X2.here hx rfl (hb hby at_15) rfl ) ?_
    show own_R p.tables e below _ T2 (mkF m 17 #[.val (.int mm), .val (.int ca), .val (.long da), .second, .val (.int cb), .val (.long db), .second, .val .null, .val (.ref x), .unset, .unset, .unset] [(.long db), (.int cb)])
    obtain ⟨v3, T3, L3, X3, Q3, st3⟩ := own_callS X2 hx hZ hown (y := (⟨"com/example/registrum/registrum/protocol/ExtensionExtendsCommandPinLaw", "make", "(IJ)Ljava/lang/String;"⟩ : MethodName)) (hw _ (List.mem_of_getElem? (i := 7) rfl)) (hw _ (List.mem_of_getElem? (i := 8) rfl)) (hw _ (List.mem_of_getElem? (i := 2) rfl)) (hw _ (List.mem_of_getElem? (i := 9) rfl)) (by decide) (rmMk l Z a0 hw [] T2.heap n0 cb db (Nat.le_trans Z0 K2.1) O2 hzc O2b) (W := 0) (g := (mkF m 17 #[.val (.int mm), .val (.int ca), .val (.long da), .second, .val (.int cb), .val (.long db), .second, .val .null, .val (.ref x), .unset, .unset, .unset] [(.long db), (.int cb)])) rfl (by rw [hml]; rfl) (argsL := [(.int cb), (.long db)]) (rest := []) (lenOf pd__IJ_Ljava_lang_String_ rfl) rfl rfl (by show 2 * 0 + _ ≤ _; exact Nat.le_of_eq rfl) (hb hby at_17) rfl (by decide) (by decide) (by decide) (by decide)
    obtain ⟨y, ds, rfl, N3q, K3, S3⟩ := Q3
    have N3 := Fr.app N2 N3q
    have O3 : Old Z n0 T3.heap := O2b.keep K3 all0
    have S2b := S2.keep K3
    refine own_go st3 ?_
    show own_R p.tables e below _ T3 (mkF m 20 #[.val (.int mm), .val (.int ca), .val (.long da), .second, .val (.int cb), .val (.long db), .second, .val .null, .val (.ref x), .unset, .unset, .unset] [(.ref y)])
    refine own_go (fun _ => XS.astore X3.here hx rfl (hb hby at_20) rfl rfl (l' := #[.val (.int mm), .val (.int ca), .val (.long da), .second, .val (.int cb), .val (.long db), .second, .val .null, .val (.ref x), .val (.ref y), .unset, .unset]) rfl) ?_
    show own_R p.tables e below _ T3 (mkF m 22 #[.val (.int mm), .val (.int ca), .val (.long da), .second, .val (.int cb), .val (.long db), .second, .val .null, .val (.ref x), .val (.ref y), .unset, .unset] [])
    obtain ⟨T4, X4, e4, st4⟩ := getS X3 hx hZ hown (host := "") (hw _ (List.mem_of_getElem? (i := 44) rfl)) Via.refl rfl (SG.ext O3.2) (g := (mkF m 22 #[.val (.int mm), .val (.int ca), .val (.long da), .second, .val (.int cb), .val (.long db), .second, .val .null, .val (.ref x), .val (.ref y), .unset, .unset] [])) rfl (hb hby at_22)
    refine own_go st4 ?_
    show own_R p.tables e below _ T4 (mkF m 25 #[.val (.int mm), .val (.int ca), .val (.long da), .second, .val (.int cb), .val (.long db), .second, .val .null, .val (.ref x), .val (.ref y), .unset, .unset] [(.ref g)])
    refine own_go (fun _ => XS.aload X4.here hx rfl (hb hby at_25) rfl rfl) ?_
    show own_R p.tables e below _ T4 (mkF m 27 #[.val (.int mm), .val (.int ca), .val (.long da), .second, .val (.int cb), .val (.long db), .second, .val .null, .val (.ref x), .val (.ref y), .unset, .unset] [.null, (.ref g)])
    refine own_go (fun _ => XS.aload X4.here hx rfl (hb hby at_27) rfl rfl) ?_
    show own_R p.tables e below _ T4 (mkF m 29 #[.val (.int mm), .val (.int ca), .val (.long da), .second, .val (.int cb), .val (.long db), .second, .val .null, .val (.ref x), .val (.ref y), .unset, .unset] [(.ref x), .null, (.ref g)])
    refine own_go (fun _ => XS.aload X4.here hx rfl (hb hby at_29) rfl rfl) ?_
    show own_R p.tables e below _ T4 (mkF m 31 #[.val (.int mm), .val (.int ca), .val (.long da), .second, .val (.int cb), .val (.long db), .second, .val .null, .val (.ref x), .val (.ref y), .unset, .unset] [(.ref y), (.ref x), .null, (.ref g)])
    obtain ⟨v5, T5, L5, X5, Q5, st5⟩ := own_callV X4 hx hZ hown (y := (⟨"com/example/registrum/registrum/protocol/Epp$Extension", "extendsCommand", "(Lcom/example/registrum/registrum/protocol/Epp$Mapping;Ljava/lang/String;Ljava/lang/String;)Z"⟩ : MethodName)) (hw _ (List.mem_of_getElem? (i := 47) rfl)) (hw _ (List.mem_of_getElem? (i := 48) rfl)) (hw _ (List.mem_of_getElem? (i := 50) rfl)) (hw _ (List.mem_of_getElem? (i := 49) rfl)) (hw _ (List.mem_of_getElem? (i := 51) rfl)) (hw _ (List.mem_of_getElem? (i := 45) rfl)) (by decide) (rmXn l Z a0 hw [] T3.heap n0 g dom x y (Fm.ext O3.2)) (EG.ext O3.2) (W := 0) (g := (mkF m 31 #[.val (.int mm), .val (.int ca), .val (.long da), .second, .val (.int cb), .val (.long db), .second, .val .null, .val (.ref x), .val (.ref y), .unset, .unset] [(.ref y), (.ref x), .null, (.ref g)])) rfl (by rw [hml]; rfl) (b := g) (argsL := [.null, (.ref x), (.ref y)]) (rest := []) (lenOf pd__Lcom_example_registrum_registrum_protocol_Epp_Mapping_Ljava_lang_String_Ljava_lang_String__Z rfl) rfl rfl (by show 2 * 0 + _ ≤ _; exact Nat.le_of_eq rfl) (hb hby at_31) e4 (by decide) (by decide) (by decide) (by decide)
    obtain ⟨rfl, N5q, e5⟩ := Q5
    have N5 := Fr.app N3 N5q
    refine own_go st5 ?_
    show own_R p.tables e below _ T5 (mkF m 34 #[.val (.int mm), .val (.int ca), .val (.long da), .second, .val (.int cb), .val (.long db), .second, .val .null, .val (.ref x), .val (.ref y), .unset, .unset] [(.int (0 : Int32))])
    refine own_go (fun _ => XS.istore X5.here hx rfl (hb hby at_34) rfl (l' := #[.val (.int mm), .val (.int ca), .val (.long da), .second, .val (.int cb), .val (.long db), .second, .val .null, .val (.ref x), .val (.ref y), .val (.int (0 : Int32)), .unset]) rfl) ?_
    show own_R p.tables e below _ T5 (mkF m 36 #[.val (.int mm), .val (.int ca), .val (.long da), .second, .val (.int cb), .val (.long db), .second, .val .null, .val (.ref x), .val (.ref y), .val (.int (0 : Int32)), .unset] [])
    refine own_go (fun _ => XS.aload X5.here hx rfl (hb hby at_36) rfl rfl) ?_
    show own_R p.tables e below _ T5 (mkF m 38 #[.val (.int mm), .val (.int ca), .val (.long da), .second, .val (.int cb), .val (.long db), .second, .val .null, .val (.ref x), .val (.ref y), .val (.int (0 : Int32)), .unset] [.null])
    obtain ⟨T6, X6, e6, st6⟩ := getS X5 hx hZ hown (host := "") (hw _ (List.mem_of_getElem? (i := 4) rfl)) Via.refl e5 (SD.ext O3.2) (g := (mkF m 38 #[.val (.int mm), .val (.int ca), .val (.long da), .second, .val (.int cb), .val (.long db), .second, .val .null, .val (.ref x), .val (.ref y), .val (.int (0 : Int32)), .unset] [.null])) rfl (hb hby at_38)
    refine own_go st6 ?_
    show own_R p.tables e below _ T6 (mkF m 41 #[.val (.int mm), .val (.int ca), .val (.long da), .second, .val (.int cb), .val (.long db), .second, .val .null, .val (.ref x), .val (.ref y), .val (.int (0 : Int32)), .unset] [(.ref dom), .null])
    refine own_go (fun _ => Jvm.RoadKit.acmp (g := (mkF m 41 #[.val (.int mm), .val (.int ca), .val (.long da), .second, .val (.int cb), .val (.long db), .second, .val .null, .val (.ref x), .val (.ref y), .val (.int (0 : Int32)), .unset] [(.ref dom), .null])) X6 hx rfl rfl rfl (pc0 := 41) (pc' := 64) (same := false) rfl (hb hby at_41) rfl (decide_eq_false nofun) (by decide) (by decide)) ?_
    show own_R p.tables e below _ T6 (mkF m 64 #[.val (.int mm), .val (.int ca), .val (.long da), .second, .val (.int cb), .val (.long db), .second, .val .null, .val (.ref x), .val (.ref y), .val (.int (0 : Int32)), .unset] [])
    refine own_go (fun _ => XS.iconst X6.here hx rfl (hb hby at_64)) ?_
    show own_R p.tables e below _ T6 (mkF m 65 #[.val (.int mm), .val (.int ca), .val (.long da), .second, .val (.int cb), .val (.long db), .second, .val .null, .val (.ref x), .val (.ref y), .val (.int (0 : Int32)), .unset] [(.int (0 : Int32))])
    refine own_go (fun _ => XS.istore X6.here hx rfl (hb hby at_65) rfl (l' := #[.val (.int mm), .val (.int ca), .val (.long da), .second, .val (.int cb), .val (.long db), .second, .val .null, .val (.ref x), .val (.ref y), .val (.int (0 : Int32)), .val (.int (0 : Int32))]) rfl) ?_
    show own_R p.tables e below _ T6 (mkF m 67 #[.val (.int mm), .val (.int ca), .val (.long da), .second, .val (.int cb), .val (.long db), .second, .val .null, .val (.ref x), .val (.ref y), .val (.int (0 : Int32)), .val (.int (0 : Int32))] [])
    refine own_go (fun _ => XS.iload X6.here hx rfl (hb hby at_67) rfl ) ?_
    show own_R p.tables e below _ T6 (mkF m 69 #[.val (.int mm), .val (.int ca), .val (.long da), .second, .val (.int cb), .val (.long db), .second, .val .null, .val (.ref x), .val (.ref y), .val (.int (0 : Int32)), .val (.int (0 : Int32))] [(.int (0 : Int32))])
    refine own_go (fun _ => XS.iload X6.here hx rfl (hb hby at_69) rfl ) ?_
    show own_R p.tables e below _ T6 (mkF m 71 #[.val (.int mm), .val (.int ca), .val (.long da), .second, .val (.int cb), .val (.long db), .second, .val .null, .val (.ref x), .val (.ref y), .val (.int (0 : Int32)), .val (.int (0 : Int32))] [(.int (0 : Int32)), (.int (0 : Int32))])
    refine own_go (fun _ => XS.icmpNo X6.here hx rfl (hb hby at_71) rfl (teq rfl).2) ?_
    show own_R p.tables e below _ T6 (mkF m 74 #[.val (.int mm), .val (.int ca), .val (.long da), .second, .val (.int cb), .val (.long db), .second, .val .null, .val (.ref x), .val (.ref y), .val (.int (0 : Int32)), .val (.int (0 : Int32))] [])
    refine own_go (fun _ => XS.iconst X6.here hx rfl (hb hby at_74)) ?_
    show own_R p.tables e below _ T6 (mkF m 75 #[.val (.int mm), .val (.int ca), .val (.long da), .second, .val (.int cb), .val (.long db), .second, .val .null, .val (.ref x), .val (.ref y), .val (.int (0 : Int32)), .val (.int (0 : Int32))] [(.int (1 : Int32))])
    refine own_go (fun _ => XS.goto X6.here hx rfl (pc0 := 75) (pc' := 79) rfl (hb hby at_75) (by decide) (by decide)) ?_
    show own_R p.tables e below _ T6 (mkF m 79 #[.val (.int mm), .val (.int ca), .val (.long da), .second, .val (.int cb), .val (.long db), .second, .val .null, .val (.ref x), .val (.ref y), .val (.int (0 : Int32)), .val (.int (0 : Int32))] [(.int (1 : Int32))])
    exact own_end X6 (some (.int (1 : Int32))) (fun h => by rw [hret] at h; cases h) hlk (fun fs hr => retN X6 hx (t := .boolean) hret (by simp) (hb hby at_79) hr) ⟨rfl, N5⟩ (by decide) (by decide)
theorem own_eqR {Z : State} {args : Array Value} {X F : Term} {idx : List Nat} {y : Addr} (hF : F.eval args Z none idx Z = some (.ref y)) (h : (Jvm.Cond.eq X F).value args Z none Z idx = some true) : X.eval args Z none idx Z = some (.ref y) := by
  obtain ⟨x, y', e1, e2, k1, k2⟩ := cmp_v (Or.inl h)
  cases hF.symm.trans e2
  have hx : x.isRef = true := by cases x <;> simp_all [Kin, Value.isRef]
  exact e1.trans (congrArg some (gotT (eq_R e1 hF hx rfl) h))
theorem own_len31 {Z : State} {args : Array Value} {t : Term} {a : Addr} {cl : Cell} {v : Value} (ht : t.eval args Z none [] Z = some (.ref a)) (ha : Z.arrayAt? a = some cl) (h : (Term.length t).eval args Z none [] Z = some v) : cl.slots.size < 2 ^ 31 ∧ v = .int cl.slots.size.toInt32 := by
  by_cases q : cl.slots.size < 2 ^ 31
  · rw [len_f ht ha q] at h
    exact ⟨q, (Option.some.inj h).symm⟩
  · exfalso
    simp [Term.eval, ht, ha, q] at h
set_option maxRecDepth 65536 in
set_option maxHeartbeats 40000000 in
theorem comes_1 {Post : Tables → Env → Array Value → State → Outcome → State → Prop} (hpost : ∀ tb e args s v u, (limb_1_1.after args s (.returned v) u = true ∧ limb_1_2.after args s (.returned v) u = true ∧ True) → FrameEnd s (.returned v) u (Jvm.fieldLocs frame_1_writes args s ++ Jvm.arrayLocs frame_1_arrays args s ++ Jvm.staticLocs frame_1_statics s) 24 192 → Post tb e args s (.returned v) u) :
    ArmFor flags0 classFile x code maxLocals ret World_1 tables_1 room_1 Calls_1 rest_1 Pre_1 Post := by
  intro l hfl _ _ p e ha hc hk s m args below hf hA hF happ hP
  obtain ⟨hcalls, hrest, hpre⟩ := hP
  obtain ⟨-, -, -, hnamed, -, -, -, hat⟩ := (Spec.applies_iff hf).mp happ
  obtain ⟨hg, hn⟩ := and_e (Cond.before_iff.mp (show (Jvm.Cond.and given_1 narrow_1).before args s = true from hpre))
  obtain ⟨gc, q0⟩ := and_e hg
  obtain ⟨g0, q1⟩ := and_e q0
  obtain ⟨g1, q2⟩ := and_e q1
  obtain ⟨g2, q3⟩ := and_e q2
  obtain ⟨g3, q4⟩ := and_e q3
  have g4 := q4
  obtain ⟨w0, w1, w2, w3, w4, rfl⟩ : ∃ w0 w1 w2 w3 w4 : Value, args = #[w0, w1, w2, w3, w4] := by
    have hs : args.size = 5 := by simpa [Cond.value, given_1] using gc
    obtain ⟨L⟩ := args
    match L, hs with
    | [w0, w1, w2, w3, w4], _ => exact ⟨w0, w1, w2, w3, w4, rfl⟩
  have hw := fun d (hd : d ∈ tables_1) => atoms_spec (ws := Jvm.Cond.code x code maxLocals ret :: tables_1) hat d (List.mem_cons_of_mem _ hd)
  have hfit : Fit s := fun {y c} hc i hi => by
    obtain ⟨ha, rfl⟩ := Array.getElem?_eq_some_iff.mp hc
    have q := List.all_eq_true.mp ((Array.all_eq_true_iff_forall_mem.mp hF) _ (Array.getElem_mem ha)) i (List.mem_range.mpr hi)
    simpa [Array.getElem?_eq_getElem hi] using q
  obtain ⟨i0, ei0⟩ := is_v g0
  obtain rfl : w0 = (.int i0) := Option.some.inj ei0
  obtain ⟨i1, ei1⟩ := is_v g1
  obtain rfl : w1 = (.int i1) := Option.some.inj ei1
  obtain ⟨i2, ei2⟩ := isL_v g2
  obtain rfl : w2 = (.long i2) := Option.some.inj ei2
  obtain ⟨i3, ei3⟩ := is_v g3
  obtain rfl : w3 = (.int i3) := Option.some.inj ei3
  obtain ⟨i4, ei4⟩ := isL_v g4
  obtain rfl : w4 = (.long i4) := Option.some.inj ei4
  have y0 := hn
  obtain ⟨xD, y1⟩ := and_e y0
  obtain ⟨xG, y2⟩ := and_e y1
  obtain ⟨eM, y3⟩ := and_e y2
  obtain ⟨xC, y4⟩ := and_e y3
  obtain ⟨eK, y5⟩ := and_e y4
  obtain ⟨aV, y6⟩ := and_e y5
  obtain ⟨eL, y7⟩ := and_e y6
  obtain ⟨xH, y8⟩ := and_e y7
  obtain ⟨oD, y9⟩ := and_e y8
  obtain ⟨oH, y10⟩ := and_e y9
  obtain ⟨xN, y11⟩ := and_e y10
  obtain ⟨oN, y12⟩ := and_e y11
  obtain ⟨eE, y13⟩ := and_e y12
  obtain ⟨b0, y14⟩ := and_e y13
  obtain ⟨b1, y15⟩ := and_e y14
  obtain ⟨b2, y16⟩ := and_e y15
  obtain ⟨b3, y17⟩ := and_e y16
  obtain ⟨b4, y18⟩ := and_e y17
  have b5 := y18
  obtain ⟨dom, ed⟩ := exa_v xD
  obtain ⟨hos, eh⟩ := exa_v xH
  obtain ⟨con, en⟩ := exa_v xN
  obtain ⟨g, eg⟩ := exa_v xG
  have SD : Sta s s.heap "com/example/registrum/registrum/protocol/Epp$Mapping" "DOMAIN" "Lcom/example/registrum/registrum/protocol/Epp$Mapping;" (.ref dom) := Sta.start ed (Or.inr ⟨(hw _ (List.mem_of_getElem? (i := 5) rfl)), (hw _ (List.mem_of_getElem? (i := 6) rfl))⟩)
  have SH : Sta s s.heap "com/example/registrum/registrum/protocol/Epp$Mapping" "HOST" "Lcom/example/registrum/registrum/protocol/Epp$Mapping;" (.ref hos) := Sta.start eh (Or.inr ⟨(hw _ (List.mem_of_getElem? (i := 5) rfl)), (hw _ (List.mem_of_getElem? (i := 80) rfl))⟩)
  have SN : Sta s s.heap "com/example/registrum/registrum/protocol/Epp$Mapping" "CONTACT" "Lcom/example/registrum/registrum/protocol/Epp$Mapping;" (.ref con) := Sta.start en (Or.inr ⟨(hw _ (List.mem_of_getElem? (i := 5) rfl)), (hw _ (List.mem_of_getElem? (i := 82) rfl))⟩)
  have SG : Sta s s.heap "com/example/registrum/registrum/protocol/Epp$Extension" "GRACE_PERIODS" "Lcom/example/registrum/registrum/protocol/Epp$Extension;" (.ref g) := Sta.start eg (Or.inr ⟨(hw _ (List.mem_of_getElem? (i := 45) rfl)), (hw _ (List.mem_of_getElem? (i := 46) rfl))⟩)
  have EG := Exa.start eg xG
  have q1 := eqv_i (Term.int_eval 0) oD
  rw [fld_at ed] at q1
  have q2 := eqv_i (Term.int_eval 2) oH
  rw [fld_at eh] at q2
  have q3 := eqv_i (Term.int_eval 1) oN
  rw [fld_at en] at q3
  have n1 : con ≠ dom := Fld.ne (Fld.start q3) (Fld.start q1) (by decide)
  have n2 : hos ≠ dom := Fld.ne (Fld.start q2) (Fld.start q1) (by decide)
  have q4 := own_eqR ed eM
  rw [fld_at eg] at q4
  have Fm := Fld.start q4
  obtain ⟨cm, ec⟩ := exa_v xC
  have q5 := ec
  rw [fld_at eg] at q5
  have Fc := Fld.start q5
  have q6 := own_eqR ec eE
  rw [fld_at eg] at q6
  have Fe := Fld.start q6
  have EC := Exa.start ec xC
  have q7 := eqv_i (Term.int_eval 0) eK
  rw [fld_at ec] at q7
  have FC := Fld.start q7
  obtain ⟨t, et⟩ := arr_v aV
  have q8 := et
  rw [fld_at ec] at q8
  have FV := Fld.start q8
  obtain ⟨cl, Ar⟩ := Arr.start et aV
  have qA : s.arrayAt? t = some cl := Arr.fin (Z := s) (U := s) (State.Warmed39.refl s).alike Ar
  obtain ⟨l31, l6⟩ := own_len31 et qA (eqv_i (Term.int_eval 6) eL)
  have h10 : cl.slots[0]? = some (Value.int 117) := (elem_in (eqv_i (Term.int_eval 117) b0) et (Term.int_eval 0) Ar.1).2
  have h11 : cl.slots[1]? = some (Value.int 112) := (elem_in (eqv_i (Term.int_eval 112) b1) et (Term.int_eval 1) Ar.1).2
  have h12 : cl.slots[2]? = some (Value.int 100) := (elem_in (eqv_i (Term.int_eval 100) b2) et (Term.int_eval 2) Ar.1).2
  have h13 : cl.slots[3]? = some (Value.int 97) := (elem_in (eqv_i (Term.int_eval 97) b3) et (Term.int_eval 3) Ar.1).2
  have h14 : cl.slots[4]? = some (Value.int 116) := (elem_in (eqv_i (Term.int_eval 116) b4) et (Term.int_eval 4) Ar.1).2
  have h15 : cl.slots[5]? = some (Value.int 101) := (elem_in (eqv_i (Term.int_eval 101) b5) et (Term.int_eval 5) Ar.1).2
  have eU : ((own_U.map fun c => c.toInt8.toInt32).map Value.int) = [.int 117, .int 112, .int 100, .int 97, .int 116, .int 101] := rfl
  have AV := Arv.start (vs := [.int 117, .int 112, .int 100, .int 97, .int 116, .int 101]) (dv := .int 0) hfit Ar l31 (Value.int.inj l6).symm (by decide) (by decide) ⟨h10, h11, h12, h13, h14, h15, trivial⟩
  have Sm : own_S s s.heap cm own_U := ⟨t, cl.cls, EC, FV, FC, (by rw [eU]; exact AV), by unfold own_U own_ch; decide, by decide⟩
  obtain ⟨hsets, hown0⟩ := atoms_of _ (rest_1_c_eq ▸ (show rest_1_c.before _ s = true from hrest))
  obtain ⟨zc, ez⟩ := is_v (Cond.before_iff.mp (hsets _ (List.mem_of_getElem? (i := 1) rfl)))
  have O2 : Sta s s.heap "java/lang/String" "COMPACT_STRINGS" "Z" (.int zc) := Sta.start ez (Or.inl (hsets _ (List.mem_of_getElem? (i := 0) rfl)))
  have hzc : ¬ zc = 0 := gotF (Cond.eq_ints ez (Term.int_eval (0))) (not_v (Cond.before_iff.mp (hsets _ (List.mem_of_getElem? (i := 2) rfl))))
  obtain ⟨fm, ef, rf⟩ := isR_v (Cond.before_iff.mp (hsets _ (List.mem_of_getElem? (i := 8) rfl)))
  have O4 : Sta s s.heap "jdk/internal/util/Preconditions" "SIOOBE_FORMATTER" "Ljava/util/function/BiFunction;" fm := Sta.start ef (Or.inl (hsets _ (List.mem_of_getElem? (i := 7) rfl)))
  obtain ⟨n, o, h1, h2, h3, _, L, rfl, ⟨rfl, N⟩, hq⟩ := rm0 l s _ hw tables_1 s.heap s.heap.size i0 i1 i2 i3 i4 dom con hos g cm n1 n2 SD SN SH SG EG Fm Fc Fe Sm O2 hzc O4 rf (Old.start s) (Nat.le_refl _) p e ha hc hk s m _ below hf ((Spec.applies_iff_loose hf).mp happ).1 ⟨rfl, State.Warmed39.refl s, rfl⟩ trivial
  refine ⟨n, _, h1, h2, h3, hpost _ _ _ _ _ _ ⟨Cond.after_iff.mpr rfl, Cond.after_iff.mpr (eq_i res_at (Term.int_eval (1)) rfl), trivial⟩ ⟨hq.1, hq.2.1, (hq.2.2.sift fun y hy => Or.inr (N y hy)).mono (by decide) (by decide)⟩⟩
theorem main_1_1 : Claimed_1_1 := comes_1 fun _ _ _ _ _ _ h hF => ⟨h.1, hF⟩
theorem main_1_2 : Claimed_1_2 := comes_1 fun _ _ _ _ _ _ h hF => ⟨h.2.1, hF⟩

end Jvm.Pilot.@@N@@
namespace Jvm.Pilot.@@N@@
open Jvm Jvm.ClassFile Sem Op Lib Jvm.Free Jvm.Stand Jvm.Pilot.@@N@@.Jvm.D
/-! MADE BY PROGRAM (witnessworld.py) out of the Statement's table words and the real class files: 22 classes; the members and pool entries that the words name. The judged class is class 1, her method 1. -/
namespace start1
open Jvm.ClassFile
def u (s : String) : CpInfo := .utf8 (stringToUtf16 s)
/-- a pool by its gaps: so many unusable entries, then the entry; so many at the end -/
def gap : Nat → List CpInfo → List CpInfo
  | 0, r => r
  | n + 1, r => .unusable :: gap n r
def poolList (es : List (Nat × CpInfo)) (last : Nat) : List CpInfo := es.foldr (fun e r => gap e.1 (e.2 :: r)) (gap last [])
def pool (es : List (Nat × CpInfo)) (last : Nat) : Array CpInfo := ⟨poolList es last⟩
def fileOf (pool : Array CpInfo) (this : Nat) (attrs : Array Attribute := #[]) (ms : Array MethodInfo := #[]) (fl : Nat := 33) (sup : Nat := 0) (ifs : Array Nat := #[]) (fds : Array FieldInfo := #[]) : ClassFile where
  minorVersion := 0
  majorVersion := 65
  constantPool := pool
  accessFlags := fl
  thisClass := this
  superClass := sup
  interfaces := ifs
  fields := fds
  methods := ms
  attributes := attrs
def plain (name : String) (sup : Option ClassId) : Class where
  name := name
  kind := .ordinary
  loader := none
  accessFlags := 33
  super := sup
  interfaces := #[]
  cf := none
  fields := #[]
  methods := #[]
  instanceTypes := #[]
  staticTypes := #[]
  resolved := #[]
  callSites := []
  init := .initialized
  statics := none
  mirror := none

def pool0 : Array CpInfo := pool [(5, u "<init>"), (0, u "()V"), (1, .class_ 10), (1, u "java/lang/Object")] 113

def k0c0 : Code := { maxStack := 0, maxLocals := 1, code := object_method_1_code, exceptionTable := #[], attributes := #[] }
def k0m0 : Method := { name := "<init>", desc := "()V", sig := { parameters := [], returnType := none }, accessFlags := 1, code := some k0c0 }
/-- java/lang/Object -/
def k0 : Class := { plain "java/lang/Object" none with
  accessFlags := 33
  interfaces := #[]
  cf := some (fileOf pool0 8 #[] #[{ accessFlags := 1, nameIndex := 5, descriptorIndex := 6, attributes := #[] }] 33 0 #[] #[])
  fields := #[]
  methods := #[k0m0]
  instanceTypes := #[]
  staticTypes := #[]
  resolved := Array.replicate 124 none
  statics := none }

def pool1 : Array CpInfo := pool [(2, .class_ 4), (1, u "java/lang/Object"), (0, u "<init>"), (0, u "()V"), (0, .methodref 8 9), (0, .class_ 10), (0, .nameAndType 11 12), (0, u "com/example/registrum/registrum/protocol/ExtensionExtendsCommandPinLaw"), (0, u "pick"), (0, u "(I)Lcom/example/registrum/registrum/protocol/Epp$Mapping;"), (0, .methodref 8 14), (0, .nameAndType 15 16), (0, u "make"), (0, u "(IJ)Ljava/lang/String;"), (0, .fieldref 18 19), (0, .class_ 20), (0, .nameAndType 21 22), (0, u "com/example/registrum/registrum/protocol/Epp$Extension"), (0, u "GRACE_PERIODS"), (0, u "Lcom/example/registrum/registrum/protocol/Epp$Extension;"), (0, .methodref 18 24), (0, .nameAndType 25 26), (0, u "extendsCommand"), (0, u "(Lcom/example/registrum/registrum/protocol/Epp$Mapping;Ljava/lang/String;Ljava/lang/String;)Z"), (0, .fieldref 28 29), (0, .class_ 30), (0, .nameAndType 31 32), (0, u "com/example/registrum/registrum/protocol/Epp$Mapping"), (0, u "DOMAIN"), (0, u "Lcom/example/registrum/registrum/protocol/Epp$Mapping;"), (0, .methodref 8 34), (0, .nameAndType 35 36), (0, u "isUpdate"), (0, u "(Ljava/lang/String;)Z"), (0, .fieldref 28 38), (0, .nameAndType 39 32), (0, u "CONTACT"), (0, .fieldref 28 41), (0, .nameAndType 42 32), (0, u "HOST"), (0, .long 255), (1, .methodref 8 46), (0, .nameAndType 47 48), (0, u "at"), (0, u "(IJIC)C"), (0, .class_ 50), (0, u "java/lang/String"), (0, .methodref 49 52), (0, .nameAndType 5 53), (0, u "([C)V"), (0, .methodref 49 55), (0, .nameAndType 56 57), (0, u "length"), (0, u "()I"), (0, .methodref 49 59), (0, .nameAndType 60 61), (0, u "charAt"), (0, u "(I)C"), (2, u "law"), (0, u "(IIJIJ)Z")] 8

def k1m0 : Method := { name := "<init>", desc := "()V", sig := { parameters := [], returnType := none }, accessFlags := 1, code := none }
def k1c1 : Code := { maxStack := 4, maxLocals := 12, code := code, exceptionTable := #[], attributes := #[] }
def k1m1 : Method := { name := "law", desc := "(IIJIJ)Z", sig := { parameters := [.int, .int, .long, .int, .long], returnType := some .boolean }, accessFlags := 9, code := some k1c1 }
def k1c2 : Code := { maxStack := 2, maxLocals := 2, code := method_3_code, exceptionTable := #[], attributes := #[] }
def k1m2 : Method := { name := "pick", desc := "(I)Lcom/example/registrum/registrum/protocol/Epp$Mapping;", sig := { parameters := [.int], returnType := some (.object "com/example/registrum/registrum/protocol/Epp$Mapping") }, accessFlags := 10, code := some k1c2 }
def k1c3 : Code := { maxStack := 4, maxLocals := 5, code := method_4_code, exceptionTable := #[], attributes := #[] }
def k1m3 : Method := { name := "at", desc := "(IJIC)C", sig := { parameters := [.int, .long, .int, .char], returnType := some .char }, accessFlags := 10, code := some k1c3 }
def k1c4 : Code := { maxStack := 6, maxLocals := 11, code := method_5_code, exceptionTable := #[], attributes := #[] }
def k1m4 : Method := { name := "make", desc := "(IJ)Ljava/lang/String;", sig := { parameters := [.int, .long], returnType := some (.object "java/lang/String") }, accessFlags := 10, code := some k1c4 }
def k1c5 : Code := { maxStack := 2, maxLocals := 1, code := method_6_code, exceptionTable := #[], attributes := #[] }
def k1m5 : Method := { name := "isUpdate", desc := "(Ljava/lang/String;)Z", sig := { parameters := [(.object "java/lang/String")], returnType := some .boolean }, accessFlags := 10, code := some k1c5 }
/-- com/example/registrum/registrum/protocol/ExtensionExtendsCommandPinLaw -/
def k1 : Class := { plain "com/example/registrum/registrum/protocol/ExtensionExtendsCommandPinLaw" (some 0) with
  accessFlags := 49
  interfaces := #[]
  cf := some (fileOf pool1 8 #[] #[{ accessFlags := 1, nameIndex := 5, descriptorIndex := 6, attributes := #[] }, { accessFlags := 9, nameIndex := 64, descriptorIndex := 65, attributes := #[] }, { accessFlags := 10, nameIndex := 11, descriptorIndex := 12, attributes := #[] }, { accessFlags := 10, nameIndex := 47, descriptorIndex := 48, attributes := #[] }, { accessFlags := 10, nameIndex := 15, descriptorIndex := 16, attributes := #[] }, { accessFlags := 10, nameIndex := 35, descriptorIndex := 36, attributes := #[] }] 49 2 #[] #[])
  fields := #[]
  methods := #[k1m0, k1m1, k1m2, k1m3, k1m4, k1m5]
  instanceTypes := #[]
  staticTypes := #[]
  resolved := Array.replicate 74 none
  statics := none }

def pool2 : Array CpInfo := pool [(1, .class_ 2), (0, u "java/lang/constant/Constable"), (0, .class_ 4), (0, u "java/lang/Object")] 6

/-- java/lang/constant/Constable -/
def k2 : Class := { plain "java/lang/constant/Constable" (some 0) with
  accessFlags := 1537
  interfaces := #[]
  cf := some (fileOf pool2 1 #[] #[] 1537 3 #[] #[])
  fields := #[]
  methods := #[]
  instanceTypes := #[]
  staticTypes := #[]
  resolved := Array.replicate 11 none
  statics := none }

def pool3 : Array CpInfo := pool [(1, .class_ 2), (0, u "java/lang/Comparable"), (0, .class_ 4), (0, u "java/lang/Object")] 7

/-- java/lang/Comparable -/
def k3 : Class := { plain "java/lang/Comparable" (some 0) with
  accessFlags := 1537
  interfaces := #[]
  cf := some (fileOf pool3 1 #[] #[] 1537 3 #[] #[])
  fields := #[]
  methods := #[]
  instanceTypes := #[]
  staticTypes := #[]
  resolved := Array.replicate 12 none
  statics := none }

def pool4 : Array CpInfo := pool [(1, .class_ 2), (0, u "java/io/Serializable"), (0, .class_ 4), (0, u "java/lang/Object")] 2

/-- java/io/Serializable -/
def k4 : Class := { plain "java/io/Serializable" (some 0) with
  accessFlags := 1537
  interfaces := #[]
  cf := some (fileOf pool4 1 #[] #[] 1537 3 #[] #[])
  fields := #[]
  methods := #[]
  instanceTypes := #[]
  staticTypes := #[]
  resolved := Array.replicate 7 none
  statics := none }

def pool5 : Array CpInfo := pool [(2, .class_ 4), (1, u "java/lang/Enum"), (0, u "name"), (0, u "Ljava/lang/String;"), (2, u "ordinal"), (0, u "I"), (1, .class_ 14), (1, u "java/lang/Object"), (4, u "hash"), (86, .class_ 108), (1, u "java/lang/Enum$EnumDesc"), (2, .class_ 112), (0, u "java/lang/constant/Constable"), (0, .class_ 114), (0, u "java/lang/Comparable"), (0, .class_ 116), (0, u "java/io/Serializable")] 87

/-- java/lang/Enum -/
def k5 : Class := { plain "java/lang/Enum" (some 0) with
  accessFlags := 1057
  interfaces := #[2, 3, 4]
  cf := some (fileOf pool5 2 #[.nestMembers #[106]] #[] 1057 12 #[111, 113, 115] #[{ accessFlags := 18, nameIndex := 5, descriptorIndex := 6, attributes := #[] }, { accessFlags := 18, nameIndex := 9, descriptorIndex := 10, attributes := #[] }, { accessFlags := 2, nameIndex := 19, descriptorIndex := 10, attributes := #[] }])
  fields := #[{ name := "name", type := (.object "java/lang/String"), accessFlags := 18, slot := 0, constantValue := 0 }, { name := "ordinal", type := .int, accessFlags := 18, slot := 1, constantValue := 0 }, { name := "hash", type := .int, accessFlags := 2, slot := 2, constantValue := 0 }]
  methods := #[]
  instanceTypes := #[(.object "java/lang/String"), .int, .int]
  staticTypes := #[]
  resolved := Array.replicate 204 none
  statics := none }

def pool6 : Array CpInfo := pool [(1, .class_ 2), (0, u "com/example/registrum/registrum/protocol/Epp$Mapping"), (2, u "DOMAIN"), (0, u "Lcom/example/registrum/registrum/protocol/Epp$Mapping;"), (2, u "CONTACT"), (2, u "HOST"), (2, u "$VALUES"), (0, u "[Lcom/example/registrum/registrum/protocol/Epp$Mapping;"), (6, .class_ 25), (1, u "java/lang/Enum"), (8, u "namespace"), (0, u "Ljava/lang/String;"), (2, u "prefix"), (2, u "key"), (31, .class_ 74), (0, u "com/example/registrum/registrum/protocol/Epp")] 63

/-- com/example/registrum/registrum/protocol/Epp$Mapping -/
def k6 : Class := { plain "com/example/registrum/registrum/protocol/Epp$Mapping" (some 5) with
  accessFlags := 16432
  interfaces := #[]
  cf := some (fileOf pool6 1 #[.nestHost 73] #[] 16432 23 #[] #[{ accessFlags := 16409, nameIndex := 5, descriptorIndex := 6, attributes := #[] }, { accessFlags := 16409, nameIndex := 9, descriptorIndex := 6, attributes := #[] }, { accessFlags := 16409, nameIndex := 12, descriptorIndex := 6, attributes := #[] }, { accessFlags := 18, nameIndex := 34, descriptorIndex := 35, attributes := #[] }, { accessFlags := 18, nameIndex := 38, descriptorIndex := 35, attributes := #[] }, { accessFlags := 18, nameIndex := 41, descriptorIndex := 35, attributes := #[] }, { accessFlags := 4122, nameIndex := 15, descriptorIndex := 16, attributes := #[] }])
  fields := #[{ name := "DOMAIN", type := (.object "com/example/registrum/registrum/protocol/Epp$Mapping"), accessFlags := 16409, slot := 0, constantValue := 0 }, { name := "CONTACT", type := (.object "com/example/registrum/registrum/protocol/Epp$Mapping"), accessFlags := 16409, slot := 1, constantValue := 0 }, { name := "HOST", type := (.object "com/example/registrum/registrum/protocol/Epp$Mapping"), accessFlags := 16409, slot := 2, constantValue := 0 }, { name := "namespace", type := (.object "java/lang/String"), accessFlags := 18, slot := 3, constantValue := 0 }, { name := "prefix", type := (.object "java/lang/String"), accessFlags := 18, slot := 4, constantValue := 0 }, { name := "key", type := (.object "java/lang/String"), accessFlags := 18, slot := 5, constantValue := 0 }, { name := "$VALUES", type := (.array (.object "com/example/registrum/registrum/protocol/Epp$Mapping")), accessFlags := 4122, slot := 3, constantValue := 0 }]
  methods := #[]
  instanceTypes := #[(.object "java/lang/String"), .int, .int, (.object "java/lang/String"), (.object "java/lang/String"), (.object "java/lang/String")]
  staticTypes := #[(.object "com/example/registrum/registrum/protocol/Epp$Mapping"), (.object "com/example/registrum/registrum/protocol/Epp$Mapping"), (.object "com/example/registrum/registrum/protocol/Epp$Mapping"), (.array (.object "com/example/registrum/registrum/protocol/Epp$Mapping"))]
  resolved := Array.replicate 138 none
  statics := some 0 }

def pool7 : Array CpInfo := pool [(2, .class_ 4), (1, u "java/lang/CharSequence"), (42, .class_ 48), (0, u "java/lang/CharSequence$1CodePointIterator"), (10, .class_ 60), (0, u "java/lang/CharSequence$1CharIterator"), (5, .class_ 67), (0, u "java/lang/Object")] 63

/-- java/lang/CharSequence -/
def k7 : Class := { plain "java/lang/CharSequence" (some 0) with
  accessFlags := 1537
  interfaces := #[]
  cf := some (fileOf pool7 2 #[.nestMembers #[47, 59]] #[] 1537 66 #[] #[])
  fields := #[]
  methods := #[]
  instanceTypes := #[]
  staticTypes := #[]
  resolved := Array.replicate 131 none
  statics := none }

def pool8 : Array CpInfo := pool [(1, .class_ 2), (0, u "java/lang/constant/ConstantDesc"), (0, .class_ 4), (0, u "java/lang/Object")] 32

/-- java/lang/constant/ConstantDesc -/
def k8 : Class := { plain "java/lang/constant/ConstantDesc" (some 0) with
  accessFlags := 1537
  interfaces := #[]
  cf := some (fileOf pool8 1 #[] #[] 1537 3 #[] #[])
  fields := #[]
  methods := #[]
  instanceTypes := #[]
  staticTypes := #[]
  resolved := Array.replicate 37 none
  statics := none }

def pool9 : Array CpInfo := pool [(1, .methodref 2 3), (0, .class_ 4), (0, .nameAndType 5 6), (0, u "java/lang/Object"), (0, u "<init>"), (0, u "()V"), (2, .fieldref 10 11), (0, .class_ 12), (0, .nameAndType 13 14), (0, u "java/lang/String"), (0, u "value"), (0, u "[B"), (0, .fieldref 10 16), (0, .nameAndType 17 18), (0, u "coder"), (0, u "B"), (2, u "hash"), (0, u "I"), (2, u "hashIsZero"), (0, u "Z"), (0, .methodref 10 28), (0, .nameAndType 5 29), (0, u "([CIILjava/lang/Void;)V"), (8, .fieldref 10 39), (0, .nameAndType 40 26), (0, u "COMPACT_STRINGS"), (1, .class_ 44), (1, u "java/lang/StringUTF16"), (0, u "compress"), (1, .methodref 42 48), (0, .nameAndType 49 50), (0, u "coderFromArrayLen"), (0, u "([BI)B"), (56, .class_ 109), (1, u "java/lang/StringLatin1"), (32, u "()Z"), (34, .methodref 42 178), (0, .nameAndType 45 179), (0, u "([CII)[B"), (154, u "()I"), (0, .methodref 10 336), (0, .nameAndType 17 337), (0, u "()B"), (25, u "([BI)C"), (27, u "(II)V"), (35, u "(I)C"), (64, .methodref 10 493), (0, .nameAndType 494 142), (0, u "isLatin1"), (0, .methodref 107 496), (0, .nameAndType 497 363), (0, u "charAt"), (3, u "checkIndex"), (5, u "length"), (33, .methodref 107 542), (0, .nameAndType 543 544), (0, u "equals"), (0, u "([B[B)Z"), (28, u "(Ljava/lang/Object;)Z"), (1, .class_ 576), (0, u "java/lang/CharSequence"), (22, u "CASE_INSENSITIVE_ORDER"), (0, u "Ljava/util/Comparator;"), (409, u "([C)V"), (42, .fieldref 1054 1055), (0, .class_ 1056), (0, .nameAndType 1057 1058), (0, u "jdk/internal/util/Preconditions"), (0, u "SIOOBE_FORMATTER"), (0, u "Ljava/util/function/BiFunction;"), (0, .methodref 1054 1060), (0, .nameAndType 501 1061), (0, u "(IILjava/util/function/BiFunction;)I"), (39, u "serialPersistentFields"), (0, u "[Ljava/io/ObjectStreamField;"), (0, .class_ 1104), (0, u "java/lang/String$CaseInsensitiveComparator"), (1, .class_ 1107), (0, u "java/io/Serializable"), (0, .class_ 1109), (0, u "java/lang/Comparable"), (0, .class_ 1111), (0, u "java/lang/constant/Constable"), (0, .class_ 1113), (0, u "java/lang/constant/ConstantDesc"), (2, u "serialVersionUID"), (0, u "J"), (3, u "REPL"), (0, u "C"), (2, u "LATIN1"), (1, u "UTF16")] 323

def k9m0 : Method := { name := "<init>", desc := "()V", sig := { parameters := [], returnType := none }, accessFlags := 1, code := none }
def k9c1 : Code := { maxStack := 5, maxLocals := 2, code := jdk_42_method_3_code, exceptionTable := #[], attributes := #[] }
def k9m1 : Method := { name := "<init>", desc := "([C)V", sig := { parameters := [(.array .char)], returnType := none }, accessFlags := 1, code := some k9c1 }
def k9c2 : Code := { maxStack := 2, maxLocals := 1, code := jdk_42_method_54_code, exceptionTable := #[], attributes := #[] }
def k9m2 : Method := { name := "length", desc := "()I", sig := { parameters := [], returnType := some .int }, accessFlags := 1, code := some k9c2 }
def k9c3 : Code := { maxStack := 2, maxLocals := 2, code := jdk_42_method_56_code, exceptionTable := #[], attributes := #[] }
def k9m3 : Method := { name := "charAt", desc := "(I)C", sig := { parameters := [.int], returnType := some .char }, accessFlags := 1, code := some k9c3 }
def k9c4 : Code := { maxStack := 2, maxLocals := 3, code := jdk_42_method_66_code, exceptionTable := #[], attributes := #[] }
def k9m4 : Method := { name := "equals", desc := "(Ljava/lang/Object;)Z", sig := { parameters := [(.object "java/lang/Object")], returnType := some .boolean }, accessFlags := 1, code := some k9c4 }
def k9c5 : Code := { maxStack := 4, maxLocals := 6, code := jdk_42_method_149_code, exceptionTable := #[], attributes := #[] }
def k9m5 : Method := { name := "<init>", desc := "([CIILjava/lang/Void;)V", sig := { parameters := [(.array .char), .int, .int, (.object "java/lang/Void")], returnType := none }, accessFlags := 2, code := some k9c5 }
def k9c6 : Code := { maxStack := 1, maxLocals := 1, code := jdk_42_method_152_code, exceptionTable := #[], attributes := #[] }
def k9m6 : Method := { name := "coder", desc := "()B", sig := { parameters := [], returnType := some .byte }, accessFlags := 0, code := some k9c6 }
def k9c7 : Code := { maxStack := 1, maxLocals := 1, code := jdk_42_method_154_code, exceptionTable := #[], attributes := #[] }
def k9m7 : Method := { name := "isLatin1", desc := "()Z", sig := { parameters := [], returnType := some .boolean }, accessFlags := 0, code := some k9c7 }
def k9c8 : Code := { maxStack := 3, maxLocals := 2, code := jdk_42_method_155_code, exceptionTable := #[], attributes := #[] }
def k9m8 : Method := { name := "checkIndex", desc := "(II)V", sig := { parameters := [.int, .int], returnType := none }, accessFlags := 8, code := some k9c8 }
/-- java/lang/String -/
def k9 : Class := { plain "java/lang/String" (some 0) with
  accessFlags := 49
  interfaces := #[4, 3, 7, 2, 8]
  cf := some (fileOf pool9 10 #[.nestMembers #[1103]] #[{ accessFlags := 1, nameIndex := 5, descriptorIndex := 6, attributes := #[] }, { accessFlags := 1, nameIndex := 5, descriptorIndex := 1010, attributes := #[] }, { accessFlags := 1, nameIndex := 507, descriptorIndex := 334, attributes := #[] }, { accessFlags := 1, nameIndex := 497, descriptorIndex := 427, attributes := #[] }, { accessFlags := 1, nameIndex := 543, descriptorIndex := 573, attributes := #[] }, { accessFlags := 2, nameIndex := 5, descriptorIndex := 29, attributes := #[] }, { accessFlags := 0, nameIndex := 17, descriptorIndex := 337, attributes := #[] }, { accessFlags := 0, nameIndex := 494, descriptorIndex := 142, attributes := #[] }, { accessFlags := 8, nameIndex := 501, descriptorIndex := 391, attributes := #[] }] 49 2 #[1106, 1108, 575, 1110, 1112] #[{ accessFlags := 18, nameIndex := 13, descriptorIndex := 14, attributes := #[] }, { accessFlags := 18, nameIndex := 17, descriptorIndex := 18, attributes := #[] }, { accessFlags := 2, nameIndex := 21, descriptorIndex := 22, attributes := #[] }, { accessFlags := 2, nameIndex := 25, descriptorIndex := 26, attributes := #[] }, { accessFlags := 26, nameIndex := 1116, descriptorIndex := 1117, attributes := #[] }, { accessFlags := 24, nameIndex := 40, descriptorIndex := 26, attributes := #[] }, { accessFlags := 26, nameIndex := 1101, descriptorIndex := 1102, attributes := #[] }, { accessFlags := 26, nameIndex := 1121, descriptorIndex := 1122, attributes := #[] }, { accessFlags := 25, nameIndex := 599, descriptorIndex := 600, attributes := #[] }, { accessFlags := 24, nameIndex := 1125, descriptorIndex := 18, attributes := #[] }, { accessFlags := 24, nameIndex := 1127, descriptorIndex := 18, attributes := #[] }])
  fields := #[{ name := "value", type := (.array .byte), accessFlags := 18, slot := 0, constantValue := 0 }, { name := "coder", type := .byte, accessFlags := 18, slot := 1, constantValue := 0 }, { name := "hash", type := .int, accessFlags := 2, slot := 2, constantValue := 0 }, { name := "hashIsZero", type := .boolean, accessFlags := 2, slot := 3, constantValue := 0 }, { name := "serialVersionUID", type := .long, accessFlags := 26, slot := 0, constantValue := 0 }, { name := "COMPACT_STRINGS", type := .boolean, accessFlags := 24, slot := 1, constantValue := 0 }, { name := "serialPersistentFields", type := (.array (.object "java/io/ObjectStreamField")), accessFlags := 26, slot := 2, constantValue := 0 }, { name := "REPL", type := .char, accessFlags := 26, slot := 3, constantValue := 0 }, { name := "CASE_INSENSITIVE_ORDER", type := (.object "java/util/Comparator"), accessFlags := 25, slot := 4, constantValue := 0 }, { name := "LATIN1", type := .byte, accessFlags := 24, slot := 5, constantValue := 0 }, { name := "UTF16", type := .byte, accessFlags := 24, slot := 6, constantValue := 0 }]
  methods := #[k9m0, k9m1, k9m2, k9m3, k9m4, k9m5, k9m6, k9m7, k9m8]
  instanceTypes := #[(.array .byte), .byte, .int, .boolean]
  staticTypes := #[.long, .boolean, (.array (.object "java/io/ObjectStreamField")), .char, (.object "java/util/Comparator"), .byte, .byte]
  resolved := Array.replicate 1451 none
  statics := some 1 }

def pool10 : Array CpInfo := pool [(6, .class_ 8), (1, u "java/lang/Object"), (0, u "<init>"), (0, u "()V"), (1, .class_ 14), (1, u "java/lang/StringUTF16"), (31, u "$assertionsDisabled"), (0, u "Z"), (13, u "HI_BYTE_SHIFT"), (0, u "I"), (2, u "LO_BYTE_SHIFT"), (49, .methodref 12 116), (0, .nameAndType 117 118), (0, u "compress"), (0, u "([CI[BII)I"), (3, u "([CII)[B"), (138, u "coderFromArrayLen"), (0, u "([BI)B"), (106, .class_ 371), (1, u "java/lang/StringUTF16$LinesSpliterator"), (58, u "MAX_LENGTH"), (196, .class_ 628), (0, u "java/lang/StringUTF16$CodePointsSpliterator"), (0, .class_ 630), (0, u "java/lang/StringUTF16$CharsSpliterator")] 4

def k10m0 : Method := { name := "<init>", desc := "()V", sig := { parameters := [], returnType := none }, accessFlags := 0, code := none }
def k10c1 : Code := { maxStack := 2, maxLocals := 2, code := jdk_52_method_15_code, exceptionTable := #[], attributes := #[] }
def k10m1 : Method := { name := "coderFromArrayLen", desc := "([BI)B", sig := { parameters := [(.array .byte), .int], returnType := some .byte }, accessFlags := 8, code := some k10c1 }
def k10c2 : Code := { maxStack := 5, maxLocals := 6, code := jdk_52_method_16_code, exceptionTable := #[], attributes := #[] }
def k10m2 : Method := { name := "compress", desc := "([CII)[B", sig := { parameters := [(.array .char), .int, .int], returnType := some (.array .byte) }, accessFlags := 9, code := some k10c2 }
def k10c3 : Code := { maxStack := 3, maxLocals := 7, code := jdk_52_method_21_code, exceptionTable := #[], attributes := #[] }
def k10m3 : Method := { name := "compress", desc := "([CI[BII)I", sig := { parameters := [(.array .char), .int, (.array .byte), .int, .int], returnType := some .int }, accessFlags := 9, code := some k10c3 }
/-- java/lang/StringUTF16 -/
def k10 : Class := { plain "java/lang/StringUTF16" (some 0) with
  accessFlags := 48
  interfaces := #[]
  cf := some (fileOf pool10 12 #[.nestMembers #[627, 629, 369]] #[{ accessFlags := 0, nameIndex := 9, descriptorIndex := 10, attributes := #[] }, { accessFlags := 8, nameIndex := 261, descriptorIndex := 262, attributes := #[] }, { accessFlags := 9, nameIndex := 117, descriptorIndex := 122, attributes := #[] }, { accessFlags := 9, nameIndex := 117, descriptorIndex := 118, attributes := #[] }] 48 6 #[] #[{ accessFlags := 26, nameIndex := 61, descriptorIndex := 62, attributes := #[] }, { accessFlags := 26, nameIndex := 65, descriptorIndex := 62, attributes := #[] }, { accessFlags := 24, nameIndex := 430, descriptorIndex := 62, attributes := #[] }, { accessFlags := 4120, nameIndex := 46, descriptorIndex := 47, attributes := #[] }])
  fields := #[{ name := "HI_BYTE_SHIFT", type := .int, accessFlags := 26, slot := 0, constantValue := 0 }, { name := "LO_BYTE_SHIFT", type := .int, accessFlags := 26, slot := 1, constantValue := 0 }, { name := "MAX_LENGTH", type := .int, accessFlags := 24, slot := 2, constantValue := 0 }, { name := "$assertionsDisabled", type := .boolean, accessFlags := 4120, slot := 3, constantValue := 0 }]
  methods := #[k10m0, k10m1, k10m2, k10m3]
  instanceTypes := #[]
  staticTypes := #[.int, .int, .int, .boolean]
  resolved := Array.replicate 635 none
  statics := none }

def pool11 : Array CpInfo := pool [(1, .class_ 2), (0, u "com/example/registrum/registrum/protocol/Epp$Extension"), (2, u "GRACE_PERIODS"), (0, u "Lcom/example/registrum/registrum/protocol/Epp$Extension;"), (2, u "$VALUES"), (0, u "[Lcom/example/registrum/registrum/protocol/Epp$Extension;"), (6, .class_ 19), (1, u "java/lang/Enum"), (8, u "namespace"), (0, u "Ljava/lang/String;"), (2, u "prefix"), (0, .fieldref 1 34), (0, .nameAndType 35 36), (0, u "mapping"), (0, u "Lcom/example/registrum/registrum/protocol/Epp$Mapping;"), (0, .fieldref 1 38), (0, .nameAndType 39 29), (0, u "command"), (0, .fieldref 1 41), (0, .nameAndType 42 29), (0, u "element"), (0, .methodref 44 45), (0, .class_ 46), (0, .nameAndType 47 48), (0, u "java/lang/String"), (0, u "equals"), (0, u "(Ljava/lang/Object;)Z"), (25, .class_ 75), (0, u "com/example/registrum/registrum/protocol/Epp"), (24, u "extendsCommand"), (0, u "(Lcom/example/registrum/registrum/protocol/Epp$Mapping;Ljava/lang/String;Ljava/lang/String;)Z")] 34

def k11c0 : Code := { maxStack := 2, maxLocals := 4, code := prog_25_method_7_code, exceptionTable := #[], attributes := #[] }
def k11m0 : Method := { name := "extendsCommand", desc := "(Lcom/example/registrum/registrum/protocol/Epp$Mapping;Ljava/lang/String;Ljava/lang/String;)Z", sig := { parameters := [(.object "com/example/registrum/registrum/protocol/Epp$Mapping"), (.object "java/lang/String"), (.object "java/lang/String")], returnType := some .boolean }, accessFlags := 0, code := some k11c0 }
/-- com/example/registrum/registrum/protocol/Epp$Extension -/
def k11 : Class := { plain "com/example/registrum/registrum/protocol/Epp$Extension" (some 5) with
  accessFlags := 16432
  interfaces := #[]
  cf := some (fileOf pool11 1 #[.nestHost 74] #[{ accessFlags := 0, nameIndex := 100, descriptorIndex := 101, attributes := #[] }] 16432 17 #[] #[{ accessFlags := 16409, nameIndex := 5, descriptorIndex := 6, attributes := #[] }, { accessFlags := 18, nameIndex := 28, descriptorIndex := 29, attributes := #[] }, { accessFlags := 18, nameIndex := 32, descriptorIndex := 29, attributes := #[] }, { accessFlags := 18, nameIndex := 35, descriptorIndex := 36, attributes := #[] }, { accessFlags := 18, nameIndex := 39, descriptorIndex := 29, attributes := #[] }, { accessFlags := 18, nameIndex := 42, descriptorIndex := 29, attributes := #[] }, { accessFlags := 4122, nameIndex := 9, descriptorIndex := 10, attributes := #[] }])
  fields := #[{ name := "GRACE_PERIODS", type := (.object "com/example/registrum/registrum/protocol/Epp$Extension"), accessFlags := 16409, slot := 0, constantValue := 0 }, { name := "namespace", type := (.object "java/lang/String"), accessFlags := 18, slot := 3, constantValue := 0 }, { name := "prefix", type := (.object "java/lang/String"), accessFlags := 18, slot := 4, constantValue := 0 }, { name := "mapping", type := (.object "com/example/registrum/registrum/protocol/Epp$Mapping"), accessFlags := 18, slot := 5, constantValue := 0 }, { name := "command", type := (.object "java/lang/String"), accessFlags := 18, slot := 6, constantValue := 0 }, { name := "element", type := (.object "java/lang/String"), accessFlags := 18, slot := 7, constantValue := 0 }, { name := "$VALUES", type := (.array (.object "com/example/registrum/registrum/protocol/Epp$Extension")), accessFlags := 4122, slot := 1, constantValue := 0 }]
  methods := #[k11m0]
  instanceTypes := #[(.object "java/lang/String"), .int, .int, (.object "java/lang/String"), (.object "java/lang/String"), (.object "com/example/registrum/registrum/protocol/Epp$Mapping"), (.object "java/lang/String"), (.object "java/lang/String")]
  staticTypes := #[(.object "com/example/registrum/registrum/protocol/Epp$Extension"), (.array (.object "com/example/registrum/registrum/protocol/Epp$Extension"))]
  resolved := Array.replicate 136 none
  statics := some 2 }

def pool12 : Array CpInfo := pool [(1, .class_ 2), (0, u "java/lang/String"), (1, .class_ 6), (1, u "java/lang/Object"), (0, u "<init>"), (0, u "()V"), (0, .methodref 1 10), (0, .nameAndType 11 12), (0, u "checkIndex"), (0, u "(II)V"), (1, .class_ 16), (1, u "java/lang/StringLatin1"), (36, u "([BI)C"), (67, u "$assertionsDisabled"), (0, u "Z"), (98, .class_ 223), (1, u "java/lang/StringLatin1$LinesSpliterator"), (28, u "charAt"), (28, u "equals"), (0, u "([B[B)Z"), (107, .class_ 391), (0, u "java/lang/StringLatin1$CharsSpliterator")] 3

def k12m0 : Method := { name := "<init>", desc := "()V", sig := { parameters := [], returnType := none }, accessFlags := 0, code := none }
def k12c1 : Code := { maxStack := 2, maxLocals := 2, code := jdk_43_method_2_code, exceptionTable := #[], attributes := #[] }
def k12m1 : Method := { name := "charAt", desc := "([BI)C", sig := { parameters := [(.array .byte), .int], returnType := some .char }, accessFlags := 9, code := some k12c1 }
def k12c2 : Code := { maxStack := 3, maxLocals := 3, code := jdk_43_method_13_code, exceptionTable := #[], attributes := #[] }
def k12m2 : Method := { name := "equals", desc := "([B[B)Z", sig := { parameters := [(.array .byte), (.array .byte)], returnType := some .boolean }, accessFlags := 9, code := some k12c2 }
/-- java/lang/StringLatin1 -/
def k12 : Class := { plain "java/lang/StringLatin1" (some 0) with
  accessFlags := 48
  interfaces := #[]
  cf := some (fileOf pool12 14 #[.nestMembers #[390, 221]] #[{ accessFlags := 0, nameIndex := 7, descriptorIndex := 8, attributes := #[] }, { accessFlags := 9, nameIndex := 252, descriptorIndex := 53, attributes := #[] }, { accessFlags := 9, nameIndex := 281, descriptorIndex := 282, attributes := #[] }] 48 4 #[] #[{ accessFlags := 4120, nameIndex := 121, descriptorIndex := 122, attributes := #[] }])
  fields := #[{ name := "$assertionsDisabled", type := .boolean, accessFlags := 4120, slot := 0, constantValue := 0 }]
  methods := #[k12m0, k12m1, k12m2]
  instanceTypes := #[]
  staticTypes := #[.boolean]
  resolved := Array.replicate 395 none
  statics := none }

def pool13 : Array CpInfo := pool [(2, .class_ 4), (1, u "java/lang/Object"), (0, u "<init>"), (0, u "()V"), (17, .class_ 26), (1, u "jdk/internal/util/Preconditions"), (6, u "checkIndex"), (21, .class_ 56), (0, u "jdk/internal/util/Preconditions$4"), (57, .class_ 115), (0, u "jdk/internal/util/Preconditions$1"), (7, u "SIOOBE_FORMATTER"), (0, u "Ljava/util/function/BiFunction;"), (0, .class_ 126), (0, u "jdk/internal/util/Preconditions$2"), (3, u "AIOOBE_FORMATTER"), (0, .class_ 132), (0, u "jdk/internal/util/Preconditions$3"), (3, u "IOOBE_FORMATTER"), (41, u "(IILjava/util/function/BiFunction;)I")] 15

def k13m0 : Method := { name := "<init>", desc := "()V", sig := { parameters := [], returnType := none }, accessFlags := 1, code := none }
def k13c1 : Code := { maxStack := 3, maxLocals := 3, code := jdk_41_method_11_code, exceptionTable := #[], attributes := #[] }
def k13m1 : Method := { name := "checkIndex", desc := "(IILjava/util/function/BiFunction;)I", sig := { parameters := [.int, .int, (.object "java/util/function/BiFunction")], returnType := some .int }, accessFlags := 9, code := some k13c1 }
/-- jdk/internal/util/Preconditions -/
def k13 : Class := { plain "jdk/internal/util/Preconditions" (some 0) with
  accessFlags := 33
  interfaces := #[]
  cf := some (fileOf pool13 24 #[.nestMembers #[55, 131, 125, 114]] #[{ accessFlags := 1, nameIndex := 5, descriptorIndex := 6, attributes := #[] }, { accessFlags := 9, nameIndex := 33, descriptorIndex := 178, attributes := #[] }] 33 2 #[] #[{ accessFlags := 25, nameIndex := 123, descriptorIndex := 124, attributes := #[] }, { accessFlags := 25, nameIndex := 130, descriptorIndex := 124, attributes := #[] }, { accessFlags := 25, nameIndex := 136, descriptorIndex := 124, attributes := #[] }])
  fields := #[{ name := "SIOOBE_FORMATTER", type := (.object "java/util/function/BiFunction"), accessFlags := 25, slot := 0, constantValue := 0 }, { name := "AIOOBE_FORMATTER", type := (.object "java/util/function/BiFunction"), accessFlags := 25, slot := 1, constantValue := 0 }, { name := "IOOBE_FORMATTER", type := (.object "java/util/function/BiFunction"), accessFlags := 25, slot := 2, constantValue := 0 }]
  methods := #[k13m0, k13m1]
  instanceTypes := #[]
  staticTypes := #[(.object "java/util/function/BiFunction"), (.object "java/util/function/BiFunction"), (.object "java/util/function/BiFunction")]
  resolved := Array.replicate 194 none
  statics := some 3 }

def pool14 : Array CpInfo := pool [(9, u "<init>"), (6, .class_ 18), (1, u "java/lang/Object"), (0, u "()V"), (1, .class_ 23), (1, u "jdk/internal/util/ArraysSupport"), (0, u "LOG2_ARRAY_LONG_INDEX_SCALE"), (0, u "I"), (2, u "U"), (0, u "Ljdk/internal/misc/Unsafe;"), (8, u "BIG_ENDIAN"), (0, u "Z"), (8, u "LOG2_BYTE_BIT_SIZE"), (4, u "LOG2_ARRAY_INT_INDEX_SCALE"), (54, u "JLA"), (0, u "Ljdk/internal/access/JavaLangAccess;"), (11, u "LOG2_ARRAY_BOOLEAN_INDEX_SCALE"), (9, u "LOG2_ARRAY_BYTE_INDEX_SCALE"), (5, u "LOG2_ARRAY_CHAR_INDEX_SCALE"), (5, u "LOG2_ARRAY_SHORT_INDEX_SCALE"), (18, u "LOG2_ARRAY_FLOAT_INDEX_SCALE"), (24, u "LOG2_ARRAY_DOUBLE_INDEX_SCALE"), (89, u "T_BOOLEAN"), (2, u "T_CHAR"), (1, u "T_FLOAT"), (1, u "T_DOUBLE"), (1, u "T_BYTE"), (1, u "T_SHORT"), (1, u "T_INT"), (1, u "T_LONG"), (1, u "SOFT_MAX_ARRAY_LENGTH")] 83

def k14m0 : Method := { name := "<init>", desc := "()V", sig := { parameters := [], returnType := none }, accessFlags := 2, code := none }
/-- jdk/internal/util/ArraysSupport -/
def k14 : Class := { plain "jdk/internal/util/ArraysSupport" (some 0) with
  accessFlags := 33
  interfaces := #[]
  cf := some (fileOf pool14 21 #[] #[{ accessFlags := 2, nameIndex := 9, descriptorIndex := 19, attributes := #[] }] 33 16 #[] #[{ accessFlags := 24, nameIndex := 28, descriptorIndex := 29, attributes := #[] }, { accessFlags := 26, nameIndex := 38, descriptorIndex := 39, attributes := #[] }, { accessFlags := 25, nameIndex := 121, descriptorIndex := 25, attributes := #[] }, { accessFlags := 25, nameIndex := 131, descriptorIndex := 25, attributes := #[] }, { accessFlags := 25, nameIndex := 137, descriptorIndex := 25, attributes := #[] }, { accessFlags := 25, nameIndex := 143, descriptorIndex := 25, attributes := #[] }, { accessFlags := 25, nameIndex := 53, descriptorIndex := 25, attributes := #[] }, { accessFlags := 25, nameIndex := 24, descriptorIndex := 25, attributes := #[] }, { accessFlags := 25, nameIndex := 162, descriptorIndex := 25, attributes := #[] }, { accessFlags := 25, nameIndex := 187, descriptorIndex := 25, attributes := #[] }, { accessFlags := 26, nameIndex := 48, descriptorIndex := 25, attributes := #[] }, { accessFlags := 25, nameIndex := 277, descriptorIndex := 25, attributes := #[] }, { accessFlags := 25, nameIndex := 280, descriptorIndex := 25, attributes := #[] }, { accessFlags := 25, nameIndex := 282, descriptorIndex := 25, attributes := #[] }, { accessFlags := 25, nameIndex := 284, descriptorIndex := 25, attributes := #[] }, { accessFlags := 25, nameIndex := 286, descriptorIndex := 25, attributes := #[] }, { accessFlags := 25, nameIndex := 288, descriptorIndex := 25, attributes := #[] }, { accessFlags := 25, nameIndex := 290, descriptorIndex := 25, attributes := #[] }, { accessFlags := 25, nameIndex := 292, descriptorIndex := 25, attributes := #[] }, { accessFlags := 26, nameIndex := 108, descriptorIndex := 109, attributes := #[] }, { accessFlags := 25, nameIndex := 294, descriptorIndex := 25, attributes := #[] }])
  fields := #[{ name := "U", type := (.object "jdk/internal/misc/Unsafe"), accessFlags := 24, slot := 0, constantValue := 0 }, { name := "BIG_ENDIAN", type := .boolean, accessFlags := 26, slot := 1, constantValue := 0 }, { name := "LOG2_ARRAY_BOOLEAN_INDEX_SCALE", type := .int, accessFlags := 25, slot := 2, constantValue := 0 }, { name := "LOG2_ARRAY_BYTE_INDEX_SCALE", type := .int, accessFlags := 25, slot := 3, constantValue := 0 }, { name := "LOG2_ARRAY_CHAR_INDEX_SCALE", type := .int, accessFlags := 25, slot := 4, constantValue := 0 }, { name := "LOG2_ARRAY_SHORT_INDEX_SCALE", type := .int, accessFlags := 25, slot := 5, constantValue := 0 }, { name := "LOG2_ARRAY_INT_INDEX_SCALE", type := .int, accessFlags := 25, slot := 6, constantValue := 0 }, { name := "LOG2_ARRAY_LONG_INDEX_SCALE", type := .int, accessFlags := 25, slot := 7, constantValue := 0 }, { name := "LOG2_ARRAY_FLOAT_INDEX_SCALE", type := .int, accessFlags := 25, slot := 8, constantValue := 0 }, { name := "LOG2_ARRAY_DOUBLE_INDEX_SCALE", type := .int, accessFlags := 25, slot := 9, constantValue := 0 }, { name := "LOG2_BYTE_BIT_SIZE", type := .int, accessFlags := 26, slot := 10, constantValue := 0 }, { name := "T_BOOLEAN", type := .int, accessFlags := 25, slot := 11, constantValue := 0 }, { name := "T_CHAR", type := .int, accessFlags := 25, slot := 12, constantValue := 0 }, { name := "T_FLOAT", type := .int, accessFlags := 25, slot := 13, constantValue := 0 }, { name := "T_DOUBLE", type := .int, accessFlags := 25, slot := 14, constantValue := 0 }, { name := "T_BYTE", type := .int, accessFlags := 25, slot := 15, constantValue := 0 }, { name := "T_SHORT", type := .int, accessFlags := 25, slot := 16, constantValue := 0 }, { name := "T_INT", type := .int, accessFlags := 25, slot := 17, constantValue := 0 }, { name := "T_LONG", type := .int, accessFlags := 25, slot := 18, constantValue := 0 }, { name := "JLA", type := (.object "jdk/internal/access/JavaLangAccess"), accessFlags := 26, slot := 19, constantValue := 0 }, { name := "SOFT_MAX_ARRAY_LENGTH", type := .int, accessFlags := 25, slot := 20, constantValue := 0 }]
  methods := #[k14m0]
  instanceTypes := #[]
  staticTypes := #[(.object "jdk/internal/misc/Unsafe"), .boolean, .int, .int, .int, .int, .int, .int, .int, .int, .int, .int, .int, .int, .int, .int, .int, .int, .int, (.object "jdk/internal/access/JavaLangAccess"), .int]
  resolved := Array.replicate 378 none
  statics := none }

def pool15 : Array CpInfo := pool [(1, u "java/lang/Cloneable"), (0, .class_ 1), (0, u "java/lang/Object"), (0, .class_ 3)] 3

/-- java/lang/Cloneable -/
def k15 : Class := { plain "java/lang/Cloneable" (some 0) with
  accessFlags := 1537
  interfaces := #[]
  cf := some (fileOf pool15 2 #[] #[] 1537 4 #[] #[])
  fields := #[]
  methods := #[]
  instanceTypes := #[]
  staticTypes := #[]
  resolved := Array.replicate 8 none
  statics := none }

/-- the primitive byte -/
def k16 : Class := { plain "byte" none with kind := .primitive 'B', accessFlags := 0x411 }
/-- [B -/
def k17 : Class := { plain "[B" (some 0) with kind := .array 16 .byte, interfaces := #[15, 4], accessFlags := 1041 }

/-- the primitive char -/
def k18 : Class := { plain "char" none with kind := .primitive 'C', accessFlags := 0x411 }
/-- [C -/
def k19 : Class := { plain "[C" (some 0) with kind := .array 18 .char, interfaces := #[15, 4], accessFlags := 1041 }

/-- the primitive int -/
def k20 : Class := { plain "int" none with kind := .primitive 'I', accessFlags := 0x411 }
/-- [I -/
def k21 : Class := { plain "[I" (some 0) with kind := .array 20 .int, interfaces := #[15, 4], accessFlags := 1041 }

def heap : Heap := #[{ cls := 6, slots := #[.ref 4, .ref 5, .ref 6, .null], vm := .statics 6 },
  { cls := 9, slots := #[.long 0, .int 1, .null, .int 0, .null, .int 0, .int 0], vm := .statics 9 },
  { cls := 11, slots := #[.ref 9, .null], vm := .statics 11 },
  { cls := 13, slots := #[.null, .null, .null], vm := .statics 13 },
  { cls := 6, slots := #[.null, .int 0, .int 0, .null, .null, .null], vm := .none },
  { cls := 6, slots := #[.null, .int 1, .int 0, .null, .null, .null], vm := .none },
  { cls := 6, slots := #[.null, .int 2, .int 0, .null, .null, .null], vm := .none },
  { cls := 17, slots := #[.int 117, .int 112, .int 100, .int 97, .int 116, .int 101], vm := .none },
  { cls := 9, slots := #[.ref 7, .int 0, .int 0, .int 0], vm := .none },
  { cls := 11, slots := #[.null, .int 0, .int 0, .null, .null, .ref 4, .ref 8, .ref 8], vm := .none }]
def classes : Array Class := #[k0, k1, k2, k3, k4, k5, k6, k7, k8, k9, k10, k11, k12, k13, k14, k15, k16, k17, k18, k19, k20, k21]
def interned : List (Array UInt16 × Addr) := []
def slotsUsed : Nat := 52
def theMethod : MethodId := ⟨1, 1⟩
def args0 : Array Value := #[.int 0, .int 0, .long 0, .int 0, .long 0]
def aboutOver (below : List Frame) : State where
  vm := { classes := classes, interned := interned.toArray }
  heap := heap
  slotsUsed := slotsUsed
  threads := #[{ frames := .invoking theMethod args0 :: below }]
def below0 : List Frame := [.native { method := ⟨0, 0⟩, args := #[] }]
def about1 : State := aboutOver below0
def p0 : Program := .bare "" "" ""
def e0 : Env := launch0.env 0 0 0
theorem w_frames : about1.frames = Frame.invoking theMethod args0 :: below0 := rfl
set_option maxRecDepth 65536 in
theorem w_args : argsFit about1.vm theMethod args0 = true := by decide +kernel
set_option maxRecDepth 65536 in
theorem w_heap : heapFits about1 = true := by decide +kernel
set_option maxRecDepth 65536 in
theorem w_runnable : about1.curStatus? = some .runnable := by decide +kernel
set_option maxRecDepth 65536 in
theorem w_alone : about1.alone = true := by decide +kernel
set_option maxRecDepth 65536 in
theorem w_named : about1.methodNamed? x = some theMethod := by decide +kernel
set_option maxRecDepth 65536 in
theorem w_hears : about1.hears theMethod below0 = true := by decide +kernel
set_option maxRecDepth 65536 in
theorem w_ripe : about1.ripe theMethod args0 below0 = true := by decide +kernel
theorem w_running : about1.status = .running := rfl
set_option maxRecDepth 65536 in
theorem w_room : about1.hasRoom e0.platform room_1 = true :=
  launch0.hasRoom_least _ room_1 (by decide +kernel) (by decide +kernel) (by decide +kernel) (by decide +kernel) (by decide +kernel) (by decide +kernel)
theorem allAtoms_all (ts : List Jvm.Cond) (a : Array Jvm.Value) (st : Jvm.State) : (allAtoms ts).before a st = ts.all (fun c => c.before a st) := by
  induction ts with
  | nil => rfl
  | cons c t ih =>
    show (Jvm.Cond.and c (allAtoms t)).before a st = _
    rw [Jvm.Cond.before_and, ih, List.all_cons]
def words1 : List Jvm.Cond := Jvm.Cond.code x code maxLocals ret :: tables_1
/-- a 'code' word, met by the world's own term for the bytes: nothing is compared byte by byte -/
theorem code_word {y : MethodName} {bytes : ByteArray} {mx : Nat} {rt : Option FieldType} {a : Array Value} {s : State} {m : MethodId} {meth : Method} {c : Code} (h1 : s.methodNamed? y = some m) (h2 : s.vm.method? m = some meth) (h3 : meth.code = some c) (h4 : c.code = bytes)
    (h5 : (c.maxLocals == mx && c.exceptionTable.isEmpty && decide (c.maxStack ≤ mostOperands) && decide (meth.sig.returnType = rt) && !meth.locks && decide (parseMethodDescriptor y.desc = some meth.sig)) = true) : (Jvm.Cond.code y bytes mx rt).before a s = true := by
  simp only [Bool.and_eq_true, beq_iff_eq, Bool.not_eq_true', decide_eq_true_eq] at h5
  obtain ⟨⟨⟨⟨⟨g1, g2⟩, g3⟩, g4⟩, g5⟩, g6⟩ := h5
  simp [Cond.before, Cond.holds, Cond.value, h1, h2, h3, h4, g1, g2, g3, g4, g5, g6]
def isCode : Jvm.Cond → Bool
  | .code _ _ _ _ => true
  | _ => false
theorem all_split {L : List Jvm.Cond} {P : Jvm.Cond → Bool} (h1 : L.all (fun c => isCode c || P c) = true) (h2 : ∀ c ∈ L.filter isCode, P c = true) : L.all P = true := by
  refine List.all_eq_true.mpr fun c hc => ?_
  have h := List.all_eq_true.mp h1 c hc
  rcases Bool.eq_false_or_eq_true (isCode c) with hi | hi
  · exact h2 c (List.mem_filter.mpr ⟨hc, hi⟩)
  · simpa [hi] using h
set_option maxRecDepth 65536 in
theorem w_c0 : (Jvm.Cond.code x code maxLocals ret).before args0 about1 = true := code_word (m := ⟨1, 1⟩) (meth := k1m1) (c := k1c1) (by decide +kernel) rfl rfl rfl (by decide +kernel)
set_option maxRecDepth 65536 in
theorem w_c1 : (Jvm.Cond.code ({ cls := "com/example/registrum/registrum/protocol/ExtensionExtendsCommandPinLaw", name := "pick", desc := "(I)Lcom/example/registrum/registrum/protocol/Epp$Mapping;" } : Jvm.MethodName) method_3_code (2 : Nat) (Option.some (Jvm.ClassFile.FieldType.object "com/example/registrum/registrum/protocol/Epp$Mapping"))).before args0 about1 = true := code_word (m := ⟨1, 2⟩) (meth := k1m2) (c := k1c2) (by decide +kernel) rfl rfl rfl (by decide +kernel)
set_option maxRecDepth 65536 in
theorem w_c2 : (Jvm.Cond.code ({ cls := "com/example/registrum/registrum/protocol/ExtensionExtendsCommandPinLaw", name := "make", desc := "(IJ)Ljava/lang/String;" } : Jvm.MethodName) method_5_code (11 : Nat) (Option.some (Jvm.ClassFile.FieldType.object "java/lang/String"))).before args0 about1 = true := code_word (m := ⟨1, 4⟩) (meth := k1m4) (c := k1c4) (by decide +kernel) rfl rfl rfl (by decide +kernel)
set_option maxRecDepth 65536 in
theorem w_c3 : (Jvm.Cond.code ({ cls := "com/example/registrum/registrum/protocol/ExtensionExtendsCommandPinLaw", name := "at", desc := "(IJIC)C" } : Jvm.MethodName) method_4_code (5 : Nat) (Option.some Jvm.ClassFile.FieldType.char)).before args0 about1 = true := code_word (m := ⟨1, 3⟩) (meth := k1m3) (c := k1c3) (by decide +kernel) rfl rfl rfl (by decide +kernel)
set_option maxRecDepth 65536 in
theorem w_c4 : (Jvm.Cond.code ({ cls := "java/lang/String", name := "<init>", desc := "([C)V" } : Jvm.MethodName) jdk_42_method_3_code (2 : Nat) (Option.none : Option Jvm.ClassFile.FieldType)).before args0 about1 = true := code_word (m := ⟨9, 1⟩) (meth := k9m1) (c := k9c1) (by decide +kernel) rfl rfl rfl (by decide +kernel)
set_option maxRecDepth 65536 in
theorem w_c5 : (Jvm.Cond.code ({ cls := "java/lang/String", name := "<init>", desc := "([CIILjava/lang/Void;)V" } : Jvm.MethodName) jdk_42_method_149_code (6 : Nat) (Option.none : Option Jvm.ClassFile.FieldType)).before args0 about1 = true := code_word (m := ⟨9, 5⟩) (meth := k9m5) (c := k9c5) (by decide +kernel) rfl rfl rfl (by decide +kernel)
set_option maxRecDepth 65536 in
theorem w_c6 : (Jvm.Cond.code ({ cls := "java/lang/Object", name := "<init>", desc := "()V" } : Jvm.MethodName) object_method_1_code (1 : Nat) (Option.none : Option Jvm.ClassFile.FieldType)).before args0 about1 = true := code_word (m := ⟨0, 0⟩) (meth := k0m0) (c := k0c0) (by decide +kernel) rfl rfl rfl (by decide +kernel)
set_option maxRecDepth 65536 in
theorem w_c7 : (Jvm.Cond.code ({ cls := "java/lang/StringUTF16", name := "compress", desc := "([CII)[B" } : Jvm.MethodName) jdk_52_method_16_code (6 : Nat) (Option.some (Jvm.ClassFile.FieldType.array Jvm.ClassFile.FieldType.byte))).before args0 about1 = true := code_word (m := ⟨10, 2⟩) (meth := k10m2) (c := k10c2) (by decide +kernel) rfl rfl rfl (by decide +kernel)
set_option maxRecDepth 65536 in
theorem w_c8 : (Jvm.Cond.code ({ cls := "java/lang/StringUTF16", name := "compress", desc := "([CI[BII)I" } : Jvm.MethodName) jdk_52_method_21_code (7 : Nat) (Option.some Jvm.ClassFile.FieldType.int)).before args0 about1 = true := code_word (m := ⟨10, 3⟩) (meth := k10m3) (c := k10c3) (by decide +kernel) rfl rfl rfl (by decide +kernel)
set_option maxRecDepth 65536 in
theorem w_c9 : (Jvm.Cond.code ({ cls := "java/lang/StringUTF16", name := "coderFromArrayLen", desc := "([BI)B" } : Jvm.MethodName) jdk_52_method_15_code (2 : Nat) (Option.some Jvm.ClassFile.FieldType.byte)).before args0 about1 = true := code_word (m := ⟨10, 1⟩) (meth := k10m1) (c := k10c1) (by decide +kernel) rfl rfl rfl (by decide +kernel)
set_option maxRecDepth 65536 in
theorem w_c10 : (Jvm.Cond.code ({ cls := "com/example/registrum/registrum/protocol/Epp$Extension", name := "extendsCommand", desc := "(Lcom/example/registrum/registrum/protocol/Epp$Mapping;Ljava/lang/String;Ljava/lang/String;)Z" } : Jvm.MethodName) prog_25_method_7_code (4 : Nat) (Option.some Jvm.ClassFile.FieldType.boolean)).before args0 about1 = true := code_word (m := ⟨11, 0⟩) (meth := k11m0) (c := k11c0) (by decide +kernel) rfl rfl rfl (by decide +kernel)
set_option maxRecDepth 65536 in
theorem w_c11 : (Jvm.Cond.code ({ cls := "java/lang/String", name := "equals", desc := "(Ljava/lang/Object;)Z" } : Jvm.MethodName) jdk_42_method_66_code (3 : Nat) (Option.some Jvm.ClassFile.FieldType.boolean)).before args0 about1 = true := code_word (m := ⟨9, 4⟩) (meth := k9m4) (c := k9c4) (by decide +kernel) rfl rfl rfl (by decide +kernel)
set_option maxRecDepth 65536 in
theorem w_c12 : (Jvm.Cond.code ({ cls := "java/lang/StringLatin1", name := "equals", desc := "([B[B)Z" } : Jvm.MethodName) jdk_43_method_13_code (3 : Nat) (Option.some Jvm.ClassFile.FieldType.boolean)).before args0 about1 = true := code_word (m := ⟨12, 2⟩) (meth := k12m2) (c := k12c2) (by decide +kernel) rfl rfl rfl (by decide +kernel)
set_option maxRecDepth 65536 in
theorem w_c13 : (Jvm.Cond.code ({ cls := "com/example/registrum/registrum/protocol/ExtensionExtendsCommandPinLaw", name := "isUpdate", desc := "(Ljava/lang/String;)Z" } : Jvm.MethodName) method_6_code (1 : Nat) (Option.some Jvm.ClassFile.FieldType.boolean)).before args0 about1 = true := code_word (m := ⟨1, 5⟩) (meth := k1m5) (c := k1c5) (by decide +kernel) rfl rfl rfl (by decide +kernel)
set_option maxRecDepth 65536 in
theorem w_c14 : (Jvm.Cond.code ({ cls := "java/lang/String", name := "length", desc := "()I" } : Jvm.MethodName) jdk_42_method_54_code (1 : Nat) (Option.some Jvm.ClassFile.FieldType.int)).before args0 about1 = true := code_word (m := ⟨9, 2⟩) (meth := k9m2) (c := k9c2) (by decide +kernel) rfl rfl rfl (by decide +kernel)
set_option maxRecDepth 65536 in
theorem w_c15 : (Jvm.Cond.code ({ cls := "java/lang/String", name := "coder", desc := "()B" } : Jvm.MethodName) jdk_42_method_152_code (1 : Nat) (Option.some Jvm.ClassFile.FieldType.byte)).before args0 about1 = true := code_word (m := ⟨9, 6⟩) (meth := k9m6) (c := k9c6) (by decide +kernel) rfl rfl rfl (by decide +kernel)
set_option maxRecDepth 65536 in
theorem w_c16 : (Jvm.Cond.code ({ cls := "java/lang/String", name := "charAt", desc := "(I)C" } : Jvm.MethodName) jdk_42_method_56_code (2 : Nat) (Option.some Jvm.ClassFile.FieldType.char)).before args0 about1 = true := code_word (m := ⟨9, 3⟩) (meth := k9m3) (c := k9c3) (by decide +kernel) rfl rfl rfl (by decide +kernel)
set_option maxRecDepth 65536 in
theorem w_c17 : (Jvm.Cond.code ({ cls := "java/lang/String", name := "isLatin1", desc := "()Z" } : Jvm.MethodName) jdk_42_method_154_code (1 : Nat) (Option.some Jvm.ClassFile.FieldType.boolean)).before args0 about1 = true := code_word (m := ⟨9, 7⟩) (meth := k9m7) (c := k9c7) (by decide +kernel) rfl rfl rfl (by decide +kernel)
set_option maxRecDepth 65536 in
theorem w_c18 : (Jvm.Cond.code ({ cls := "java/lang/StringLatin1", name := "charAt", desc := "([BI)C" } : Jvm.MethodName) jdk_43_method_2_code (2 : Nat) (Option.some Jvm.ClassFile.FieldType.char)).before args0 about1 = true := code_word (m := ⟨12, 1⟩) (meth := k12m1) (c := k12c1) (by decide +kernel) rfl rfl rfl (by decide +kernel)
set_option maxRecDepth 65536 in
theorem w_c19 : (Jvm.Cond.code ({ cls := "java/lang/String", name := "checkIndex", desc := "(II)V" } : Jvm.MethodName) jdk_42_method_155_code (2 : Nat) (Option.none : Option Jvm.ClassFile.FieldType)).before args0 about1 = true := code_word (m := ⟨9, 8⟩) (meth := k9m8) (c := k9c8) (by decide +kernel) rfl rfl rfl (by decide +kernel)
set_option maxRecDepth 65536 in
theorem w_c20 : (Jvm.Cond.code ({ cls := "jdk/internal/util/Preconditions", name := "checkIndex", desc := "(IILjava/util/function/BiFunction;)I" } : Jvm.MethodName) jdk_41_method_11_code (3 : Nat) (Option.some Jvm.ClassFile.FieldType.int)).before args0 about1 = true := code_word (m := ⟨13, 1⟩) (meth := k13m1) (c := k13c1) (by decide +kernel) rfl rfl rfl (by decide +kernel)
def codes1 : List Jvm.Cond := [Jvm.Cond.code x code maxLocals ret, Jvm.Cond.code ({ cls := "com/example/registrum/registrum/protocol/ExtensionExtendsCommandPinLaw", name := "pick", desc := "(I)Lcom/example/registrum/registrum/protocol/Epp$Mapping;" } : Jvm.MethodName) method_3_code (2 : Nat) (Option.some (Jvm.ClassFile.FieldType.object "com/example/registrum/registrum/protocol/Epp$Mapping")), Jvm.Cond.code ({ cls := "com/example/registrum/registrum/protocol/ExtensionExtendsCommandPinLaw", name := "make", desc := "(IJ)Ljava/lang/String;" } : Jvm.MethodName) method_5_code (11 : Nat) (Option.some (Jvm.ClassFile.FieldType.object "java/lang/String")), Jvm.Cond.code ({ cls := "com/example/registrum/registrum/protocol/ExtensionExtendsCommandPinLaw", name := "at", desc := "(IJIC)C" } : Jvm.MethodName) method_4_code (5 : Nat) (Option.some Jvm.ClassFile.FieldType.char), Jvm.Cond.code ({ cls := "java/lang/String", name := "<init>", desc := "([C)V" } : Jvm.MethodName) jdk_42_method_3_code (2 : Nat) (Option.none : Option Jvm.ClassFile.FieldType), Jvm.Cond.code ({ cls := "java/lang/String", name := "<init>", desc := "([CIILjava/lang/Void;)V" } : Jvm.MethodName) jdk_42_method_149_code (6 : Nat) (Option.none : Option Jvm.ClassFile.FieldType), Jvm.Cond.code ({ cls := "java/lang/Object", name := "<init>", desc := "()V" } : Jvm.MethodName) object_method_1_code (1 : Nat) (Option.none : Option Jvm.ClassFile.FieldType), Jvm.Cond.code ({ cls := "java/lang/StringUTF16", name := "compress", desc := "([CII)[B" } : Jvm.MethodName) jdk_52_method_16_code (6 : Nat) (Option.some (Jvm.ClassFile.FieldType.array Jvm.ClassFile.FieldType.byte)), Jvm.Cond.code ({ cls := "java/lang/StringUTF16", name := "compress", desc := "([CI[BII)I" } : Jvm.MethodName) jdk_52_method_21_code (7 : Nat) (Option.some Jvm.ClassFile.FieldType.int), Jvm.Cond.code ({ cls := "java/lang/StringUTF16", name := "coderFromArrayLen", desc := "([BI)B" } : Jvm.MethodName) jdk_52_method_15_code (2 : Nat) (Option.some Jvm.ClassFile.FieldType.byte), Jvm.Cond.code ({ cls := "com/example/registrum/registrum/protocol/Epp$Extension", name := "extendsCommand", desc := "(Lcom/example/registrum/registrum/protocol/Epp$Mapping;Ljava/lang/String;Ljava/lang/String;)Z" } : Jvm.MethodName) prog_25_method_7_code (4 : Nat) (Option.some Jvm.ClassFile.FieldType.boolean), Jvm.Cond.code ({ cls := "java/lang/String", name := "equals", desc := "(Ljava/lang/Object;)Z" } : Jvm.MethodName) jdk_42_method_66_code (3 : Nat) (Option.some Jvm.ClassFile.FieldType.boolean), Jvm.Cond.code ({ cls := "java/lang/StringLatin1", name := "equals", desc := "([B[B)Z" } : Jvm.MethodName) jdk_43_method_13_code (3 : Nat) (Option.some Jvm.ClassFile.FieldType.boolean), Jvm.Cond.code ({ cls := "com/example/registrum/registrum/protocol/ExtensionExtendsCommandPinLaw", name := "isUpdate", desc := "(Ljava/lang/String;)Z" } : Jvm.MethodName) method_6_code (1 : Nat) (Option.some Jvm.ClassFile.FieldType.boolean), Jvm.Cond.code ({ cls := "java/lang/String", name := "length", desc := "()I" } : Jvm.MethodName) jdk_42_method_54_code (1 : Nat) (Option.some Jvm.ClassFile.FieldType.int), Jvm.Cond.code ({ cls := "java/lang/String", name := "coder", desc := "()B" } : Jvm.MethodName) jdk_42_method_152_code (1 : Nat) (Option.some Jvm.ClassFile.FieldType.byte), Jvm.Cond.code ({ cls := "java/lang/String", name := "charAt", desc := "(I)C" } : Jvm.MethodName) jdk_42_method_56_code (2 : Nat) (Option.some Jvm.ClassFile.FieldType.char), Jvm.Cond.code ({ cls := "java/lang/String", name := "isLatin1", desc := "()Z" } : Jvm.MethodName) jdk_42_method_154_code (1 : Nat) (Option.some Jvm.ClassFile.FieldType.boolean), Jvm.Cond.code ({ cls := "java/lang/StringLatin1", name := "charAt", desc := "([BI)C" } : Jvm.MethodName) jdk_43_method_2_code (2 : Nat) (Option.some Jvm.ClassFile.FieldType.char), Jvm.Cond.code ({ cls := "java/lang/String", name := "checkIndex", desc := "(II)V" } : Jvm.MethodName) jdk_42_method_155_code (2 : Nat) (Option.none : Option Jvm.ClassFile.FieldType), Jvm.Cond.code ({ cls := "jdk/internal/util/Preconditions", name := "checkIndex", desc := "(IILjava/util/function/BiFunction;)I" } : Jvm.MethodName) jdk_41_method_11_code (3 : Nat) (Option.some Jvm.ClassFile.FieldType.int)]
set_option maxRecDepth 65536 in
theorem codes_eq : words1.filter isCode = codes1 := rfl
theorem w_codes : ∀ c ∈ words1.filter isCode, c.before args0 about1 = true := by
  rw [codes_eq]
  intro c hc
  simp only [codes1, List.mem_cons, List.not_mem_nil, or_false] at hc
  rcases hc with rfl | rfl | rfl | rfl | rfl | rfl | rfl | rfl | rfl | rfl | rfl | rfl | rfl | rfl | rfl | rfl | rfl | rfl | rfl | rfl | rfl
  · exact w_c0
  · exact w_c1
  · exact w_c2
  · exact w_c3
  · exact w_c4
  · exact w_c5
  · exact w_c6
  · exact w_c7
  · exact w_c8
  · exact w_c9
  · exact w_c10
  · exact w_c11
  · exact w_c12
  · exact w_c13
  · exact w_c14
  · exact w_c15
  · exact w_c16
  · exact w_c17
  · exact w_c18
  · exact w_c19
  · exact w_c20
set_option maxRecDepth 65536 in
theorem w_t1 : (words1.take 24).all (fun c => isCode c || c.before args0 about1) = true := by decide +kernel
set_option maxRecDepth 65536 in
theorem w_t2 : ((words1.drop 24).take 24).all (fun c => isCode c || c.before args0 about1) = true := by decide +kernel
set_option maxRecDepth 65536 in
theorem w_t3 : (((words1.drop 24).drop 24).take 24).all (fun c => isCode c || c.before args0 about1) = true := by decide +kernel
set_option maxRecDepth 65536 in
theorem w_t4 : ((((words1.drop 24).drop 24).drop 24).take 24).all (fun c => isCode c || c.before args0 about1) = true := by decide +kernel
set_option maxRecDepth 65536 in
theorem w_t5 : ((((words1.drop 24).drop 24).drop 24).drop 24).all (fun c => isCode c || c.before args0 about1) = true := by decide +kernel
theorem w_tables : (allAtoms (Jvm.Cond.code x code maxLocals ret :: tables_1)).before args0 about1 = true := by
  rw [allAtoms_all]
  show words1.all (fun c => c.before args0 about1) = true
  refine all_split ?_ w_codes
  rw [← List.take_append_drop 24 words1, List.all_append, w_t1, ← List.take_append_drop 24 (words1.drop 24), List.all_append, w_t2, ← List.take_append_drop 24 ((words1.drop 24).drop 24), List.all_append, w_t3, ← List.take_append_drop 24 (((words1.drop 24).drop 24).drop 24), List.all_append, w_t4, w_t5]
  rfl
set_option maxRecDepth 65536 in
theorem w_rest : rest_1_c.before args0 about1 = true := by decide +kernel
set_option maxRecDepth 65536 in
theorem w_case : (Jvm.Cond.and given_1 narrow_1).before args0 about1 = true := by decide +kernel
theorem w_applies : (headSpec (Jvm.Cond.code x code maxLocals ret :: tables_1) room_1).applies x e0.platform about1 = true :=
  (Spec.applies_iff w_frames).mpr ⟨w_running, w_runnable, w_alone, w_named, w_hears, w_ripe, w_room, w_tables⟩
theorem atStart : AtStart classFile x code maxLocals ret World_1 tables_1 room_1 Calls_1 rest_1 Pre_1 launch0 p0 e0 about1 theMethod args0 below0 :=
  ⟨lists_1, trivial, launch0.admits_env _ _ _, launch0.least_env, fairChoices_fair.cas, fairChoices_fair.clock, w_frames, w_args, w_heap, w_applies, trivial, w_rest, w_case⟩
end start1
theorem witness_1 : WitnessClaimed_1 := ⟨start1.p0, start1.e0, start1.about1, start1.theMethod, start1.args0, start1.below0, start1.atStart⟩
end Jvm.Pilot.@@N@@
