import JvmDerived
import JvmDerived.Pilot.@@N@@Statement
import JvmDerived.Pilot.@@N@@Code
set_option linter.unusedVariables false
set_option linter.unusedSimpArgs false
/- laws to paste: Road.backV, Road.eqW, Road.codOf, Road.lenW, Road.chN (cut by pick.py; bodies as the Statement names them) -/
namespace Jvm.Pilot.@@N@@
namespace StrChars
open Jvm Sem ClassFile Op Lib Jvm.Stand Jvm.Free.XT Jvm.Free.ALB Jvm.Free.JM Jvm.Free
open Jvm.Lib.Cold (StaticIs)
/-- a char array whose places are chars -/
def Ch (a : Addr) (A : Cell) (U : State) : Prop := Arr .char a A U ∧ Typed .char A
theorem Ch.mv {a : Addr} {A : Cell} {U U' : State} (h : Ch a A U) (hal : U.vm.Alike U'.vm) (hh : U'.heap = U.heap) : Ch a A U' := ⟨h.1.mv hal hh, h.2⟩
theorem Ch.keep {a : Addr} {A : Cell} {U U' : State} (h : Ch a A U) (hal : U.vm.Alike U'.vm) (hk : U'.heap[a]? = some A) : Ch a A U' := ⟨h.1.keep hal hk, h.2⟩
/-- what place i of a char[]'s cell holds -/
def cv (A : Cell) (i : Nat) : Int32 := match A.slots[i]? with | some (.int x) => x | _ => 0
theorem Ch.get {a : Addr} {A : Cell} {U : State} (h : Ch a A U) {i : Nat} (hi : i < A.slots.size) : A.slots[i]? = some (.int (cv A i)) := by
  have e := Array.getElem?_eq_getElem hi
  have f := h.2 i _ e
  unfold cv; rw [e]
  generalize A.slots[i] = v at f
  cases v <;> simp [fits] at f ⊢
/-- the byte that i2b leaves of a char -/
def lo8 (x : Int32) : Int32 := x.toInt8.toInt32
theorem fits_lo8 (y : Int32) : fits .byte (.int (lo8 y)) = true := by
  have h1 := y.toInt8.le_toInt
  have h2 := y.toInt8.toInt_lt
  simp only [lo8, fits, Bool.and_eq_true, decide_eq_true_eq, Int32.le_iff_toInt_le, Int8.toInt_toInt32, show (-128 : Int32).toInt = -128 from by decide, show (127 : Int32).toInt = 127 from by decide]
  omega
/-- A' is A but that each place j of lo .. hi - 1 holds f j -/
def Laid (A A' : Cell) (lo hi : Nat) (f : Nat → Value) : Prop := A'.cls = A.cls ∧ A'.vm = A.vm ∧ A'.slots.size = A.slots.size ∧ ∀ i, A'.slots[i]? = if lo ≤ i ∧ i < hi then some (f i) else A.slots[i]?
theorem Laid.zero (A : Cell) (lo : Nat) (f : Nat → Value) : Laid A A lo (lo + 0) f := ⟨rfl, rfl, rfl, fun i => by rw [if_neg (by omega)]⟩
theorem Laid.step {A Ak : Cell} {lo k : Nat} {f : Nat → Value} {v : Value} (h : Laid A Ak lo k f) (hlo : lo ≤ k) (hk : k < Ak.slots.size) (hv : v = f k) : Laid A (Ak.setSlot k v) lo (k + 1) f := by
  refine ⟨h.1, h.2.1, by simpa [Cell.setSlot] using h.2.2.1, fun i => ?_⟩
  by_cases e : k = i
  · subst e; rw [Cell.slots_setSlot_self v hk, if_pos (by omega), hv]
  · rw [Cell.slots_setSlot_ne v e, h.2.2.2 i]
    by_cases q : lo ≤ i ∧ i < k
    · rw [if_pos q, if_pos (by omega)]
    · rw [if_neg q, if_neg (by omega)]
def U16 : String := "java/lang/StringUTF16"
namespace Cmp5
def yN : MethodName := ⟨"java/lang/StringUTF16", "compress", "([CI[BII)I"⟩
abbrev yB : ByteArray := jdk_52_method_21_code
theorem d0 : decode yB 0 = .ok (.iconst 0, 1) := by decide +kernel
theorem d1 : decode yB 1 = .ok (.istore 5, 2) := by decide +kernel
theorem d3 : decode yB 3 = .ok (.iload 5, 2) := by decide +kernel
theorem d5 : decode yB 5 = .ok (.iload 4, 2) := by decide +kernel
theorem d7 : decode yB 7 = .ok (.if_icmp (.ge) 37, 3) := by decide +kernel
theorem d10 : decode yB 10 = .ok (.aload_n 0, 1) := by decide +kernel
theorem d11 : decode yB 11 = .ok (.iload_n 1, 1) := by decide +kernel
theorem d12 : decode yB 12 = .ok (.caload, 1) := by decide +kernel
theorem d13 : decode yB 13 = .ok (.istore 6, 2) := by decide +kernel
theorem d15 : decode yB 15 = .ok (.iload 6, 2) := by decide +kernel
theorem d17 : decode yB 17 = .ok (.sipush 255, 3) := by decide +kernel
theorem d20 : decode yB 20 = .ok (.if_icmp (.le) 6, 3) := by decide +kernel
theorem d26 : decode yB 26 = .ok (.aload_n 2, 1) := by decide +kernel
theorem d27 : decode yB 27 = .ok (.iload_n 3, 1) := by decide +kernel
theorem d28 : decode yB 28 = .ok (.iload 6, 2) := by decide +kernel
theorem d30 : decode yB 30 = .ok (.i2b, 1) := by decide +kernel
theorem d31 : decode yB 31 = .ok (.bastore, 1) := by decide +kernel
theorem d32 : decode yB 32 = .ok (.iinc 1 1, 3) := by decide +kernel
theorem d35 : decode yB 35 = .ok (.iinc 3 1, 3) := by decide +kernel
theorem d38 : decode yB 38 = .ok (.iinc 5 1, 3) := by decide +kernel
theorem d41 : decode yB 41 = .ok (.goto (-38), 3) := by decide +kernel
theorem d44 : decode yB 44 = .ok (.iload 4, 2) := by decide +kernel
theorem d46 : decode yB 46 = .ok (.ireturn, 1) := by decide +kernel
def site : List Cond := []
def tab : Cond := tabOf yN yB 7 (some .int) site
def P (b : Addr) (A : Cell) (d : Addr) (B : Cell) (o q len : Nat) (args : Array Value) (s : State) : Prop := args = #[.ref b, .int (Int32.ofNat o), .ref d, .int (Int32.ofNat q), .int (Int32.ofNat len)] ∧ Ch b A s ∧ Arr .byte d B s ∧ b ≠ d ∧ o + len ≤ A.slots.size ∧ q + len ≤ B.slots.size ∧ ∀ i, i < len → ¬ 255 < cv A (o + i)
def E (b : Addr) (A : Cell) (d : Addr) (B : Cell) (o q len : Nat) (r : Option Value) (s u : State) : Prop := r = some (.int (Int32.ofNat len)) ∧ ∃ B', Put d B' s u ∧ Laid B B' q (q + len) (fun j => Value.int (lo8 (cv A (o + (j - q)))))
/-- no char of the range above 255: len; the places written hold each char's low byte -/
theorem law (l : Launch) (b : Addr) (A : Cell) (d : Addr) (B : Cell) (o q len : Nat) : Law l yN 5 5 0 0 yB 7 (some .int) site (P b A d B o q len) (E b A d B o q len) (copyLocs d q len) 0 0 := by
  refine Law.of_walk (plainFor_of_name (by decide +kernel)) (by decide +kernel) (by decide +kernel) (by decide) (fun _ _ h => by rw [h.1]; rfl) (fun _ U U' hal hh h => ⟨h.1, h.2.1.mv hal hh, h.2.2.1.mv hal hh, h.2.2.2⟩) (fun r U U' V V' h1 hal h2 h => ⟨h.1, h.2.elim fun B' q => ⟨B', q.1.mv h1 h2, q.2⟩⟩) ?_
  intro p e s m args below meth c s₁ X0 hexec hbytes hml hret hlk hnm hown hh0 W hP
  obtain ⟨rfl, hA, hB, hne, l1, l2, hp⟩ := hP
  have c1 : Steps p.tables e below (s₁.setTop (entryFrame m #[.ref b, .int (Int32.ofNat o), .ref d, .int (Int32.ofNat q), .int (Int32.ofNat len)] 7)) (s₁.setTop (mkF m 0 #[.val (.ref b), .val (.int (Int32.ofNat o)), .val (.ref d), .val (.int (Int32.ofNat q)), .val (.int (Int32.ofNat len)), .unset, .unset] [])) := entry rfl
  have hA0 := hA.1.mv X0.warmed.alike hh0
  have hB0 := hB.mv X0.warmed.alike hh0
  have a31 := hA.1.2.2.2
  have c2 : Steps p.tables e below (s₁.setTop (entryFrame m #[.ref b, .int (Int32.ofNat o), .ref d, .int (Int32.ofNat q), .int (Int32.ofNat len)] 7)) (s₁.setTop (mkF m 3 #[.val (.ref b), .val (.int (Int32.ofNat o)), .val (.ref d), .val (.int (Int32.ofNat q)), .val (.int (Int32.ofNat len)), .val (.int 0), .unset] [])) := c1.trans (by
    refine iconstV X0.here hexec rfl 0 (hb hbytes d0) (by decide) ?_
    refine XS.istore X0.here hexec rfl (hb hbytes d1) rfl rfl ?_
    exact Steps.refl _)
  have loop : ∀ (r i : Nat), i + r = len → ∀ (z : Slot), (z = .unset ∨ ∃ w, z = .val w ∧ w.category = 1) → ∀ (Tl : State) (Bk : Cell), Stand p l e { frames := 0, locals := 0, cells := 0, slots := 0 } s m #[.ref b, .int (Int32.ofNat o), .ref d, .int (Int32.ofNat q), .int (Int32.ofNat len)] below meth c Tl ([] ++ copyLocs d q i) 0 0 → Put d Bk s₁ Tl → Laid B Bk q (q + i) (fun j => Value.int (lo8 (cv A (o + (j - q))))) →
      Steps p.tables e below (s₁.setTop (entryFrame m #[.ref b, .int (Int32.ofNat o), .ref d, .int (Int32.ofNat q), .int (Int32.ofNat len)] 7)) (Tl.setTop (mkF m 3 #[.val (.ref b), .val (.int (Int32.ofNat (o + i))), .val (.ref d), .val (.int (Int32.ofNat (q + i))), .val (.int (Int32.ofNat len)), .val (.int (Int32.ofNat i)), z] [])) → ∃ (T' : State) (B' : Cell) (z' : Slot), Stand p l e { frames := 0, locals := 0, cells := 0, slots := 0 } s m #[.ref b, .int (Int32.ofNat o), .ref d, .int (Int32.ofNat q), .int (Int32.ofNat len)] below meth c T' ([] ++ copyLocs d q len) 0 0 ∧ Put d B' s₁ T' ∧ Laid B B' q (q + len) (fun j => Value.int (lo8 (cv A (o + (j - q))))) ∧
      Steps p.tables e below (s₁.setTop (entryFrame m #[.ref b, .int (Int32.ofNat o), .ref d, .int (Int32.ofNat q), .int (Int32.ofNat len)] 7)) (T'.setTop (mkF m 3 #[.val (.ref b), .val (.int (Int32.ofNat (o + len))), .val (.ref d), .val (.int (Int32.ofNat (q + len))), .val (.int (Int32.ofNat len)), .val (.int (Int32.ofNat len)), z'] [])) := by
    intro r
    induction r with
    | zero =>
      intro i hi z hz Tl Bk Xl pl fl cl
      have hil : i = len := by omega
      rw [hil] at Xl fl cl
      exact ⟨Tl, Bk, z, Xl, pl, fl, cl⟩
    | succ r ih =>
      intro i hi z hz Tl Bk Xl pl fl cl
      have all := X0.warmed.alike.symm.trans Xl.warmed.alike
      have hAl := hA0.keep all (pl.other hne hA0.1)
      have hBk := hB0.like all pl.1 fl.1 fl.2.1 fl.2.2.1
      have hlt : q + i < Bk.slots.size := by rw [fl.2.2.1]; omega
      have c3 : Steps p.tables e below (s₁.setTop (entryFrame m #[.ref b, .int (Int32.ofNat o), .ref d, .int (Int32.ofNat q), .int (Int32.ofNat len)] 7)) (Tl.setTop (mkF m 12 #[.val (.ref b), .val (.int (Int32.ofNat (o + i))), .val (.ref d), .val (.int (Int32.ofNat (q + i))), .val (.int (Int32.ofNat len)), .val (.int (Int32.ofNat i)), z] [.int (Int32.ofNat (o + i)), .ref b])) := cl.trans (by
        refine XS.iload Xl.here hexec rfl (hb hbytes d3) rfl ?_
        refine XS.iload Xl.here hexec rfl (hb hbytes d5) rfl ?_
        refine XS.icmpNo Xl.here hexec rfl (hb hbytes d7) rfl (ii_ge_f (lt32 (by omega) (by omega))) ?_
        refine XS.aloadN Xl.here hexec rfl (hb hbytes d10) rfl rfl ?_
        refine XS.iloadN Xl.here hexec rfl (hb hbytes d11) rfl ?_
        exact Steps.refl _)
      have c4 : Steps p.tables e below (s₁.setTop (entryFrame m #[.ref b, .int (Int32.ofNat o), .ref d, .int (Int32.ofNat q), .int (Int32.ofNat len)] 7)) (Tl.setTop (mkF m 13 #[.val (.ref b), .val (.int (Int32.ofNat (o + i))), .val (.ref d), .val (.int (Int32.ofNat (q + i))), .val (.int (Int32.ofNat len)), .val (.int (Int32.ofNat i)), z] [.int (cv A (o + i))])) := c3.trans (by
        refine Xl.aget hexec hAl rfl (hA.get (i := o + i) (by omega)) rfl rfl (hb hbytes d12) ?_
        exact Steps.refl _)
      have c5 : Steps p.tables e below (s₁.setTop (entryFrame m #[.ref b, .int (Int32.ofNat o), .ref d, .int (Int32.ofNat q), .int (Int32.ofNat len)] 7)) (Tl.setTop (mkF m 15 #[.val (.ref b), .val (.int (Int32.ofNat (o + i))), .val (.ref d), .val (.int (Int32.ofNat (q + i))), .val (.int (Int32.ofNat len)), .val (.int (Int32.ofNat i)), .val (.int (cv A (o + i)))] [])) := c4.trans (by
        refine XS.istoreS Xl.here hexec rfl (hb hbytes d13) rfl rfl hz ?_
        exact Steps.refl _)
      have c6 : Steps p.tables e below (s₁.setTop (entryFrame m #[.ref b, .int (Int32.ofNat o), .ref d, .int (Int32.ofNat q), .int (Int32.ofNat len)] 7)) (Tl.setTop (mkF m 31 #[.val (.ref b), .val (.int (Int32.ofNat (o + i))), .val (.ref d), .val (.int (Int32.ofNat (q + i))), .val (.int (Int32.ofNat len)), .val (.int (Int32.ofNat i)), .val (.int (cv A (o + i)))] [.int (lo8 (cv A (o + i))), .int (Int32.ofNat (q + i)), .ref d])) := c5.trans (by
        refine XS.iload Xl.here hexec rfl (hb hbytes d15) rfl ?_
        refine sipushV Xl.here hexec rfl 255 (hb hbytes d17) (by decide) ?_
        refine XS.icmpYes Xl.here hexec rfl (pc0 := 20) rfl (hb hbytes d20) rfl (ii_le_t (hp i (by omega))) (by decide) rfl ?_
        refine XS.aloadN Xl.here hexec rfl (hb hbytes d26) rfl rfl ?_
        refine XS.iloadN Xl.here hexec rfl (hb hbytes d27) rfl ?_
        refine XS.iload Xl.here hexec rfl (hb hbytes d28) rfl ?_
        refine i2b Xl.here hexec rfl (hb hbytes d30) rfl ?_
        exact Steps.refl _)
      obtain ⟨T7, X7, p7, st7⟩ := Xl.aput hexec hBk rfl hlt rfl (fits_lo8 (cv A (o + i))) (g := (mkF m 31 #[.val (.ref b), .val (.int (Int32.ofNat (o + i))), .val (.ref d), .val (.int (Int32.ofNat (q + i))), .val (.int (Int32.ofNat len)), .val (.int (Int32.ofNat i)), .val (.int (cv A (o + i)))] [.int (lo8 (cv A (o + i))), .int (Int32.ofNat (q + i)), .ref d])) rfl (rest := []) rfl (hb hbytes d31)
      have c8 : Steps p.tables e below (s₁.setTop (entryFrame m #[.ref b, .int (Int32.ofNat o), .ref d, .int (Int32.ofNat q), .int (Int32.ofNat len)] 7)) (T7.setTop (mkF m 32 #[.val (.ref b), .val (.int (Int32.ofNat (o + i))), .val (.ref d), .val (.int (Int32.ofNat (q + i))), .val (.int (Int32.ofNat len)), .val (.int (Int32.ofNat i)), .val (.int (cv A (o + i)))] [])) := c6.trans (st7 _ (Steps.refl _))
      have c9 : Steps p.tables e below (s₁.setTop (entryFrame m #[.ref b, .int (Int32.ofNat o), .ref d, .int (Int32.ofNat q), .int (Int32.ofNat len)] 7)) (T7.setTop (mkF m 3 #[.val (.ref b), .val (.int (Int32.ofNat (o + i) + 1)), .val (.ref d), .val (.int (Int32.ofNat (q + i) + 1)), .val (.int (Int32.ofNat len)), .val (.int (Int32.ofNat i + 1)), .val (.int (cv A (o + i)))] [])) := c8.trans (by
        refine iincV X7.here hexec rfl 1 (hb hbytes d32) (by decide) rfl rfl ?_
        refine iincV X7.here hexec rfl 1 (hb hbytes d35) (by decide) rfl rfl ?_
        refine iincV X7.here hexec rfl 1 (hb hbytes d38) (by decide) rfl rfl ?_
        refine XS.goto X7.here hexec rfl (pc0 := 41) rfl (hb hbytes d41) (by decide) rfl ?_
        exact Steps.refl _)
      have c10 : Steps p.tables e below (s₁.setTop (entryFrame m #[.ref b, .int (Int32.ofNat o), .ref d, .int (Int32.ofNat q), .int (Int32.ofNat len)] 7)) (T7.setTop (mkF m 3 #[.val (.ref b), .val (.int (Int32.ofNat (o + (i + 1)))), .val (.ref d), .val (.int (Int32.ofNat (q + (i + 1)))), .val (.int (Int32.ofNat len)), .val (.int (Int32.ofNat (i + 1))), .val (.int (cv A (o + i)))] [])) := by
        have := c9
        rw [succ32, succ32, succ32] at this
        exact this
      exact ih (i + 1) (by omega) _ (Or.inr ⟨_, rfl, rfl⟩) T7 _ (by rw [copyLocs_step, ← List.append_assoc]; exact X7) (pl.trans p7) (fl.step (by omega) hlt (by simp)) c10
  obtain ⟨T9, B9, z9, X9, p9, f9, g9⟩ := loop len 0 (by omega) .unset (Or.inl rfl) s₁ B (by simpa [copyLocs] using X0) ⟨hB0.1, fun _ _ => rfl, rfl⟩ (Laid.zero _ _ _) c2
  have c11 : Steps p.tables e below (s₁.setTop (entryFrame m #[.ref b, .int (Int32.ofNat o), .ref d, .int (Int32.ofNat q), .int (Int32.ofNat len)] 7)) (T9.setTop (mkF m 46 #[.val (.ref b), .val (.int (Int32.ofNat (o + len))), .val (.ref d), .val (.int (Int32.ofNat (q + len))), .val (.int (Int32.ofNat len)), .val (.int (Int32.ofNat len)), z9] [.int (Int32.ofNat len)])) := g9.trans (by
    refine XS.iload X9.here hexec rfl (hb hbytes d3) rfl ?_
    refine XS.iload X9.here hexec rfl (hb hbytes d5) rfl ?_
    refine XS.icmpYes X9.here hexec rfl (pc0 := 7) rfl (hb hbytes d7) rfl (ii_ge_t (nlt32 (by omega) (Nat.le_refl _))) (by decide) rfl ?_
    refine XS.iload X9.here hexec rfl (hb hbytes d44) rfl ?_
    exact Steps.refl _)
  exact ⟨T9, some (.int (Int32.ofNat len)), _, _, _, X9, by simp, rfl, rfl, (fun h => by cases h), ⟨rfl, B9, p9.from hh0, f9⟩, fun fs hl => c11.trans (X9.ireturnOut hexec hret rfl (Or.inl rfl) (hb hbytes d46) hl)⟩
end Cmp5
namespace Cmp3
def yN : MethodName := ⟨"java/lang/StringUTF16", "compress", "([CII)[B"⟩
abbrev yB : ByteArray := jdk_52_method_16_code
theorem d0 : decode yB 0 = .ok (.iload_n 2, 1) := by decide +kernel
theorem d1 : decode yB 1 = .ok (.newarray .byte, 2) := by decide +kernel
theorem d3 : decode yB 3 = .ok (.astore_n 3, 1) := by decide +kernel
theorem d4 : decode yB 4 = .ok (.aload_n 0, 1) := by decide +kernel
theorem d5 : decode yB 5 = .ok (.iload_n 1, 1) := by decide +kernel
theorem d6 : decode yB 6 = .ok (.aload_n 3, 1) := by decide +kernel
theorem d7 : decode yB 7 = .ok (.iconst 0, 1) := by decide +kernel
theorem d8 : decode yB 8 = .ok (.iload_n 2, 1) := by decide +kernel
theorem d9 : decode yB 9 = .ok (.invokestatic 115, 3) := by decide +kernel
theorem d12 : decode yB 12 = .ok (.istore 4, 2) := by decide +kernel
theorem d14 : decode yB 14 = .ok (.iload 4, 2) := by decide +kernel
theorem d16 : decode yB 16 = .ok (.iload_n 2, 1) := by decide +kernel
theorem d17 : decode yB 17 = .ok (.if_icmp (.eq) 40, 3) := by decide +kernel
theorem d57 : decode yB 57 = .ok (.aload_n 3, 1) := by decide +kernel
theorem d58 : decode yB 58 = .ok (.areturn, 1) := by decide +kernel
def site : List Cond := [.arrayClass .byte, Cmp5.tab] ++ staticW U16 115 Cmp5.yN
def tab : Cond := tabOf yN yB 6 (some (.array .byte)) site
def P (b : Addr) (A : Cell) (o len : Nat) (args : Array Value) (s : State) : Prop := args = #[.ref b, .int (Int32.ofNat o), .int (Int32.ofNat len)] ∧ Ch b A s ∧ o + len ≤ A.slots.size ∧ len ≤ 536870912 ∧ ∀ i, i < len → ¬ 255 < cv A (o + i)
def E (b : Addr) (A : Cell) (o len : Nat) (r : Option Value) (s u : State) : Prop := NewArr .byte "[B" len (fun j => .int (lo8 (cv A (o + j)))) r s u ∧ u.heap.size = s.heap.size + 1
/-- no char of the range above 255: a new byte[] of their low bytes -/
theorem law (l : Launch) (b : Addr) (A : Cell) (o len : Nat) : Law l yN 3 3 1 18 yB 6 (some (.array .byte)) site (P b A o len) (E b A o len) [] 1 len := by
  refine Law.of_walk (plainFor_of_name (by decide +kernel)) (by decide +kernel) (by decide +kernel) (by decide) (fun _ _ h => by rw [h.1]; rfl) (fun _ U U' hal hh h => ⟨h.1, h.2.1.mv hal hh, h.2.2⟩) (fun r U U' V V' h1 hal h2 h => ⟨NewArr.mv r U U' V V' h1 hal h2 h.1, by rw [h1, h2]; exact h.2⟩) ?_
  intro p e s m args below meth c s₁ X0 hexec hbytes hml hret hlk hnm hown hh0 W hP
  obtain ⟨rfl, hA, l1, l2, hp⟩ := hP
  have a31 := hA.1.2.2.2
  have c1 : Steps p.tables e below (s₁.setTop (entryFrame m #[.ref b, .int (Int32.ofNat o), .int (Int32.ofNat len)] 6)) (s₁.setTop (mkF m 0 #[.val (.ref b), .val (.int (Int32.ofNat o)), .val (.int (Int32.ofNat len)), .unset, .unset, .unset] [])) := entry rfl
  have c2 : Steps p.tables e below (s₁.setTop (entryFrame m #[.ref b, .int (Int32.ofNat o), .int (Int32.ofNat len)] 6)) (s₁.setTop (mkF m 1 #[.val (.ref b), .val (.int (Int32.ofNat o)), .val (.int (Int32.ofNat len)), .unset, .unset, .unset] [.int (Int32.ofNat len)])) := c1.trans (by
    refine XS.iloadN X0.here hexec rfl (hb hbytes d0) rfl ?_
    exact Steps.refl _)
  obtain ⟨T3, B3, X3, ba3, bs3, bv3, bh3, bf3, st3⟩ := X0.anew hexec (atype := .byte) (wk W (.arrayClass .byte)) rfl (by show len * 1 ≤ _; omega) (by omega) (g := (mkF m 1 #[.val (.ref b), .val (.int (Int32.ofNat o)), .val (.int (Int32.ofNat len)), .unset, .unset, .unset] [.int (Int32.ofNat len)])) rfl (hb hbytes d1) (rest := []) rfl (Nat.le_refl _) (by show 0 + len ≤ len; omega)
  rw [hh0] at ba3 st3
  have kp3 : XT.Kept s T3 := (XT.Kept.of_eq hh0).push bh3
  have hA3 := hA.keep X3.warmed.alike (kp3 _ _ hA.1.1)
  have hne : b ≠ s.heap.size := hA.1.ne
  have c4 : Steps p.tables e below (s₁.setTop (entryFrame m #[.ref b, .int (Int32.ofNat o), .int (Int32.ofNat len)] 6)) (T3.setTop (mkF m 3 #[.val (.ref b), .val (.int (Int32.ofNat o)), .val (.int (Int32.ofNat len)), .unset, .unset, .unset] [.ref s.heap.size])) := c2.trans (st3 _ (Steps.refl _))
  have c5 : Steps p.tables e below (s₁.setTop (entryFrame m #[.ref b, .int (Int32.ofNat o), .int (Int32.ofNat len)] 6)) (T3.setTop (mkF m 9 #[.val (.ref b), .val (.int (Int32.ofNat o)), .val (.int (Int32.ofNat len)), .val (.ref s.heap.size), .unset, .unset] [.int (Int32.ofNat len), .int 0, .ref s.heap.size, .int (Int32.ofNat o), .ref b])) := c4.trans (by
    refine XS.astoreN X3.here hexec rfl (hb hbytes d3) rfl rfl rfl ?_
    refine XS.aloadN X3.here hexec rfl (hb hbytes d4) rfl rfl ?_
    refine XS.iloadN X3.here hexec rfl (hb hbytes d5) rfl ?_
    refine XS.aloadN X3.here hexec rfl (hb hbytes d6) rfl rfl ?_
    refine iconstV X3.here hexec rfl 0 (hb hbytes d7) (by decide) ?_
    refine XS.iloadN X3.here hexec rfl (hb hbytes d8) rfl ?_
    exact Steps.refl _)
  obtain ⟨v6, T6, X6, E6, g6⟩ := X3.callS hexec (Cmp5.law l b A s.heap.size B3 o 0 len) hown (wks W (staticW U16 115 Cmp5.yN)) (wk W Cmp5.tab) (W := 0) (Nat.le_of_ble_eq_true rfl) (Nat.le_of_ble_eq_true rfl) (Nat.le_refl _) (by show 0 + len + 0 ≤ len; omega) (g := (mkF m 9 #[.val (.ref b), .val (.int (Int32.ofNat o)), .val (.int (Int32.ofNat len)), .val (.ref s.heap.size), .unset, .unset] [.int (Int32.ofNat len), .int (Int32.ofNat 0), .ref s.heap.size, .int (Int32.ofNat o), .ref b])) rfl (by rw [hml]; rfl) c5 (argsL := [.ref b, .int (Int32.ofNat o), .ref s.heap.size, .int (Int32.ofNat 0), .int (Int32.ofNat len)]) (rest := []) rfl rfl (by show 2 * 0 + 0 ≤ _; decide) (hb hbytes d9) (⟨rfl, hA3, ba3, hne, l1, by rw [bs3]; simp, hp⟩)
  obtain ⟨rfl, B6, p6, f6⟩ := E6
  have c7 : Steps p.tables e below (s₁.setTop (entryFrame m #[.ref b, .int (Int32.ofNat o), .int (Int32.ofNat len)] 6)) (T6.setTop (mkF m 12 #[.val (.ref b), .val (.int (Int32.ofNat o)), .val (.int (Int32.ofNat len)), .val (.ref s.heap.size), .unset, .unset] [.int (Int32.ofNat len)])) := g6
  have c8 : Steps p.tables e below (s₁.setTop (entryFrame m #[.ref b, .int (Int32.ofNat o), .int (Int32.ofNat len)] 6)) (T6.setTop (mkF m 58 #[.val (.ref b), .val (.int (Int32.ofNat o)), .val (.int (Int32.ofNat len)), .val (.ref s.heap.size), .val (.int (Int32.ofNat len)), .unset] [.ref s.heap.size])) := c7.trans (by
    refine XS.istore X6.here hexec rfl (hb hbytes d12) rfl rfl ?_
    refine XS.iload X6.here hexec rfl (hb hbytes d14) rfl ?_
    refine XS.iloadN X6.here hexec rfl (hb hbytes d16) rfl ?_
    refine XS.icmpYes X6.here hexec rfl (pc0 := 17) rfl (hb hbytes d17) rfl (ii_eq_t rfl) (by decide) rfl ?_
    refine XS.aloadN X6.here hexec rfl (hb hbytes d57) rfl rfl ?_
    exact Steps.refl _)
  have X8 := X6.wide (L' := []) (cells' := 1) (slots' := len) (fun x hx hlt => by
    simp only [List.nil_append, copyLocs, List.mem_map, List.mem_range] at hx
    obtain ⟨i, -, rfl⟩ := hx
    exact absurd hlt (Nat.lt_irrefl _)) (Nat.le_refl _) (by omega)
  exact ⟨T6, some (.ref s.heap.size), _, _, _, X8, rfl, rfl, rfl, (fun h => by cases h), ⟨⟨rfl, B6, ba3.like (X3.warmed.alike.symm.trans X6.warmed.alike) p6.1 f6.1 f6.2.1 f6.2.2.1, f6.2.1.trans bv3, by rw [X6.warmed.alike.findClass, f6.1]; exact bf3, by rw [f6.2.2.1, bs3]; simp, fun j hj => by rw [f6.2.2.2 j, if_pos (by omega)]; rfl, kp3.put p6 (Nat.le_refl _)⟩, by rw [p6.2.2, bh3, hh0]; simp⟩, fun fs hl => c8.trans (X8.areturnOut hexec rfl hret rfl (hb hbytes d58) hl)⟩
end Cmp3
namespace CodL
def yN : MethodName := ⟨"java/lang/StringUTF16", "coderFromArrayLen", "([BI)B"⟩
abbrev yB : ByteArray := jdk_52_method_15_code
theorem d0 : decode yB 0 = .ok (.iload_n 1, 1) := by decide +kernel
theorem d1 : decode yB 1 = .ok (.aload_n 0, 1) := by decide +kernel
theorem d2 : decode yB 2 = .ok (.arraylength, 1) := by decide +kernel
theorem d3 : decode yB 3 = .ok (.isub, 1) := by decide +kernel
theorem d4 : decode yB 4 = .ok (.bipush 31, 2) := by decide +kernel
theorem d6 : decode yB 6 = .ok (.iushr, 1) := by decide +kernel
theorem d7 : decode yB 7 = .ok (.i2b, 1) := by decide +kernel
theorem d8 : decode yB 8 = .ok (.ireturn, 1) := by decide +kernel
def site : List Cond := []
def tab : Cond := tabOf yN yB 2 (some .byte) site
def P (d : Addr) (B : Cell) (args : Array Value) (s : State) : Prop := args = #[.ref d, .int (Int32.ofNat B.slots.size)] ∧ Arr .byte d B s
def E (r : Option Value) (s u : State) : Prop := XT.PureE (some (.int 0)) r s u
/-- an array as long as the number of chars: LATIN1 -/
theorem law (l : Launch) (d : Addr) (B : Cell) : Law l yN 2 2 0 0 yB 2 (some .byte) site (P d B) E [] 0 0 := by
  refine Law.of_walk (plainFor_of_name (by decide +kernel)) (by decide +kernel) (by decide +kernel) (by decide) (fun _ _ h => by rw [h.1]; rfl) (fun _ U U' hal hh h => ⟨h.1, h.2.mv hal hh⟩) (fun r U U' V V' h1 hal h2 h => XT.PureE.mv r U U' V V' h1 hal h2 h) ?_
  intro p e s m args below meth c s₁ X0 hexec hbytes hml hret hlk hnm hown hh0 W hP
  obtain ⟨rfl, hB⟩ := hP
  have hB0 := hB.mv X0.warmed.alike hh0
  have c1 : Steps p.tables e below (s₁.setTop (entryFrame m #[.ref d, .int (Int32.ofNat B.slots.size)] 2)) (s₁.setTop (mkF m 0 #[.val (.ref d), .val (.int (Int32.ofNat B.slots.size))] [])) := entry rfl
  have c2 : Steps p.tables e below (s₁.setTop (entryFrame m #[.ref d, .int (Int32.ofNat B.slots.size)] 2)) (s₁.setTop (mkF m 2 #[.val (.ref d), .val (.int (Int32.ofNat B.slots.size))] [.ref d, .int (Int32.ofNat B.slots.size)])) := c1.trans (by
    refine XS.iloadN X0.here hexec rfl (hb hbytes d0) rfl ?_
    refine XS.aloadN X0.here hexec rfl (hb hbytes d1) rfl rfl ?_
    exact Steps.refl _)
  have c3 : Steps p.tables e below (s₁.setTop (entryFrame m #[.ref d, .int (Int32.ofNat B.slots.size)] 2)) (s₁.setTop (mkF m 8 #[.val (.ref d), .val (.int (Int32.ofNat B.slots.size))] [.int (lo8 (ushr (Int32.ofNat B.slots.size - Int32.ofNat B.slots.size) 31))])) := c2.trans (by
    refine X0.alen hexec hB0 rfl rfl (hb hbytes d2) ?_
    refine XS.isub X0.here hexec rfl (hb hbytes d3) rfl ?_
    refine bipushV X0.here hexec rfl 31 (hb hbytes d4) (by decide) ?_
    refine iushr X0.here hexec rfl (hb hbytes d6) rfl ?_
    refine i2b X0.here hexec rfl (hb hbytes d7) rfl ?_
    exact Steps.refl _)
  have e0 : lo8 (ushr (Int32.ofNat B.slots.size - Int32.ofNat B.slots.size) 31) = 0 := by rw [Int32.sub_self]; decide
  rw [e0] at c3
  exact ⟨s₁, some (.int 0), _, _, _, X0, rfl, rfl, rfl, (fun h => by cases h), ⟨rfl, hh0⟩, fun fs hl => c3.trans (X0.ireturnOut hexec hret rfl (Or.inr (Or.inr (Or.inl rfl))) (hb hbytes d8) hl)⟩
end CodL
/-- the String at a is Latin-1 over a new byte[] (the heap's one new cell): the low bytes of the len chars of A from o on; every cell but a is kept -/
def Got (a : Addr) (D : Cell) (fV fC : Field) (A : Cell) (o len : Nat) (r : Option Value) (s u : State) : Prop := r = none ∧ ∃ D' V : Cell, Blank "java/lang/String" a D' u ∧ Same D D' [fV.slot, fC.slot] ∧ D'.slots[fV.slot]? = some (.ref s.heap.size) ∧ D'.slots[fC.slot]? = some (.int 0) ∧ Arr .byte s.heap.size V u ∧ V.vm = .none ∧ u.vm.findClass "[B" = some V.cls ∧ V.slots.size = len ∧ (∀ j, j < len → V.slots[j]? = some (.int (lo8 (cv A (o + j))))) ∧ (∀ (y : Addr) (c : Cell), y ≠ a → s.heap[y]? = some c → u.heap[y]? = some c) ∧ u.heap.size = s.heap.size + 1
theorem Got.mv {a : Addr} {D A : Cell} {fV fC : Field} {o len : Nat} : ∀ r (U U' V V' : State), U'.heap = U.heap → V.vm.Alike V'.vm → V'.heap = V.heap → Got a D fV fC A o len r U V → Got a D fV fC A o len r U' V' :=
  fun r U U' V V' h1 hal h2 ⟨e0, D', X, a1, a2, a3, a4, a5, a6, a7, a8, a9, a10, a11⟩ => ⟨e0, D', X, a1.mv hal h2, a2, by rw [h1]; exact a3, a4, by rw [h1]; exact a5.mv hal h2, a6, by rw [hal.findClass]; exact a7, a8, a9, by rw [h1, h2]; exact a10, by rw [h1, h2]; exact a11⟩
namespace New4
def yN : MethodName := ⟨"java/lang/String", "<init>", "([CIILjava/lang/Void;)V"⟩
abbrev yB : ByteArray := jdk_42_method_149_code
theorem d0 : decode yB 0 = .ok (.aload_n 0, 1) := by decide +kernel
theorem d1 : decode yB 1 = .ok (.invokespecial 1, 3) := by decide +kernel
theorem d4 : decode yB 4 = .ok (.iload_n 3, 1) := by decide +kernel
theorem d5 : decode yB 5 = .ok (.ifCond (.ne) 22, 3) := by decide +kernel
theorem d27 : decode yB 27 = .ok (.getstatic 38, 3) := by decide +kernel
theorem d30 : decode yB 30 = .ok (.ifCond (.eq) 28, 3) := by decide +kernel
theorem d33 : decode yB 33 = .ok (.aload_n 1, 1) := by decide +kernel
theorem d34 : decode yB 34 = .ok (.iload_n 2, 1) := by decide +kernel
theorem d35 : decode yB 35 = .ok (.iload_n 3, 1) := by decide +kernel
theorem d36 : decode yB 36 = .ok (.invokestatic 177, 3) := by decide +kernel
theorem d39 : decode yB 39 = .ok (.astore 5, 2) := by decide +kernel
theorem d41 : decode yB 41 = .ok (.aload_n 0, 1) := by decide +kernel
theorem d42 : decode yB 42 = .ok (.aload 5, 2) := by decide +kernel
theorem d44 : decode yB 44 = .ok (.iload_n 3, 1) := by decide +kernel
theorem d45 : decode yB 45 = .ok (.invokestatic 47, 3) := by decide +kernel
theorem d48 : decode yB 48 = .ok (.putfield 15, 3) := by decide +kernel
theorem d51 : decode yB 51 = .ok (.aload_n 0, 1) := by decide +kernel
theorem d52 : decode yB 52 = .ok (.aload 5, 2) := by decide +kernel
theorem d54 : decode yB 54 = .ok (.putfield 9, 3) := by decide +kernel
theorem d57 : decode yB 57 = .ok (.return_, 1) := by decide +kernel
def site : List Cond := [.fieldLink "java/lang/String" 38 "java/lang/String" "COMPACT_STRINGS" "Z", Cmp3.tab, CodL.tab, .laysFinal "java/lang/String" "java/lang/String" "value" "[B", .fieldLink "java/lang/String" 9 "java/lang/String" "value" "[B", .laysFinal "java/lang/String" "java/lang/String" "coder" "B", .fieldLink "java/lang/String" 15 "java/lang/String" "coder" "B"] ++ objW "java/lang/String" 1 ++ staticW "java/lang/String" 177 Cmp3.yN ++ staticW "java/lang/String" 47 CodL.yN
def tab : Cond := tabOf yN yB 6 none site
def P (a : Addr) (D : Cell) (fV fC : Field) (b : Addr) (A : Cell) (z : Int32) (o len : Nat) (args : Array Value) (s : State) : Prop := args = #[.ref a, .ref b, .int (Int32.ofNat o), .int (Int32.ofNat len), .null] ∧ Blank "java/lang/String" a D s ∧ Found "java/lang/String" "value" "[B" fV s ∧ Found "java/lang/String" "coder" "B" fC s ∧ Ch b A s ∧ StaticIs s "java/lang/String" "COMPACT_STRINGS" "Z" (.int z) ∧ ¬ z = 0 ∧ 0 < len ∧ o + len ≤ A.slots.size ∧ len ≤ 536870912 ∧ ∀ i, i < len → ¬ 255 < cv A (o + i)
def E (a : Addr) (D : Cell) (fV fC : Field) (A : Cell) (o len : Nat) (r : Option Value) (s u : State) : Prop := Got a D fV fC A o len r s u
/-- len > 0, no char of the range above 255: a Latin-1 String of their low bytes -/
theorem law (l : Launch) (a : Addr) (D : Cell) (fV fC : Field) (b : Addr) (A : Cell) (z : Int32) (o len : Nat) : Law l yN 5 4 2 35 yB 6 none site (P a D fV fC b A z o len) (E a D fV fC A o len) [⟨a, fC.slot⟩, ⟨a, fV.slot⟩] 1 len := by
  refine Law.of_walk (plainFor_of_name (by decide +kernel)) (by decide +kernel) (by decide +kernel) (by decide) (fun _ _ h => by rw [h.1]; rfl) (fun _ U U' hal hh h => ⟨h.1, h.2.1.mv hal hh, h.2.2.1.al hal, h.2.2.2.1.al hal, h.2.2.2.2.1.mv hal hh, h.2.2.2.2.2.1.there hal hh, h.2.2.2.2.2.2⟩) (fun r U U' V V' h1 hal h2 h => Got.mv r U U' V V' h1 hal h2 h) ?_
  intro p e s m args below meth c s₁ X0 hexec hbytes hml hret hlk hnm hown hh0 W hP
  obtain ⟨rfl, hB, f1, f2, hA, s1, hz, l0, l1, l2, hp⟩ := hP
  have a31 := hA.1.2.2.2
  have c1 : Steps p.tables e below (s₁.setTop (entryFrame m #[.ref a, .ref b, .int (Int32.ofNat o), .int (Int32.ofNat len), .null] 6)) (s₁.setTop (mkF m 0 #[.val (.ref a), .val (.ref b), .val (.int (Int32.ofNat o)), .val (.int (Int32.ofNat len)), .val .null, .unset] [])) := entry rfl
  have c2 : Steps p.tables e below (s₁.setTop (entryFrame m #[.ref a, .ref b, .int (Int32.ofNat o), .int (Int32.ofNat len), .null] 6)) (s₁.setTop (mkF m 1 #[.val (.ref a), .val (.ref b), .val (.int (Int32.ofNat o)), .val (.int (Int32.ofNat len)), .val .null, .unset] [.ref a])) := c1.trans (by
    refine XS.aloadN X0.here hexec rfl (hb hbytes d0) rfl rfl ?_
    exact Steps.refl _)
  obtain ⟨T3, X3, q3, st3⟩ := X0.oinit hexec hown (wks W (objW "java/lang/String" 1)) (g := (mkF m 1 #[.val (.ref a), .val (.ref b), .val (.int (Int32.ofNat o)), .val (.int (Int32.ofNat len)), .val .null, .unset] [.ref a])) rfl (by rw [hml]; rfl) (rest := []) rfl (hb hbytes d1) (W := 0) (by show 2 * 0 + 0 ≤ _; decide) (Nat.le_of_ble_eq_true rfl) (Nat.le_of_ble_eq_true rfl)
  have hh3 := q3.trans hh0
  have c4 : Steps p.tables e below (s₁.setTop (entryFrame m #[.ref a, .ref b, .int (Int32.ofNat o), .int (Int32.ofNat len), .null] 6)) (T3.setTop (mkF m 27 #[.val (.ref a), .val (.ref b), .val (.int (Int32.ofNat o)), .val (.int (Int32.ofNat len)), .val .null, .unset] [])) := (c2.trans (st3 _ (Steps.refl _))).trans (by
    refine XS.iloadN X3.here hexec rfl (hb hbytes d4) rfl ?_
    refine XS.ifYes X3.here hexec rfl (pc0 := 5) rfl (hb hbytes d5) rfl (i0_ne_t (nz32 (by omega) l0)) (by decide) rfl ?_
    exact Steps.refl _)
  obtain ⟨T5, X5, q5, st5⟩ := X3.sget hexec hown (wk W (.fieldLink "java/lang/String" 38 "java/lang/String" "COMPACT_STRINGS" "Z")) s1 (fun _ _ h => by rw [hh3]; exact h) (g := (mkF m 27 #[.val (.ref a), .val (.ref b), .val (.int (Int32.ofNat o)), .val (.int (Int32.ofNat len)), .val .null, .unset] [])) rfl (hb hbytes d27)
  have hh5 := q5.trans hh3
  have c6 : Steps p.tables e below (s₁.setTop (entryFrame m #[.ref a, .ref b, .int (Int32.ofNat o), .int (Int32.ofNat len), .null] 6)) (T5.setTop (mkF m 30 #[.val (.ref a), .val (.ref b), .val (.int (Int32.ofNat o)), .val (.int (Int32.ofNat len)), .val .null, .unset] [.int z])) := c4.trans (st5 _ (Steps.refl _))
  have c7 : Steps p.tables e below (s₁.setTop (entryFrame m #[.ref a, .ref b, .int (Int32.ofNat o), .int (Int32.ofNat len), .null] 6)) (T5.setTop (mkF m 36 #[.val (.ref a), .val (.ref b), .val (.int (Int32.ofNat o)), .val (.int (Int32.ofNat len)), .val .null, .unset] [.int (Int32.ofNat len), .int (Int32.ofNat o), .ref b])) := c6.trans (by
    refine XS.ifNo X5.here hexec rfl (hb hbytes d30) rfl (i0_eq_f hz) ?_
    refine XS.aloadN X5.here hexec rfl (hb hbytes d33) rfl rfl ?_
    refine XS.iloadN X5.here hexec rfl (hb hbytes d34) rfl ?_
    refine XS.iloadN X5.here hexec rfl (hb hbytes d35) rfl ?_
    exact Steps.refl _)
  obtain ⟨v8, T8, X8, E8, g8⟩ := X5.callS hexec (Cmp3.law l b A o len) hown (wks W (staticW "java/lang/String" 177 Cmp3.yN)) (wk W Cmp3.tab) (W := 0) (Nat.le_of_ble_eq_true rfl) (Nat.le_of_ble_eq_true rfl) (Nat.le_refl _) (by show 0 + len ≤ len; omega) (g := (mkF m 36 #[.val (.ref a), .val (.ref b), .val (.int (Int32.ofNat o)), .val (.int (Int32.ofNat len)), .val .null, .unset] [.int (Int32.ofNat len), .int (Int32.ofNat o), .ref b])) rfl (by rw [hml]; rfl) c7 (argsL := [.ref b, .int (Int32.ofNat o), .int (Int32.ofNat len)]) (rest := []) rfl rfl (by show 2 * 0 + 0 ≤ _; decide) (hb hbytes d36) (⟨rfl, hA.mv X5.warmed.alike hh5, l1, l2, hp⟩)
  obtain ⟨e8, z8⟩ := E8
  obtain ⟨rfl, N, n1, n2, n3, n4, n5, n6⟩ := NewArr.mv _ T5 s _ _ hh5.symm (Vm.Alike.refl _) rfl e8
  rw [hh5] at z8
  have hB1 := hB.keep X8.warmed.alike (n6 _ _ hB.1)
  have hne : s.heap.size ≠ a := (Nat.ne_of_lt (Array.getElem?_eq_some_iff.mp hB.1).1).symm
  have c9 : Steps p.tables e below (s₁.setTop (entryFrame m #[.ref a, .ref b, .int (Int32.ofNat o), .int (Int32.ofNat len), .null] 6)) (T8.setTop (mkF m 39 #[.val (.ref a), .val (.ref b), .val (.int (Int32.ofNat o)), .val (.int (Int32.ofNat len)), .val .null, .unset] [.ref s.heap.size])) := g8
  have c10 : Steps p.tables e below (s₁.setTop (entryFrame m #[.ref a, .ref b, .int (Int32.ofNat o), .int (Int32.ofNat len), .null] 6)) (T8.setTop (mkF m 45 #[.val (.ref a), .val (.ref b), .val (.int (Int32.ofNat o)), .val (.int (Int32.ofNat len)), .val .null, .val (.ref s.heap.size)] [.int (Int32.ofNat N.slots.size), .ref s.heap.size, .ref a])) := by
    have hc : Steps p.tables e below (s₁.setTop (entryFrame m #[.ref a, .ref b, .int (Int32.ofNat o), .int (Int32.ofNat len), .null] 6)) (T8.setTop (mkF m 45 #[.val (.ref a), .val (.ref b), .val (.int (Int32.ofNat o)), .val (.int (Int32.ofNat len)), .val .null, .val (.ref s.heap.size)] [.int (Int32.ofNat len), .ref s.heap.size, .ref a])) := c9.trans (by
      refine XS.astore X8.here hexec rfl (hb hbytes d39) rfl rfl rfl ?_
      refine XS.aloadN X8.here hexec rfl (hb hbytes d41) rfl rfl ?_
      refine XS.aload X8.here hexec rfl (hb hbytes d42) rfl rfl ?_
      refine XS.iloadN X8.here hexec rfl (hb hbytes d44) rfl ?_
      exact Steps.refl _)
    rw [n4]; exact hc
  obtain ⟨v11, T11, X11, E11, g11⟩ := X8.callS hexec (CodL.law l s.heap.size N) hown (wks W (staticW "java/lang/String" 47 CodL.yN)) (wk W CodL.tab) (W := 1) (Nat.le_of_ble_eq_true rfl) (Nat.le_of_ble_eq_true rfl) (Nat.le_refl _) (by show 0 + len + 0 ≤ len; omega) (g := (mkF m 45 #[.val (.ref a), .val (.ref b), .val (.int (Int32.ofNat o)), .val (.int (Int32.ofNat len)), .val .null, .val (.ref s.heap.size)] [.int (Int32.ofNat N.slots.size), .ref s.heap.size, .ref a])) rfl (by rw [hml]; rfl) c10 (argsL := [.ref s.heap.size, .int (Int32.ofNat N.slots.size)]) (rest := [.ref a]) rfl rfl (by show 2 * 0 + (1 + 0) ≤ _; decide) (hb hbytes d45) (⟨rfl, n1⟩)
  obtain ⟨rfl, q11⟩ := E11
  have hB11 := hB1.mv (X8.warmed.alike.symm.trans X11.warmed.alike) q11
  have c12 : Steps p.tables e below (s₁.setTop (entryFrame m #[.ref a, .ref b, .int (Int32.ofNat o), .int (Int32.ofNat len), .null] 6)) (T11.setTop (mkF m 48 #[.val (.ref a), .val (.ref b), .val (.int (Int32.ofNat o)), .val (.int (Int32.ofNat len)), .val .null, .val (.ref s.heap.size)] [.int 0, .ref a])) := g11
  obtain ⟨T13, X13, p13, bl13, sl13, st13⟩ := X11.finit hexec hown (wk W (.fieldLink "java/lang/String" 15 "java/lang/String" "coder" "B")) (Or.inr ⟨_, (wk W (.laysFinal "java/lang/String" "java/lang/String" "coder" "B"))⟩) (Or.inl ⟨rfl, hnm⟩) f2 (Or.inl rfl) hB11 (t := .byte) (by decide +kernel) rfl (g := (mkF m 48 #[.val (.ref a), .val (.ref b), .val (.int (Int32.ofNat o)), .val (.int (Int32.ofNat len)), .val .null, .val (.ref s.heap.size)] [.int 0, .ref a])) rfl (rest := []) rfl (hb hbytes d48)
  have c14 : Steps p.tables e below (s₁.setTop (entryFrame m #[.ref a, .ref b, .int (Int32.ofNat o), .int (Int32.ofNat len), .null] 6)) (T13.setTop (mkF m 54 #[.val (.ref a), .val (.ref b), .val (.int (Int32.ofNat o)), .val (.int (Int32.ofNat len)), .val .null, .val (.ref s.heap.size)] [.ref s.heap.size, .ref a])) := (c12.trans (st13 _ (Steps.refl _))).trans (by
    refine XS.aloadN X13.here hexec rfl (hb hbytes d51) rfl rfl ?_
    refine XS.aload X13.here hexec rfl (hb hbytes d52) rfl rfl ?_
    exact Steps.refl _)
  obtain ⟨T15, X15, p15, bl15, sl15, st15⟩ := X13.finit hexec hown (wk W (.fieldLink "java/lang/String" 9 "java/lang/String" "value" "[B")) (Or.inr ⟨_, (wk W (.laysFinal "java/lang/String" "java/lang/String" "value" "[B"))⟩) (Or.inl ⟨rfl, hnm⟩) f1 (Or.inl rfl) bl13 (t := (.array .byte)) (by decide +kernel) rfl (g := (mkF m 54 #[.val (.ref a), .val (.ref b), .val (.int (Int32.ofNat o)), .val (.int (Int32.ofNat len)), .val .null, .val (.ref s.heap.size)] [.ref s.heap.size, .ref a])) rfl (rest := []) rfl (hb hbytes d54)
  have c16 : Steps p.tables e below (s₁.setTop (entryFrame m #[.ref a, .ref b, .int (Int32.ofNat o), .int (Int32.ofNat len), .null] 6)) (T15.setTop (mkF m 57 #[.val (.ref a), .val (.ref b), .val (.int (Int32.ofNat o)), .val (.int (Int32.ofNat len)), .val .null, .val (.ref s.heap.size)] [])) := c14.trans (st15 _ (Steps.refl _))
  have ap := apart (Or.inr ⟨_, (wk W (.laysFinal "java/lang/String" "java/lang/String" "value" "[B"))⟩) (Or.inr ⟨_, (wk W (.laysFinal "java/lang/String" "java/lang/String" "coder" "B"))⟩) f1 f2 (t₁ := .array .byte) (t₂ := .byte) (by decide +kernel) (by decide +kernel) (by decide)
  have al := X8.warmed.alike.symm.trans X15.warmed.alike
  have n7 : T11.heap[s.heap.size]? = some N := by rw [q11]; exact n1.1
  exact ⟨T15, none, _, _, _, X15, by simp, rfl, by omega, (fun _ => rfl), ⟨rfl, _, N, bl15, ((Same.refl D _).set _ (by simp)).set _ (by simp), sl15, (Cell.slots_setSlot_ne _ ap).trans sl13, n1.keep al (p15.other hne (p13.other hne n7)), n2, by rw [al.findClass]; exact n3, n4, n5, fun y c h1 h2 => p15.other h1 (p13.other h1 (by rw [q11]; exact n6 y c h2)), by rw [p15.2.2, p13.2.2, q11]; exact z8⟩, fun fs hl => c16.trans (X15.returnOut hexec hret (hb hbytes d57) hl)⟩
end New4
namespace New1
def yN : MethodName := ⟨"java/lang/String", "<init>", "([C)V"⟩
abbrev yB : ByteArray := jdk_42_method_3_code
theorem d0 : decode yB 0 = .ok (.aload_n 0, 1) := by decide +kernel
theorem d1 : decode yB 1 = .ok (.aload_n 1, 1) := by decide +kernel
theorem d2 : decode yB 2 = .ok (.iconst 0, 1) := by decide +kernel
theorem d3 : decode yB 3 = .ok (.aload_n 1, 1) := by decide +kernel
theorem d4 : decode yB 4 = .ok (.arraylength, 1) := by decide +kernel
theorem d5 : decode yB 5 = .ok (.aconst_null, 1) := by decide +kernel
theorem d6 : decode yB 6 = .ok (.invokespecial 27, 3) := by decide +kernel
theorem d9 : decode yB 9 = .ok (.return_, 1) := by decide +kernel
def site : List Cond := [New4.tab] ++ initW "java/lang/String" 27 New4.yN
def tab : Cond := tabOf yN yB 2 none site
def P (a : Addr) (D : Cell) (fV fC : Field) (b : Addr) (A : Cell) (z : Int32) (args : Array Value) (s : State) : Prop := args = #[.ref a, .ref b] ∧ Blank "java/lang/String" a D s ∧ Found "java/lang/String" "value" "[B" fV s ∧ Found "java/lang/String" "coder" "B" fC s ∧ Ch b A s ∧ StaticIs s "java/lang/String" "COMPACT_STRINGS" "Z" (.int z) ∧ ¬ z = 0 ∧ 0 < A.slots.size ∧ A.slots.size ≤ 536870912 ∧ ∀ i, i < A.slots.size → ¬ 255 < cv A i
def E (a : Addr) (D : Cell) (fV fC : Field) (A : Cell) (r : Option Value) (s u : State) : Prop := Got a D fV fC A 0 A.slots.size r s u
/-- new String(chars), not empty, no char above 255: a Latin-1 String of their low bytes -/
theorem law (l : Launch) (a : Addr) (D : Cell) (fV fC : Field) (b : Addr) (A : Cell) (z : Int32) : Law l yN 2 1 3 52 yB 2 none site (P a D fV fC b A z) (E a D fV fC A) [⟨a, fC.slot⟩, ⟨a, fV.slot⟩] 1 A.slots.size := by
  refine Law.of_walk (plainFor_of_name (by decide +kernel)) (by decide +kernel) (by decide +kernel) (by decide) (fun _ _ h => by rw [h.1]; rfl) (fun _ U U' hal hh h => ⟨h.1, h.2.1.mv hal hh, h.2.2.1.al hal, h.2.2.2.1.al hal, h.2.2.2.2.1.mv hal hh, h.2.2.2.2.2.1.there hal hh, h.2.2.2.2.2.2⟩) (fun r U U' V V' h1 hal h2 h => Got.mv r U U' V V' h1 hal h2 h) ?_
  intro p e s m args below meth c s₁ X0 hexec hbytes hml hret hlk hnm hown hh0 W hP
  obtain ⟨rfl, hB, f1, f2, hA, s1, hz, l0, l2, hp⟩ := hP
  have c1 : Steps p.tables e below (s₁.setTop (entryFrame m #[.ref a, .ref b] 2)) (s₁.setTop (mkF m 0 #[.val (.ref a), .val (.ref b)] [])) := entry rfl
  have c2 : Steps p.tables e below (s₁.setTop (entryFrame m #[.ref a, .ref b] 2)) (s₁.setTop (mkF m 6 #[.val (.ref a), .val (.ref b)] [.null, .int (Int32.ofNat A.slots.size), .int 0, .ref b, .ref a])) := c1.trans (by
    refine XS.aloadN X0.here hexec rfl (hb hbytes d0) rfl rfl ?_
    refine XS.aloadN X0.here hexec rfl (hb hbytes d1) rfl rfl ?_
    refine iconstV X0.here hexec rfl 0 (hb hbytes d2) (by decide) ?_
    refine XS.aloadN X0.here hexec rfl (hb hbytes d3) rfl rfl ?_
    refine X0.alen hexec (hA.1.mv X0.warmed.alike hh0) rfl rfl (hb hbytes d4) ?_
    refine XS.aconstNull X0.here hexec rfl (hb hbytes d5) ?_
    exact Steps.refl _)
  obtain ⟨v3, T3, X3, E3, g3⟩ := X0.callN hexec (New4.law l a D fV fC b A z 0 A.slots.size) rfl hown (wks W (initW "java/lang/String" 27 New4.yN)) (W New4.tab (by simp only [site, List.mem_cons, List.mem_append, true_or, or_true])) (W := 0) (Nat.le_of_ble_eq_true rfl) (Nat.le_of_ble_eq_true rfl) (Nat.le_refl _) (by show 0 + A.slots.size ≤ A.slots.size; omega) (g := (mkF m 6 #[.val (.ref a), .val (.ref b)] [.null, .int (Int32.ofNat A.slots.size), .int (Int32.ofNat 0), .ref b, .ref a])) rfl (by rw [hml]; rfl) c2 (argsL := [.ref b, .int (Int32.ofNat 0), .int (Int32.ofNat A.slots.size), .null]) (rest := []) rfl rfl (by show 2 * 0 + 0 ≤ _; decide) (hb hbytes d6) (⟨rfl, hB.mv X0.warmed.alike hh0, f1.al X0.warmed.alike, f2.al X0.warmed.alike, hA.mv X0.warmed.alike hh0, s1.there X0.warmed.alike hh0, hz, l0, by omega, l2, fun i hi => by rw [Nat.zero_add]; exact hp i hi⟩)
  have e0 := Got.mv _ s₁ s _ _ hh0.symm (Vm.Alike.refl _) rfl E3
  obtain rfl := e0.1
  have c4 : Steps p.tables e below (s₁.setTop (entryFrame m #[.ref a, .ref b] 2)) (T3.setTop (mkF m 9 #[.val (.ref a), .val (.ref b)] [])) := g3
  exact ⟨T3, none, _, _, _, X3, by simp, rfl, by omega, (fun _ => rfl), e0, fun fs hl => c4.trans (X3.returnOut hexec hret (hb hbytes d9) hl)⟩
theorem pays {l : Launch} {R : Room} {p : Program} {e : Env} {below : List Frame} {s : State} {sargs : Array Value} {len W : Nat} (a : Addr) (D : Cell) (fV fC : Field) (b : Addr) (A : Cell) (z : Int32) (htab : tab.before sargs s = true) (hfr : 4 ≤ R.frames) (hlo : W + 65 ≤ R.locals) :
    Back l R p e below s sargs yN len W (fun A₁ a₁ => A₁.cells + 1 ≤ R.cells ∧ A₁.slots + A.slots.size ≤ R.slots ∧ P a D fV fC b A z a₁ A₁.U) (fun A₁ _ v₁ B₁ => E a D fV fC A v₁ A₁.U B₁.U ∧ B₁.locs = A₁.locs ++ [⟨a, fC.slot⟩, ⟨a, fV.slot⟩] ∧ B₁.cells = A₁.cells + 1 ∧ B₁.slots = A₁.slots + A.slots.size) :=
  (law l a D fV fC b A z).pays htab hfr (by omega)
end New1
/-- the byte, read back as charAt reads it, is the char -/
theorem lo8_mask {x : Int32} (h0 : ¬ x < 0) (h1 : ¬ 255 < x) : lo8 x &&& 255 = x := by
  have t : ∀ k : Fin 256, lo8 (Int32.ofNat k.val) &&& 255 = Int32.ofNat k.val := by decide +kernel
  rw [Int32.lt_iff_toInt_lt] at h0 h1
  have e0 : (0 : Int32).toInt = 0 := rfl
  have e1 : (255 : Int32).toInt = 255 := rfl
  obtain ⟨k, hk⟩ : ∃ k : Nat, x.toInt = k := ⟨x.toInt.toNat, by omega⟩
  have hx : x = Int32.ofNat k := Int32.toInt_inj.mp (by rw [hk, Int32.toInt_ofNat_small (by omega)])
  rw [hx]
  exact t ⟨k, by omega⟩
end StrChars
namespace StrChars.Road
open Jvm Sem ClassFile Op Lib Jvm.Stand Jvm.Free Jvm.Free.XT
open Jvm.Lib.Cold (StaticIs)
abbrev ST : String := "java/lang/String"
/-- every table word that New1's law asks, flat -/
abbrev words : List Jvm.Cond := [.code New1.yN New1.yB 2 none, .initialized ST, .methodLink ST 27 New4.yN, .instanceMethod New4.yN,
  .code New4.yN New4.yB 6 none, .fieldLink ST 38 ST "COMPACT_STRINGS" "Z", .laysFinal ST ST "value" "[B", .fieldLink ST 9 ST "value" "[B", .laysFinal ST ST "coder" "B", .fieldLink ST 15 ST "coder" "B",
  .methodLink ST 1 Lib.objectInit, .instanceMethod Lib.objectInit, .code Lib.objectInit ⟨#[0xb1]⟩ 1 none, .methodLink ST 177 Cmp3.yN, .static Cmp3.yN, .methodLink ST 47 CodL.yN, .static CodL.yN,
  .code Cmp3.yN Cmp3.yB 6 (some (.array .byte)), .initialized U16, .arrayClass .byte, .methodLink U16 115 Cmp5.yN, .static Cmp5.yN, .code Cmp5.yN Cmp5.yB 7 (some .int), .code CodL.yN CodL.yB 2 (some .byte)]
theorem tab_of {a : Array Value} {s : State} (h : ∀ w ∈ words, w.before a s = true) : New1.tab.before a s = true := by
  have h5 : Cmp5.tab.before a s = true := unparts (wk h (.code Cmp5.yN Cmp5.yB 7 (some .int))) (wks h (.initialized Cmp5.yN.cls :: Cmp5.site))
  have hc : CodL.tab.before a s = true := unparts (wk h (.code CodL.yN CodL.yB 2 (some .byte))) (wks h (.initialized CodL.yN.cls :: CodL.site))
  have q5 : ∀ w ∈ Cmp5.tab :: words, w.before a s = true := fun w hw => (List.mem_cons.mp hw).elim (fun e => e ▸ h5) (h w)
  have h3 : Cmp3.tab.before a s = true := unparts (wk q5 (.code Cmp3.yN Cmp3.yB 6 (some (.array .byte)))) (wks q5 (.initialized Cmp3.yN.cls :: Cmp3.site))
  have q3 : ∀ w ∈ Cmp3.tab :: CodL.tab :: words, w.before a s = true := fun w hw => (List.mem_cons.mp hw).elim (fun e => e ▸ h3) fun hw => (List.mem_cons.mp hw).elim (fun e => e ▸ hc) (h w)
  have h4 : New4.tab.before a s = true := unparts (wk q3 (.code New4.yN New4.yB 6 none)) (wks q3 (.initialized New4.yN.cls :: New4.site))
  have q4 : ∀ w ∈ New4.tab :: words, w.before a s = true := fun w hw => (List.mem_cons.mp hw).elim (fun e => e ▸ h4) (h w)
  exact unparts (wk q4 (.code New1.yN New1.yB 2 none)) (wks q4 (.initialized New1.yN.cls :: New1.site))
/-- the words ride from the start Z to the walk's own state -/
theorem moved {Z s : State} {a0 args : Array Value} (hZ : Z.Warmed39 s.vm) (hw : ∀ d ∈ words, d.before a0 Z = true) : ∀ d ∈ words, d.before args s = true := fun d hd => by
  have q := hw d hd
  have t : ∀ d ∈ words, d = .arrayClass .byte ∨ (d.onTables && d.keepsFace) = true := by decide +kernel
  rcases t d hd with rfl | t
  · exact RoadKit.mvA hZ q
  · exact RoadKit.mv hZ q t
/-- WHAT COMES BACK, over the tables of the start Z: h the heap at the call, h' behind it -/
def Q (Z : State) (x : Addr) (A : Cell) (h : Heap) (v : Option Value) (h' : Heap) (L : List Loc) : Prop := v = none ∧ (∀ y ∈ L, y.base = x) ∧ RoadKit.Keep h h' [x] ∧ h'.size = h.size + 1 ∧ RoadKit.Exa Z h' x ST ∧ RoadKit.Fld Z h' x ST "value" "[B" (.ref h.size) ∧ RoadKit.Fld Z h' x ST "coder" "B" (.int 0) ∧
  (∃ V : Cell, RoadKit.Arr Z h' h.size V .byte ∧ V.vm = .none ∧ Z.vm.findClass "[B" = some V.cls ∧ V.slots.size = A.slots.size ∧ ∀ j, j < A.slots.size → V.slots[j]? = some (.int (lo8 (cv A j)))) ∧
  ∀ (O n d : String) (w : Value), RoadKit.Fld Z h x O n d w → RoadKit.slotOf Z O n d ≠ RoadKit.slotOf Z ST "value" "[B" → RoadKit.slotOf Z O n d ≠ RoadKit.slotOf Z ST "coder" "B" → RoadKit.Fld Z h' x O n d w
/-- **new String(chars) AT A CALL, IN THE ROAD'S FORM**: for specialBack behind newO: x the fresh String, b the char[] with the cell A -/
theorem back {p : Program} {l : Launch} {e : Env} {R : Room} {s : State} {args : Array Value} {below : List Frame} {len W : Nat} {Z : State} {a0 : Array Value} {h : Heap} (hZ : Z.Warmed39 s.vm) (hw : ∀ d ∈ words, d.before a0 Z = true) {kI : Nat} (wi : (Jvm.Cond.instantiable ST kI).before a0 Z = true)
    {x b : Addr} {A : Cell} {z : Int32} {v0 c0 : Value} (E : RoadKit.Exa Z h x ST) (V : RoadKit.Fld Z h x ST "value" "[B" v0) (C : RoadKit.Fld Z h x ST "coder" "B" c0) (K : RoadKit.Arr Z h b A .char) (hty : Typed .char A) (S : RoadKit.Sta Z h ST "COMPACT_STRINGS" "Z" (.int z)) (hz : ¬ z = 0)
    (l0 : 0 < A.slots.size) (l2 : A.slots.size ≤ 536870912) (hp : ∀ i, i < A.slots.size → ¬ 255 < cv A i) (hfr : 4 ≤ R.frames) (hlo : W + 65 ≤ R.locals) :
    Back l R p e below s args New1.yN len W (fun P a => a = #[.ref x, .ref b] ∧ P.U.heap = h ∧ P.cells + 1 ≤ R.cells ∧ P.slots + A.slots.size ≤ R.slots)
      (fun P _ v B => ∃ L, Q Z x A h v B.U.heap L ∧ B.locs = P.locs ++ L ∧ B.cells = P.cells + 1 ∧ B.slots = P.slots + A.slots.size) := by
  intro m meth c P g ig mk a X hg hsize hdg hW hn hp'
  obtain ⟨rfl, rfl, r1, r2⟩ := hp'
  have al : Z.vm.Alike P.U.vm := hZ.alike.trans X.warmed.alike
  obtain ⟨D, cfV, kV, iV, fV, hD, gV, stV, knV, obV, asV, slV⟩ := id V
  obtain ⟨D', cfC, kC, iC, fC, hD', gC, stC, -, -, asC, slC⟩ := id C
  cases hD.symm.trans hD'
  obtain ⟨D2, kD, e1, e2, e3, e4, e5⟩ := id E
  cases hD.symm.trans e1
  obtain ⟨c2, k2, i1, i2, i3, -⟩ := Cond.instantiable_spec wi
  cases e2.symm.trans i1
  cases e3.symm.trans i2
  obtain ⟨kU, u1, u2⟩ := al.2.2 _ _ e3
  have hB : Blank ST x D P.U := ⟨hD, ⟨knV, fun q hq => by rw [hq] at obV; cases obV⟩, by rw [al.findClass]; exact e2, kU, u1, by rw [u2]; exact i3, by rw [u2]; exact e5 i3⟩
  have F1 : Found ST "value" "[B" fV P.U := ⟨SBG.found_only al ⟨cfV, kV, iV, gV⟩, stV⟩
  have F2 : Found ST "coder" "B" fC P.U := ⟨SBG.found_only al ⟨cfC, kC, iC, gC⟩, stC⟩
  have hA : Ch b A P.U := ⟨⟨K.1, State.isArrayOf_alike al K.2.1, K.2.2, by omega⟩, hty⟩
  have hS : StaticIs P.U ST "COMPACT_STRINGS" "Z" (.int z) := by
    obtain ⟨cfS, iS, kS, fS, st, cS, t1, t2, t3, t4, t5, t6, t7⟩ := S
    exact StaticIs.there (s := { Z with heap := P.U.heap }) ⟨cfS, iS, kS, fS, st, cS, t1, t2, t3, t4, t5, (fun q => by rw [q] at t6; cases t6), t7⟩ al rfl
  obtain ⟨v, B, X', ⟨⟨hv, E', V', q1, q2, q3, q4, q5, q6, q7, q8, q9, q10, q11⟩, hl, hc, hs⟩, st⟩ := New1.pays x D fV fC b A z (tab_of (moved hZ hw)) hfr hlo m meth c P g ig mk _ X hg hsize hdg hW hn ⟨r1, r2, rfl, hB, F1, F2, hA, hS, hz, l0, l2, hp⟩
  have al' : Z.vm.Alike B.U.vm := hZ.alike.trans X'.warmed.alike
  have hsz : E'.slots.size = D.slots.size := by
    obtain ⟨-, -, -, kB, w1, w2, w3⟩ := q1
    obtain ⟨kB', y1, y2⟩ := al'.2.2 _ _ e3
    rw [q2.2.1] at w1
    cases w1.symm.trans y1
    rw [w3, e5 i3, y2]
  refine ⟨v, B, X', ⟨_, ⟨hv, ?_, ⟨by omega, fun y cy hy hn' => q10 y cy (by simpa using hn') hy, fun y cy hy => ?_⟩, q11, ⟨E', _, q1.1, by rw [q2.2.1]; exact e2, by rw [q2.2.1]; exact e3, by rw [q2.1]; exact obV, fun _ => by rw [hsz]; exact e5 i3⟩,
    ⟨E', cfV, kV, iV, fV, q1.1, gV, stV, by rw [q2.1]; exact knV, by rw [q2.1]; exact obV, by rw [q2.2.1]; exact asV, q3⟩, ⟨E', cfC, kC, iC, fC, q1.1, gC, stC, by rw [q2.1]; exact knV, by rw [q2.1]; exact obV, by rw [q2.2.1]; exact asC, q4⟩,
    ⟨V', ⟨q5.1, State.isArrayOf_alike al'.symm q5.2.1, q5.2.2.1⟩, q6, by rw [← al'.findClass]; exact q7, q8, fun j hj => by have := q9 j hj; rwa [Nat.zero_add] at this⟩, fun O n d w F n1 n2 => ?_⟩, hl, hc, hs⟩, st⟩
  · intro y hy
    simp only [List.mem_cons, List.not_mem_nil, or_false] at hy
    rcases hy with rfl | rfl <;> rfl
  · by_cases q : y = x
    · subst q
      cases hD.symm.trans hy
      exact ⟨E', q1.1, q2.2.1, q2.1, hsz⟩
    · exact ⟨cy, q10 y cy q hy, rfl, rfl, rfl⟩
  · obtain ⟨D3, cf, k, i, f, g1, g2, g3, g4, g5, g6, g7⟩ := F
    cases hD.symm.trans g1
    simp only [RoadKit.slotOf, g2, gV, gC, Option.map_some, Option.getD_some] at n1 n2
    exact ⟨E', cf, k, i, f, q1.1, g2, g3, by rw [q2.1]; exact g4, by rw [q2.1]; exact g5, by rw [q2.2.1]; exact g6, by rw [q2.2.2 f.slot (by simp [n1, n2])]; exact g7⟩
end StrChars.Road
namespace StrChars.Road
open Jvm Sem ClassFile Op Lib Jvm.Stand Jvm.Free Jvm.Free.XT
/-- WHAT COMES BACK, the byte[] as a list of values -/
def QA (Z : State) (x : Addr) (zn : Int32) (cs : List Int32) (h : Heap) (v : Option Value) (h' : Heap) (L : List Loc) : Prop := v = none ∧ (∀ y ∈ L, y.base = x) ∧ RoadKit.Keep h h' [x] ∧ h'.size = h.size + 1 ∧ RoadKit.Exa Z h' x ST ∧ RoadKit.Fld Z h' x ST "value" "[B" (.ref h.size) ∧ RoadKit.Fld Z h' x ST "coder" "B" (.int 0) ∧
  (∃ kb, Z.vm.findClass "[B" = some kb ∧ RoadKit.Arv Z h' h.size kb .byte zn (cs.map fun c => .int (lo8 c)) (.int 0)) ∧
  ∀ (O n d : String) (w : Value), RoadKit.Fld Z h x O n d w → RoadKit.slotOf Z O n d ≠ RoadKit.slotOf Z ST "value" "[B" → RoadKit.slotOf Z O n d ≠ RoadKit.slotOf Z ST "coder" "B" → RoadKit.Fld Z h' x O n d w
/-- **new String(chars) AT A CALL, THE ARRAYS AS LISTS**: the char[] at b holds cs, not empty, no char above 255 -/
theorem backArv {p : Program} {l : Launch} {e : Env} {R : Room} {s : State} {args : Array Value} {below : List Frame} {len W : Nat} {Z : State} {a0 : Array Value} {h : Heap} (hZ : Z.Warmed39 s.vm) (hw : ∀ d ∈ words, d.before a0 Z = true) {kI : Nat} (wi : (Jvm.Cond.instantiable ST kI).before a0 Z = true)
    {x b : Addr} {k : ClassId} {zn z : Int32} {cs : List Int32} {dv v0 c0 : Value} (E : RoadKit.Exa Z h x ST) (V : RoadKit.Fld Z h x ST "value" "[B" v0) (C : RoadKit.Fld Z h x ST "coder" "B" c0) (K : RoadKit.Arv Z h b k .char zn (cs.map Value.int) dv) (S : RoadKit.Sta Z h ST "COMPACT_STRINGS" "Z" (.int z)) (hz : ¬ z = 0)
    (hlen : zn.toNatClampNeg = cs.length) (h0 : 0 < cs.length) (hbig : cs.length ≤ 536870912) (hall : ∀ c ∈ cs, ¬ 255 < c) (hfr : 4 ≤ R.frames) (hlo : W + 65 ≤ R.locals) :
    Back l R p e below s args New1.yN len W (fun P a => a = #[.ref x, .ref b] ∧ P.U.heap = h ∧ P.cells + 1 ≤ R.cells ∧ P.slots + cs.length ≤ R.slots)
      (fun P _ v B => ∃ L, QA Z x zn cs h v B.U.heap L ∧ B.locs = P.locs ++ L ∧ B.cells = P.cells + 1 ∧ B.slots = P.slots + cs.length) := by
  obtain ⟨A, K1, K2, K3, K4, K5, K6⟩ := K
  have e : A.slots.size = cs.length := K3.trans hlen
  have hat : ∀ (i : Nat) (hi : i < cs.length), A.slots[i]? = some (.int cs[i]) := fun i hi => by rw [K5 i (by omega)]; simp [List.getD_eq_getElem?_getD, hi]
  have hcv : ∀ (i : Nat) (hi : i < cs.length), cv A i = cs[i] := fun i hi => by unfold cv; rw [hat i hi]
  have hty : Typed .char A := fun i v hv => by
    have hi : i < A.slots.size := (Array.getElem?_eq_some_iff.mp hv).1
    have q := K5 i hi
    rw [hv] at q
    rw [Option.some.inj q]
    exact K6 i hi
  refine Back.mono (back hZ hw wi E V C K1 hty S hz (by omega) (by omega) (fun i hi => by rw [hcv i (by omega)]; exact hall _ (List.getElem_mem _)) hfr hlo) (fun P a hp => ⟨hp.1, hp.2.1, hp.2.2.1, by rw [e]; exact hp.2.2.2⟩) (fun P a v B hp hq => ?_)
  obtain ⟨L, ⟨q1, q2, q3, q4, q5, q6, q7, ⟨V', v1, v2, v3, v4, v5⟩, q9⟩, hl, hc, hs⟩ := hq
  refine ⟨L, ⟨q1, q2, q3, q4, q5, q6, q7, ⟨V'.cls, v3, V', v1, rfl, by rw [v4, e, hlen], K4, fun i hi => ?_, fun i hi => ?_⟩, q9⟩, hl, hc, by rw [hs, e]⟩
  · have hi' : i < cs.length := by omega
    rw [v5 i (by omega), hcv i hi']; simp [List.getD_eq_getElem?_getD, hi']
  · have hi' : i < cs.length := by omega
    simp only [List.getD_eq_getElem?_getD, List.getElem?_map, List.getElem?_eq_getElem hi', Option.map_some, Option.getD_some]
    exact fits_lo8 _
end StrChars.Road
namespace StrChars.Road
open Jvm Sem ClassFile Op Lib Jvm.Stand Jvm.Free Jvm.Free.XT
/-- WHAT COMES BACK, in the writer's own shape -/
def QV (Z : State) (x : Addr) (N : Int32) (bs : List Int32) (h : Heap) (n0 : Nat) (v : Option Value) (h' : Heap) (L : List Loc) : Prop := v = none ∧ RoadKit.Fr n0 L ∧ RoadKit.Keep h h' [x] ∧ RoadKit.Exa Z h' x ST ∧ RoadKit.Fld Z h' x ST "coder" "B" (.int 0) ∧
  ∃ (t : Addr) (kb : ClassId), n0 ≤ t ∧ h.size ≤ t ∧ ¬ t = x ∧ RoadKit.Fld Z h' x ST "value" "[B" (.ref t) ∧ RoadKit.Arv Z h' t kb .byte N (bs.map Value.int) (.int 0)
/-- **new String(chars) AT A CALL, FOR THE WRITER**: a char[] of n known ints, each 0 to 255 -/
theorem backV {p : Program} {l : Launch} {e : Env} {R : Room} {s : State} {args : Array Value} {below : List Frame} {len W : Nat} {Z : State} {a0 : Array Value} {h : Heap} (hZ : Z.Warmed39 s.vm) (hw : ∀ d ∈ words, d.before a0 Z = true) {kI : Nat} (wi : (Jvm.Cond.instantiable ST kI).before a0 Z = true)
    {x b : Addr} {kC : ClassId} {cs bs : List Int32} {d v0 c0 : Value} {z N : Int32} {n n0 : Nat} (hx0 : n0 ≤ x) (hh0 : n0 ≤ h.size) (E : RoadKit.Exa Z h x ST) (V : RoadKit.Fld Z h x ST "value" "[B" v0) (C : RoadKit.Fld Z h x ST "coder" "B" c0) (K : RoadKit.Arv Z h b kC .char N (cs.map Value.int) d) (S : RoadKit.Sta Z h ST "COMPACT_STRINGS" "Z" (.int z)) (hz : ¬ z = 0)
    (hn : cs.length = n) (hN : N = Int32.ofNat n) (l0 : 0 < n) (l2 : n ≤ 4000) (hp : ∀ c ∈ cs, ¬ c < 0 ∧ ¬ (255 : Int32) < c) (hb : bs = cs.map (fun c => c.toInt8.toInt32)) (hfr : 4 ≤ R.frames) (hlo : W + 65 ≤ R.locals) :
    Back l R p e below s args (⟨"java/lang/String", "<init>", "([C)V"⟩ : MethodName) len W (fun P a => a = #[.ref x, .ref b] ∧ P.U.heap = h ∧ P.cells + 1 ≤ R.cells ∧ P.slots + n ≤ R.slots)
      (fun P _ v B => ∃ L, QV Z x N bs h n0 v B.U.heap L ∧ B.locs = P.locs ++ L ∧ B.cells = P.cells + 1 ∧ B.slots = P.slots + n) := by
  subst hn hN hb
  refine Back.mono (backArv hZ hw wi E V C K S hz (n32 (by omega)) l0 (by omega) (fun c hc => (hp c hc).2) hfr hlo) (fun P a hp => hp) (fun P a v B hp hq => ?_)
  obtain ⟨L, ⟨q1, q2, q3, q4, q5, q6, q7, ⟨kb, v1, v2⟩, q9⟩, hl, hc, hs⟩ := hq
  exact ⟨L, ⟨q1, fun y hy => by rw [q2 y hy]; exact hx0, q3, q5, q7, h.size, kb, hh0, Nat.le_refl _, Nat.ne_of_gt E.lt, q6, by rw [List.map_map]; exact v2⟩, hl, hc, hs⟩
end StrChars.Road
namespace StrChars
open Jvm Sem ClassFile Op Lib Jvm.Stand Jvm.Free.XT Jvm.Free.ALB Jvm.Free.JM Jvm.Free
open Jvm.Lib.Cold (StaticIs)
def hi8 (x : Int32) : Int32 := lo8 (x >>> ((8 : Int32) &&& 31))
/-- what StringUTF16.getChar makes of two bytes -/
def pairCh (u v : Int32) : Int32 := (((u &&& 255) <<< ((0 : Int32) &&& 31)) ||| ((v &&& 255) <<< ((8 : Int32) &&& 31))).toUInt32.toUInt16.toUInt32.toInt32
theorem shr0 (c : Int32) : c >>> ((0 : Int32) &&& 31) = c := by
  have e : ((0 : Int32) &&& 31) = 0 := by decide
  rw [e]
  apply Int32.toBitVec_inj.mp
  rw [Int32.toBitVec_shiftRight]
  have e1 : ((0 : Int32).toBitVec.smod 32) = 0#32 := by decide
  rw [e1, BitVec.sshiftRight_eq']
  exact BitVec.sshiftRight_zero
theorem lo8_and (x : Int32) : (lo8 x &&& 255).toBitVec.toNat = x.toBitVec.toNat % 256 := by
  have h : (lo8 x).toBitVec = (x.toBitVec.signExtend 8).signExtend 32 := by rw [lo8, Int8.toBitVec_toInt32, Int32.toBitVec_toInt8]
  rw [Int32.toBitVec_and, BitVec.toNat_and, h]
  have e : ((x.toBitVec.signExtend 8).signExtend 32).toNat % 256 = x.toBitVec.toNat % 256 := by
    rw [BitVec.toNat_signExtend]
    have hlt := x.toBitVec.isLt
    simp only [BitVec.toNat_setWidth, BitVec.toNat_signExtend]
    split <;> split <;> omega
  rw [← e]
  exact Nat.and_two_pow_sub_one_eq_mod _ 8
theorem pair_says {c : Int32} (h0 : ¬ c < 0) (h1 : ¬ 65535 < c) : pairCh (lo8 c) (hi8 c) = c := by
  rw [Int32.lt_iff_toInt_lt] at h0 h1
  have e0 : (0 : Int32).toInt = 0 := rfl
  have e1 : (65535 : Int32).toInt = 65535 := rfl
  have hc : c.toInt = c.toBitVec.toNat := by
    have := c.toBitVec.isLt
    have e : c.toInt = c.toBitVec.toInt := rfl
    rw [e] at h0 h1
    rw [e]
    rw [BitVec.toInt_eq_toNat_cond] at h0 h1 ⊢
    split at h0 <;> split <;> omega
  have hn : c.toBitVec.toNat < 65536 := by omega
  have a1 := lo8_and c
  have a2 : (hi8 c &&& 255).toBitVec.toNat = c.toBitVec.toNat / 256 := by
    rw [hi8, lo8_and]
    have e : ((8 : Int32) &&& 31) = 8 := by decide
    rw [e, Int32.toBitVec_shiftRight]
    have e2 : ((8 : Int32).toBitVec.smod 32) = 8#32 := by decide
    rw [e2, BitVec.sshiftRight_eq', BitVec.toNat_sshiftRight_of_msb_false (by rw [BitVec.msb_eq_false_iff_two_mul_lt]; omega)]
    show c.toBitVec.toNat >>> 8 % 256 = _
    rw [Nat.shiftRight_eq_div_pow]
    omega
  unfold pairCh
  apply Int32.toBitVec_inj.mp
  apply BitVec.eq_of_toNat_eq
  have f0 : ((0 : Int32) &&& 31) = 0 := by decide
  have f8 : ((8 : Int32) &&& 31) = 8 := by decide
  rw [f0, f8]
  have g : (((lo8 c &&& 255) <<< (0 : Int32)) ||| ((hi8 c &&& 255) <<< (8 : Int32))).toBitVec.toNat = c.toBitVec.toNat := by
    rw [Int32.toBitVec_or, Int32.toBitVec_shiftLeft, Int32.toBitVec_shiftLeft]
    have s0 : ((0 : Int32).toBitVec.smod 32) = 0#32 := by decide
    have s8 : ((8 : Int32).toBitVec.smod 32) = 8#32 := by decide
    rw [s0, s8, BitVec.toNat_or]
    simp only [BitVec.shiftLeft_eq', BitVec.toNat_shiftLeft, a1, a2]
    show (c.toBitVec.toNat % 256) <<< 0 % 2 ^ 32 ||| (c.toBitVec.toNat / 256) <<< 8 % 2 ^ 32 = _
    rw [Nat.shiftLeft_zero, Nat.mod_eq_of_lt (show c.toBitVec.toNat % 256 < 2 ^ 32 by omega), Nat.mod_eq_of_lt (show (c.toBitVec.toNat / 256) <<< 8 < 2 ^ 32 by rw [Nat.shiftLeft_eq]; omega), Nat.or_comm, ← Nat.shiftLeft_add_eq_or_of_lt (by omega), Nat.shiftLeft_eq]
    omega
  show BitVec.toNat (((((lo8 c &&& 255) <<< (0 : Int32)) ||| ((hi8 c &&& 255) <<< (8 : Int32))).toBitVec.setWidth 16).setWidth 32) = _
  rw [BitVec.toNat_setWidth, BitVec.toNat_setWidth, g]
  omega
end StrChars
namespace StrChars
open Jvm Sem ClassFile Op Lib Jvm.Stand Jvm.Free.XT Jvm.Free.ALB Jvm.Free.JM Jvm.Free
open Jvm.Lib.Cold (StaticIs)
theorem shr1 {n : Nat} (h : 2 * n < 2 ^ 31) : Int32.ofNat (2 * n) >>> ((1 : Int32) &&& 31) = Int32.ofNat n := by
  have e : ((1 : Int32) &&& 31) = 1 := by decide
  rw [e]
  apply Int32.toBitVec_inj.mp
  rw [Int32.toBitVec_shiftRight]
  have e1 : ((1 : Int32).toBitVec.smod 32) = 1#32 := by decide
  have hm : (BitVec.ofNat 32 (2 * n)).toNat = 2 * n := by rw [BitVec.toNat_ofNat, Nat.mod_eq_of_lt (by omega)]
  rw [e1, BitVec.sshiftRight_eq']
  apply BitVec.eq_of_toNat_eq
  show ((BitVec.ofNat 32 (2 * n)).sshiftRight 1).toNat = (BitVec.ofNat 32 n).toNat
  rw [BitVec.toNat_sshiftRight_of_msb_false (by rw [BitVec.msb_eq_false_iff_two_mul_lt, hm]; omega), hm, BitVec.toNat_ofNat, Nat.shiftRight_eq_div_pow]
  omega
/-- charAt's cast of a byte read back -/
def chr8 (u : Int32) : Int32 := (u &&& 255).toUInt32.toUInt16.toUInt32.toInt32
theorem chr8_lo8 {c : Int32} (h0 : ¬ c < 0) (h1 : ¬ 255 < c) : chr8 (lo8 c) = c := by
  have t : ∀ k : Fin 256, (Int32.ofNat k.val).toUInt32.toUInt16.toUInt32.toInt32 = Int32.ofNat k.val := by decide +kernel
  unfold chr8
  rw [lo8_mask h0 h1]
  rw [Int32.lt_iff_toInt_lt] at h0 h1
  have e0 : (0 : Int32).toInt = 0 := rfl
  have e1 : (255 : Int32).toInt = 255 := rfl
  obtain ⟨k, hk⟩ : ∃ k : Nat, c.toInt = k := ⟨c.toInt.toNat, by omega⟩
  have hx : c = Int32.ofNat k := Int32.toInt_inj.mp (by rw [hk, Int32.toInt_ofNat_small (by omega)])
  rw [hx]
  exact t ⟨k, by omega⟩
theorem narrow_ch {c : Int32} (h0 : ¬ c < 0) (h1 : ¬ 65535 < c) : narrow .char (.int c) = .int c := by
  have q : narrow .char (.int (pairCh (lo8 c) (hi8 c))) = .int (pairCh (lo8 c) (hi8 c)) := narrow_c _
  rwa [pair_says h0 h1] at q
/-- the array's cell V codes the n chars f 0 .. f (n - 1) by the coder cd, as the JDK does: coder 1 just where some char is above 255 -/
def Cod (cd : Int32) (n : Nat) (f : Nat → Int32) (V : Cell) : Prop := (cd = 0 ∧ V.slots.size = n ∧ ∀ j, j < n → V.slots[j]? = some (.int (lo8 (f j))) ∧ ¬ 255 < f j) ∨ (cd = 1 ∧ V.slots.size = 2 * n ∧ (∀ j, j < n → V.slots[2 * j]? = some (.int (lo8 (f j))) ∧ V.slots[2 * j + 1]? = some (.int (hi8 (f j)))) ∧ ∃ j, j < n ∧ 255 < f j)
theorem Cod.cd {cd : Int32} {n : Nat} {f : Nat → Int32} {V : Cell} (h : Cod cd n f V) : cd = 0 ∨ cd = 1 := h.imp (fun q => q.1) fun q => q.1
theorem Cod.len {cd : Int32} {n : Nat} {f : Nat → Int32} {V : Cell} (h : Cod cd n f V) (hs : V.slots.size < 2 ^ 31) : Int32.ofNat V.slots.size >>> (cd &&& 31) = Int32.ofNat n := by
  rcases h with ⟨rfl, h, -⟩ | ⟨rfl, h, -⟩
  · rw [shr0, h]
  · rw [h, shr1 (by omega)]
/-- **x is a String of the n chars f 0 .. f (n - 1)**, Latin-1 or UTF-16; its array at t has the cell V -/
def Txt (x t : Addr) (V : Cell) (cd : Int32) (n : Nat) (f : Nat → Int32) (U : State) : Prop := Exact "java/lang/String" x U ∧ Has x "java/lang/String" "value" "[B" (.ref t) U ∧ Has x "java/lang/String" "coder" "B" (.int cd) U ∧ XT.Arr .byte t V U ∧ Cod cd n f V ∧ ∀ j, j < n → ¬ f j < 0 ∧ ¬ 65535 < f j
theorem Txt.mv {x t : Addr} {V : Cell} {cd : Int32} {n : Nat} {f : Nat → Int32} {U U' : State} (h : Txt x t V cd n f U) (hal : U.vm.Alike U'.vm) (hh : U'.heap = U.heap) : Txt x t V cd n f U' := ⟨h.1.mv hal hh, h.2.1.mv hal hh, h.2.2.1.mv hal hh, h.2.2.2.1.mv hal hh, h.2.2.2.2⟩
namespace Cdr
def yN : MethodName := ⟨"java/lang/String", "coder", "()B"⟩
abbrev yB : ByteArray := jdk_42_method_152_code
theorem d0 : decode yB 0 = .ok (.getstatic 38, 3) := by decide +kernel
theorem d3 : decode yB 3 = .ok (.ifCond (.eq) 10, 3) := by decide +kernel
theorem d6 : decode yB 6 = .ok (.aload_n 0, 1) := by decide +kernel
theorem d7 : decode yB 7 = .ok (.getfield 15, 3) := by decide +kernel
theorem d10 : decode yB 10 = .ok (.goto 4, 3) := by decide +kernel
theorem d14 : decode yB 14 = .ok (.ireturn, 1) := by decide +kernel
def site : List Cond := [.fieldLink "java/lang/String" 38 "java/lang/String" "COMPACT_STRINGS" "Z", .fieldLink "java/lang/String" 15 "java/lang/String" "coder" "B"]
def tab : Cond := tabOf yN yB 1 (some .byte) site
def P (x : Addr) (cd z : Int32) (args : Array Value) (s : State) : Prop := args = #[.ref x] ∧ Has x "java/lang/String" "coder" "B" (.int cd) s ∧ (cd = 0 ∨ cd = 1) ∧ StaticIs s "java/lang/String" "COMPACT_STRINGS" "Z" (.int z) ∧ ¬ z = 0
def E (cd : Int32) (r : Option Value) (s u : State) : Prop := XT.PureE (some (.int cd)) r s u
theorem law (l : Launch) (x : Addr) (cd z : Int32) : Law l yN 1 0 0 0 yB 1 (some .byte) site (P x cd z) (E cd) [] 0 0 := by
  refine Law.of_walk (plainFor_of_name (by decide +kernel)) (by decide +kernel) (by decide +kernel) (by decide) (fun _ _ h => by rw [h.1]; rfl) (fun _ U U' hal hh h => ⟨h.1, h.2.1.mv hal hh, h.2.2.1, h.2.2.2.1.there hal hh, h.2.2.2.2⟩) (fun r U U' V V' h1 hal h2 h => XT.PureE.mv r U U' V V' h1 hal h2 h) ?_
  intro p e s m args below meth c s₁ X0 hexec hbytes hml hret hlk hnm hown hh0 W hP
  obtain ⟨rfl, hx, hc, s1, hz⟩ := hP
  have c1 : Steps p.tables e below (s₁.setTop (entryFrame m #[.ref x] 1)) (s₁.setTop (mkF m 0 #[.val (.ref x)] [])) := entry rfl
  obtain ⟨T2, X2, q2, st2⟩ := X0.sget hexec hown (wk W (.fieldLink "java/lang/String" 38 "java/lang/String" "COMPACT_STRINGS" "Z")) s1 (fun _ _ h => by rw [hh0]; exact h) (g := (mkF m 0 #[.val (.ref x)] [])) rfl (hb hbytes d0)
  have hh2 := q2.trans hh0
  have c3 : Steps p.tables e below (s₁.setTop (entryFrame m #[.ref x] 1)) (T2.setTop (mkF m 7 #[.val (.ref x)] [.ref x])) := (c1.trans (st2 _ (Steps.refl _))).trans (by
    refine XS.ifNo X2.here hexec rfl (hb hbytes d3) rfl (i0_eq_f hz) ?_
    refine XS.aloadN X2.here hexec rfl (hb hbytes d6) rfl rfl ?_
    exact Steps.refl _)
  obtain ⟨T4, X4, q4, st4⟩ := X2.hget hexec hown (wk W (.fieldLink "java/lang/String" 15 "java/lang/String" "coder" "B")) (hx.mv X2.warmed.alike hh2) (g := (mkF m 7 #[.val (.ref x)] [.ref x])) rfl (rest := []) rfl (hb hbytes d7)
  have c5 : Steps p.tables e below (s₁.setTop (entryFrame m #[.ref x] 1)) (T4.setTop (mkF m 14 #[.val (.ref x)] [.int cd])) := (c3.trans (st4 _ (Steps.refl _))).trans (by
    refine XS.goto X4.here hexec rfl (pc0 := 10) rfl (hb hbytes d10) (by decide) rfl ?_
    exact Steps.refl _)
  exact ⟨T4, some (.int cd), _, _, _, X4, rfl, rfl, rfl, (fun h => by cases h), ⟨rfl, q4.trans hh2⟩, fun fs hl => c5.trans (X4.ireturnOut hexec hret (by rcases hc with rfl | rfl <;> rfl) (Or.inr (Or.inr (Or.inl rfl))) (hb hbytes d14) hl)⟩
end Cdr
namespace Len
def yN : MethodName := ⟨"java/lang/String", "length", "()I"⟩
abbrev yB : ByteArray := jdk_42_method_54_code
theorem d0 : decode yB 0 = .ok (.aload_n 0, 1) := by decide +kernel
theorem d1 : decode yB 1 = .ok (.getfield 9, 3) := by decide +kernel
theorem d4 : decode yB 4 = .ok (.arraylength, 1) := by decide +kernel
theorem d5 : decode yB 5 = .ok (.aload_n 0, 1) := by decide +kernel
theorem d6 : decode yB 6 = .ok (.invokevirtual 335, 3) := by decide +kernel
theorem d9 : decode yB 9 = .ok (.ishr, 1) := by decide +kernel
theorem d10 : decode yB 10 = .ok (.ireturn, 1) := by decide +kernel
def site : List Cond := [.fieldLink "java/lang/String" 9 "java/lang/String" "value" "[B", Cdr.tab] ++ virtW "java/lang/String" 335 "java/lang/String" Cdr.yN Cdr.yN
def tab : Cond := tabOf yN yB 1 (some .int) site
def P (x t : Addr) (V : Cell) (cd : Int32) (n : Nat) (f : Nat → Int32) (z : Int32) (args : Array Value) (s : State) : Prop := args = #[.ref x] ∧ Txt x t V cd n f s ∧ StaticIs s "java/lang/String" "COMPACT_STRINGS" "Z" (.int z) ∧ ¬ z = 0
def E (n : Nat) (r : Option Value) (s u : State) : Prop := XT.PureE (some (.int (Int32.ofNat n))) r s u
/-- length() of a String of n chars, in either coding -/
theorem law (l : Launch) (x t : Addr) (V : Cell) (cd : Int32) (n : Nat) (f : Nat → Int32) (z : Int32) : Law l yN 1 0 1 13 yB 1 (some .int) site (P x t V cd n f z) (E n) [] 0 0 := by
  refine Law.of_walk (plainFor_of_name (by decide +kernel)) (by decide +kernel) (by decide +kernel) (by decide) (fun _ _ h => by rw [h.1]; rfl) (fun _ U U' hal hh h => ⟨h.1, h.2.1.mv hal hh, h.2.2.1.there hal hh, h.2.2.2⟩) (fun r U U' V V' h1 hal h2 h => XT.PureE.mv r U U' V V' h1 hal h2 h) ?_
  intro p e s m args below meth c s₁ X0 hexec hbytes hml hret hlk hnm hown hh0 W hP
  obtain ⟨rfl, hx, s1, hz⟩ := hP
  have v31 := hx.2.2.2.1.2.2.2
  have c1 : Steps p.tables e below (s₁.setTop (entryFrame m #[.ref x] 1)) (s₁.setTop (mkF m 1 #[.val (.ref x)] [.ref x])) := Steps.trans (entry rfl) (by
    show Steps p.tables e below (s₁.setTop (mkF m 0 #[.val (.ref x)] [])) _
    refine XS.aloadN X0.here hexec rfl (hb hbytes d0) rfl rfl ?_
    exact Steps.refl _)
  obtain ⟨T2, X2, q2, st2⟩ := X0.hget hexec hown (wk W (.fieldLink "java/lang/String" 9 "java/lang/String" "value" "[B")) (hx.mv X0.warmed.alike hh0).2.1 (g := (mkF m 1 #[.val (.ref x)] [.ref x])) rfl (rest := []) rfl (hb hbytes d1)
  have hh2 := q2.trans hh0
  have hx2 := hx.mv X2.warmed.alike hh2
  have c3 : Steps p.tables e below (s₁.setTop (entryFrame m #[.ref x] 1)) (T2.setTop (mkF m 6 #[.val (.ref x)] [.ref x, .int (Int32.ofNat V.slots.size)])) := (c1.trans (st2 _ (Steps.refl _))).trans (by
    refine X2.alen hexec hx2.2.2.2.1 rfl rfl (hb hbytes d4) ?_
    refine XS.aloadN X2.here hexec rfl (hb hbytes d5) rfl rfl ?_
    exact Steps.refl _)
  obtain ⟨v4, T4, X4, E4, g4⟩ := X2.callV hexec (Cdr.law l x cd z) hown (wks W (virtW "java/lang/String" 335 "java/lang/String" Cdr.yN Cdr.yN)) rfl (by decide) (wk W Cdr.tab) (W := 1) (Nat.le_of_ble_eq_true rfl) (Nat.le_of_ble_eq_true rfl) (Nat.le_refl _) (Nat.le_refl _) (hx2.1.fc X2.warmed.alike) hx2.1.is (g := (mkF m 6 #[.val (.ref x)] [.ref x, .int (Int32.ofNat V.slots.size)])) rfl (by rw [hml]; rfl) c3 (argsL := []) (rest := [.int (Int32.ofNat V.slots.size)]) rfl rfl (by show 2 * 0 + (1 + 0) ≤ _; decide) (hb hbytes d6) (⟨rfl, hx2.2.2.1, hx.2.2.2.2.1.cd, s1.there X2.warmed.alike hh2, hz⟩)
  obtain ⟨rfl, q4⟩ := E4
  have c5 : Steps p.tables e below (s₁.setTop (entryFrame m #[.ref x] 1)) (T4.setTop (mkF m 10 #[.val (.ref x)] [.int (Int32.ofNat V.slots.size >>> (cd &&& 31))])) := Steps.trans g4 (by
    refine ishr X4.here hexec rfl (hb hbytes d9) rfl ?_
    exact Steps.refl _)
  rw [hx.2.2.2.2.1.len v31] at c5
  exact ⟨T4, some (.int (Int32.ofNat n)), _, _, _, X4, rfl, rfl, rfl, (fun h => by cases h), ⟨rfl, q4.trans hh2⟩, fun fs hl => c5.trans (X4.ireturnOut hexec hret rfl (Or.inl rfl) (hb hbytes d10) hl)⟩
theorem pays {l : Launch} {R : Room} {p : Program} {e : Env} {below : List Frame} {s : State} {sargs : Array Value} {len W : Nat} (x t : Addr) (V : Cell) (cd : Int32) (n : Nat) (f : Nat → Int32) (z : Int32) (htab : tab.before sargs s = true) (hfr : 2 ≤ R.frames) (hlo : W + 25 ≤ R.locals) :
    Back l R p e below s sargs yN len W (fun A₁ a₁ => A₁.cells + 0 ≤ R.cells ∧ A₁.slots + 0 ≤ R.slots ∧ P x t V cd n f z a₁ A₁.U) (fun A₁ _ v₁ B₁ => E n v₁ A₁.U B₁.U ∧ B₁.locs = A₁.locs ++ [] ∧ B₁.cells = A₁.cells + 0 ∧ B₁.slots = A₁.slots + 0) :=
  (law l x t V cd n f z).pays htab hfr (by omega)
end Len
namespace IsL
def yN : MethodName := ⟨"java/lang/String", "isLatin1", "()Z"⟩
abbrev yB : ByteArray := jdk_42_method_154_code
theorem d0 : decode yB 0 = .ok (.getstatic 38, 3) := by decide +kernel
theorem d3 : decode yB 3 = .ok (.ifCond (.eq) 14, 3) := by decide +kernel
theorem d6 : decode yB 6 = .ok (.aload_n 0, 1) := by decide +kernel
theorem d7 : decode yB 7 = .ok (.getfield 15, 3) := by decide +kernel
theorem d10 : decode yB 10 = .ok (.ifCond (.ne) 7, 3) := by decide +kernel
theorem d13 : decode yB 13 = .ok (.iconst 1, 1) := by decide +kernel
theorem d14 : decode yB 14 = .ok (.goto 4, 3) := by decide +kernel
theorem d17 : decode yB 17 = .ok (.iconst 0, 1) := by decide +kernel
theorem d18 : decode yB 18 = .ok (.ireturn, 1) := by decide +kernel
def site : List Cond := [.fieldLink "java/lang/String" 38 "java/lang/String" "COMPACT_STRINGS" "Z", .fieldLink "java/lang/String" 15 "java/lang/String" "coder" "B"]
def tab : Cond := tabOf yN yB 1 (some .boolean) site
def P (x : Addr) (cd z : Int32) (args : Array Value) (s : State) : Prop := args = #[.ref x] ∧ Has x "java/lang/String" "coder" "B" (.int cd) s ∧ (cd = 0 ∨ cd = 1) ∧ StaticIs s "java/lang/String" "COMPACT_STRINGS" "Z" (.int z) ∧ ¬ z = 0
def E (cd : Int32) (r : Option Value) (s u : State) : Prop := XT.PureE (some (.int (1 - cd))) r s u
theorem law (l : Launch) (x : Addr) (cd z : Int32) : Law l yN 1 0 0 0 yB 1 (some .boolean) site (P x cd z) (E cd) [] 0 0 := by
  refine Law.of_walk (plainFor_of_name (by decide +kernel)) (by decide +kernel) (by decide +kernel) (by decide) (fun _ _ h => by rw [h.1]; rfl) (fun _ U U' hal hh h => ⟨h.1, h.2.1.mv hal hh, h.2.2.1, h.2.2.2.1.there hal hh, h.2.2.2.2⟩) (fun r U U' V V' h1 hal h2 h => XT.PureE.mv r U U' V V' h1 hal h2 h) ?_
  intro p e s m args below meth c s₁ X0 hexec hbytes hml hret hlk hnm hown hh0 W hP
  obtain ⟨rfl, hx, hc, s1, hz⟩ := hP
  have c1 : Steps p.tables e below (s₁.setTop (entryFrame m #[.ref x] 1)) (s₁.setTop (mkF m 0 #[.val (.ref x)] [])) := entry rfl
  obtain ⟨T2, X2, q2, st2⟩ := X0.sget hexec hown (wk W (.fieldLink "java/lang/String" 38 "java/lang/String" "COMPACT_STRINGS" "Z")) s1 (fun _ _ h => by rw [hh0]; exact h) (g := (mkF m 0 #[.val (.ref x)] [])) rfl (hb hbytes d0)
  have hh2 := q2.trans hh0
  have c3 : Steps p.tables e below (s₁.setTop (entryFrame m #[.ref x] 1)) (T2.setTop (mkF m 7 #[.val (.ref x)] [.ref x])) := (c1.trans (st2 _ (Steps.refl _))).trans (by
    refine XS.ifNo X2.here hexec rfl (hb hbytes d3) rfl (i0_eq_f hz) ?_
    refine XS.aloadN X2.here hexec rfl (hb hbytes d6) rfl rfl ?_
    exact Steps.refl _)
  obtain ⟨T4, X4, q4, st4⟩ := X2.hget hexec hown (wk W (.fieldLink "java/lang/String" 15 "java/lang/String" "coder" "B")) (hx.mv X2.warmed.alike hh2) (g := (mkF m 7 #[.val (.ref x)] [.ref x])) rfl (rest := []) rfl (hb hbytes d7)
  have c5 : Steps p.tables e below (s₁.setTop (entryFrame m #[.ref x] 1)) (T4.setTop (mkF m 10 #[.val (.ref x)] [.int cd])) := c3.trans (st4 _ (Steps.refl _))
  have c6 : Steps p.tables e below (s₁.setTop (entryFrame m #[.ref x] 1)) (T4.setTop (mkF m 18 #[.val (.ref x)] [.int (1 - cd)])) := by
    rcases hc with rfl | rfl
    · exact c5.trans (by
        refine XS.ifNo X4.here hexec rfl (hb hbytes d10) rfl (i0_ne_f rfl) ?_
        refine iconstV X4.here hexec rfl 1 (hb hbytes d13) (by decide) ?_
        refine XS.goto X4.here hexec rfl (pc0 := 14) rfl (hb hbytes d14) (by decide) rfl ?_
        exact Steps.refl _)
    · exact c5.trans (by
        refine XS.ifYes X4.here hexec rfl (pc0 := 10) rfl (hb hbytes d10) rfl (i0_ne_t (by decide)) (by decide) rfl ?_
        refine iconstV X4.here hexec rfl 0 (hb hbytes d17) (by decide) ?_
        exact Steps.refl _)
  exact ⟨T4, some (.int (1 - cd)), _, _, _, X4, rfl, rfl, rfl, (fun h => by cases h), ⟨rfl, q4.trans hh2⟩, fun fs hl => c6.trans (X4.ireturnOut hexec hret (by rcases hc with rfl | rfl <;> rfl) (Or.inr (Or.inl rfl)) (hb hbytes d18) hl)⟩
end IsL
namespace LChA
def yN : MethodName := ⟨"java/lang/StringLatin1", "charAt", "([BI)C"⟩
abbrev yB : ByteArray := jdk_43_method_2_code
theorem d0 : decode yB 0 = .ok (.iload_n 1, 1) := by decide +kernel
theorem d1 : decode yB 1 = .ok (.aload_n 0, 1) := by decide +kernel
theorem d2 : decode yB 2 = .ok (.arraylength, 1) := by decide +kernel
theorem d3 : decode yB 3 = .ok (.invokestatic 9, 3) := by decide +kernel
theorem d6 : decode yB 6 = .ok (.aload_n 0, 1) := by decide +kernel
theorem d7 : decode yB 7 = .ok (.iload_n 1, 1) := by decide +kernel
theorem d8 : decode yB 8 = .ok (.baload, 1) := by decide +kernel
theorem d9 : decode yB 9 = .ok (.sipush 255, 3) := by decide +kernel
theorem d12 : decode yB 12 = .ok (.iand, 1) := by decide +kernel
theorem d13 : decode yB 13 = .ok (.i2c, 1) := by decide +kernel
theorem d14 : decode yB 14 = .ok (.ireturn, 1) := by decide +kernel
def site : List Cond := [JO.Str_checkIndex.tab] ++ staticW "java/lang/StringLatin1" 9 JO.Str_checkIndex.yN
def tab : Cond := tabOf yN yB 2 (some .char) site
def P (t : Addr) (V : Cell) (i : Nat) (u : Int32) (fm : Value) (args : Array Value) (s : State) : Prop := args = #[.ref t, .int (Int32.ofNat i)] ∧ XT.Arr .byte t V s ∧ V.slots[i]? = some (.int u) ∧ (StaticIs s "jdk/internal/util/Preconditions" "SIOOBE_FORMATTER" "Ljava/util/function/BiFunction;" fm ∧ fm.isRef = true)
def E (u : Int32) (r : Option Value) (s w : State) : Prop := XT.PureE (some (.int (chr8 u))) r s w
theorem law (l : Launch) (t : Addr) (V : Cell) (i : Nat) (u : Int32) (fm : Value) : Law l yN 2 2 2 27 yB 2 (some .char) site (P t V i u fm) (E u) [] 0 0 := by
  refine Law.of_walk (plainFor_of_name (by decide +kernel)) (by decide +kernel) (by decide +kernel) (by decide) (fun _ _ h => by rw [h.1]; rfl) (fun _ U U' hal hh h => ⟨h.1, h.2.1.mv hal hh, h.2.2.1, h.2.2.2.1.there hal hh, h.2.2.2.2⟩) (fun r U U' V V' h1 hal h2 h => XT.PureE.mv r U U' V V' h1 hal h2 h) ?_
  intro p e s m args below meth c s₁ X0 hexec hbytes hml hret hlk hnm hown hh0 W hP
  obtain ⟨rfl, hV, hu, s1, rf⟩ := hP
  have v31 := hV.2.2.2
  have hi : i < V.slots.size := (Array.getElem?_eq_some_iff.mp hu).1
  have c1 : Steps p.tables e below (s₁.setTop (entryFrame m #[.ref t, .int (Int32.ofNat i)] 2)) (s₁.setTop (mkF m 0 #[.val (.ref t), .val (.int (Int32.ofNat i))] [])) := entry rfl
  have c2 : Steps p.tables e below (s₁.setTop (entryFrame m #[.ref t, .int (Int32.ofNat i)] 2)) (s₁.setTop (mkF m 3 #[.val (.ref t), .val (.int (Int32.ofNat i))] [.int (Int32.ofNat V.slots.size), .int (Int32.ofNat i)])) := c1.trans (by
    refine XS.iloadN X0.here hexec rfl (hb hbytes d0) rfl ?_
    refine XS.aloadN X0.here hexec rfl (hb hbytes d1) rfl rfl ?_
    refine X0.alen hexec (hV.mv X0.warmed.alike hh0) rfl rfl (hb hbytes d2) ?_
    exact Steps.refl _)
  obtain ⟨v3, T3, X3, E3, g3⟩ := X0.callS hexec (JO.Str_checkIndex.law l (Int32.ofNat i) (Int32.ofNat V.slots.size) fm) hown (wks W (staticW "java/lang/StringLatin1" 9 JO.Str_checkIndex.yN)) (wk W JO.Str_checkIndex.tab) (W := 0) (Nat.le_of_ble_eq_true rfl) (Nat.le_of_ble_eq_true rfl) (Nat.le_refl _) (Nat.le_refl _) (g := (mkF m 3 #[.val (.ref t), .val (.int (Int32.ofNat i))] [.int (Int32.ofNat V.slots.size), .int (Int32.ofNat i)])) rfl (by rw [hml]; rfl) c2 (argsL := [.int (Int32.ofNat i), .int (Int32.ofNat V.slots.size)]) (rest := []) rfl rfl (by show 2 * 0 + 0 ≤ _; decide) (hb hbytes d3) (⟨rfl, rf, s1.there X0.warmed.alike hh0, Int32.ofNat_not_neg (by omega), lt32 v31 hi⟩)
  obtain ⟨rfl, q3⟩ := E3
  have hh3 := q3.trans hh0
  have c4 : Steps p.tables e below (s₁.setTop (entryFrame m #[.ref t, .int (Int32.ofNat i)] 2)) (T3.setTop (mkF m 14 #[.val (.ref t), .val (.int (Int32.ofNat i))] [.int (chr8 u)])) := Steps.trans g3 (by
    refine XS.aloadN X3.here hexec rfl (hb hbytes d6) rfl rfl ?_
    refine XS.iloadN X3.here hexec rfl (hb hbytes d7) rfl ?_
    refine X3.aget hexec (hV.mv X3.warmed.alike hh3) rfl hu rfl rfl (hb hbytes d8) ?_
    refine sipushV X3.here hexec rfl 255 (hb hbytes d9) (by decide) ?_
    refine XS.iand X3.here hexec rfl (hb hbytes d12) rfl ?_
    refine i2c X3.here hexec rfl (hb hbytes d13) rfl ?_
    exact Steps.refl _)
  exact ⟨T3, some (.int (chr8 u)), _, _, _, X3, rfl, rfl, rfl, (fun h => by cases h), ⟨rfl, hh3⟩, fun fs hl => c4.trans (X3.ireturnOut hexec hret (narrow_c _) (Or.inr (Or.inr (Or.inr (Or.inl rfl)))) (hb hbytes d14) hl)⟩
end LChA
end StrChars
namespace StrChars.Road
open Jvm Sem ClassFile Op Lib Jvm.Stand Jvm.Free Jvm.Free.XT
open Jvm.Lib.Cold (StaticIs)
theorem consq {a : Array Value} {s : State} {c : Jvm.Cond} {L : List Jvm.Cond} (h0 : c.before a s = true) (h : ∀ w ∈ L, w.before a s = true) : ∀ w ∈ c :: L, w.before a s = true := fun w hw => (List.mem_cons.mp hw).elim (fun e => e ▸ h0) (h w)
/-- the words of String.length(), either coding -/
abbrev wordsLen : List Jvm.Cond := [.code Len.yN Len.yB 1 (some .int), .initialized ST, .fieldLink ST 9 ST "value" "[B", .fieldLink ST 38 ST "COMPACT_STRINGS" "Z", .fieldLink ST 15 ST "coder" "B", .code Cdr.yN Cdr.yB 1 (some .byte), .methodLink ST 335 Cdr.yN, .declares Cdr.yN, .selects ST Cdr.yN Cdr.yN, .instanceMethod Cdr.yN]
theorem tabLen_of {a : Array Value} {s : State} (h : ∀ w ∈ wordsLen, w.before a s = true) : Len.tab.before a s = true := by
  have hc : Cdr.tab.before a s = true := unparts (wk h (.code Cdr.yN Cdr.yB 1 (some .byte))) (wks h (.initialized Cdr.yN.cls :: Cdr.site))
  have q := consq hc h
  exact unparts (wk q (.code Len.yN Len.yB 1 (some .int))) (wks q (.initialized Len.yN.cls :: Len.site))
theorem movedLen {Z s : State} {a0 args : Array Value} (hZ : Z.Warmed39 s.vm) (hw : ∀ d ∈ wordsLen, d.before a0 Z = true) : ∀ d ∈ wordsLen, d.before args s = true := fun d hd => by
  have q := hw d hd
  have t : ∀ d ∈ wordsLen, d = .arrayClass .byte ∨ (d.onTables && d.keepsFace) = true := by decide +kernel
  rcases t d hd with rfl | t
  · exact RoadKit.mvA hZ q
  · exact RoadKit.mv hZ q t
/-- the bytes of the chars cs, low before high -/
def wideBytes : List Int32 → List Value
  | [] => []
  | c :: cs => .int (lo8 c) :: .int (hi8 c) :: wideBytes cs
theorem wide_lo (d : Value) : ∀ (cs : List Int32) (j : Nat), j < cs.length → (wideBytes cs).getD (2 * j) d = .int (lo8 (cs.getD j 0))
  | [], j, h => absurd h (Nat.not_lt_zero j)
  | c :: cs, 0, _ => rfl
  | c :: cs, j + 1, h => by
    have q := wide_lo d cs j (by simpa using h)
    rw [show 2 * (j + 1) = 2 * j + 1 + 1 from by omega]
    simpa [wideBytes] using q
theorem wide_hi (d : Value) : ∀ (cs : List Int32) (j : Nat), j < cs.length → (wideBytes cs).getD (2 * j + 1) d = .int (hi8 (cs.getD j 0))
  | [], j, h => absurd h (Nat.not_lt_zero j)
  | c :: cs, 0, _ => rfl
  | c :: cs, j + 1, h => by
    have q := wide_hi d cs j (by simpa using h)
    rw [show 2 * (j + 1) + 1 = 2 * j + 1 + 1 + 1 from by omega]
    simpa [wideBytes] using q
theorem low_at (d : Value) (cs : List Int32) (j : Nat) (h : j < cs.length) : (cs.map fun c => Value.int (lo8 c)).getD j d = .int (lo8 (cs.getD j 0)) := by
  simp [List.getD_eq_getElem?_getD, h]
/-- an array of N2 bytes vs codes the chars cs by the coder cd -/
def CodA (cs : List Int32) (cd N2 : Int32) (vs : List Value) : Prop := (cd = 0 ∧ N2 = Int32.ofNat cs.length ∧ vs = (cs.map fun c => Value.int (lo8 c)) ∧ ∀ c ∈ cs, ¬ 255 < c) ∨ (cd = 1 ∧ N2 = Int32.ofNat (2 * cs.length) ∧ vs = wideBytes cs ∧ ∃ c ∈ cs, 255 < c)
theorem CodA.cod {cs : List Int32} {cd N2 : Int32} {vs : List Value} {V : Cell} (h : CodA cs cd N2 vs) (hn : 2 * cs.length < 2 ^ 31) (hs : V.slots.size = N2.toNatClampNeg) (hv : RoadKit.Has V vs (.int 0)) : Cod cd cs.length (fun j => cs.getD j 0) V := by
  rcases h with ⟨rfl, rfl, rfl, h⟩ | ⟨rfl, rfl, rfl, c, hc, hw⟩
  · rw [n32 (by omega)] at hs
    exact Or.inl ⟨rfl, hs, fun j hj => ⟨by rw [hv j (by omega), low_at _ _ _ hj], by
      have e : cs.getD j 0 = cs[j] := by simp [List.getD_eq_getElem?_getD, hj]
      show ¬ 255 < cs.getD j 0
      rw [e]; exact h _ (List.getElem_mem _)⟩⟩
  · rw [n32 (by omega)] at hs
    obtain ⟨j, hj, rfl⟩ := List.getElem_of_mem hc
    exact Or.inr ⟨rfl, hs, fun j hj => ⟨by rw [hv _ (by omega), wide_lo _ _ _ hj], by rw [hv _ (by omega), wide_hi _ _ _ hj]⟩, j, hj, by
      have e : cs.getD j 0 = cs[j] := by simp [List.getD_eq_getElem?_getD, hj]
      show 255 < cs.getD j 0
      rw [e]; exact hw⟩
/-- an object of exactly java/lang/String, its two fields found: as the laws ask it -/
theorem strObj {Z U : State} {a0 : Array Value} {kI : Nat} (wi : (Jvm.Cond.instantiable ST kI).before a0 Z = true) (al : Z.vm.Alike U.vm) {x : Addr} {v0 c0 : Value} (E : RoadKit.Exa Z U.heap x ST) (V : RoadKit.Fld Z U.heap x ST "value" "[B" v0) (C : RoadKit.Fld Z U.heap x ST "coder" "B" c0) :
    ∃ (D : Cell) (fV fC : Field), Blank ST x D U ∧ Found ST "value" "[B" fV U ∧ Found ST "coder" "B" fC U ∧ D.slots[fV.slot]? = some v0 ∧ D.slots[fC.slot]? = some c0 ∧ RoadKit.slotOf Z ST "value" "[B" = fV.slot ∧ RoadKit.slotOf Z ST "coder" "B" = fC.slot := by
  obtain ⟨D, cfV, kV, iV, fV, hD, gV, stV, knV, obV, asV, slV⟩ := V
  obtain ⟨D', cfC, kC, iC, fC, hD', gC, stC, -, -, asC, slC⟩ := C
  cases hD.symm.trans hD'
  obtain ⟨D2, kD, e1, e2, e3, e4, e5⟩ := E
  cases hD.symm.trans e1
  obtain ⟨c2, k2, i1, i2, i3, -⟩ := Cond.instantiable_spec wi
  cases e2.symm.trans i1
  cases e3.symm.trans i2
  obtain ⟨kU, u1, u2⟩ := al.2.2 _ _ e3
  exact ⟨D, fV, fC, ⟨hD, ⟨knV, fun q hq => by rw [hq] at obV; cases obV⟩, by rw [al.findClass]; exact e2, kU, u1, by rw [u2]; exact i3, by rw [u2]; exact e5 i3⟩, ⟨SBG.found_only al ⟨cfV, kV, iV, gV⟩, stV⟩, ⟨SBG.found_only al ⟨cfC, kC, iC, gC⟩, stC⟩, slV, slC, by simp [RoadKit.slotOf, gV], by simp [RoadKit.slotOf, gC]⟩
theorem sta_is {Z U : State} (al : Z.vm.Alike U.vm) {C n d : String} {v : Value} (S : RoadKit.Sta Z U.heap C n d v) : StaticIs U C n d v := by
  obtain ⟨cfS, iS, kS, fS, st, cS, t1, t2, t3, t4, t5, t6, t7⟩ := S
  exact StaticIs.there (s := { Z with heap := U.heap }) ⟨cfS, iS, kS, fS, st, cS, t1, t2, t3, t4, t5, (fun q => by rw [q] at t6; cases t6), t7⟩ al rfl
/-- **length() OF SUCH A STRING** -/
theorem lenW {p : Program} {l : Launch} {e : Env} {R : Room} {s : State} {args : Array Value} {below : List Frame} {len W : Nat} {Z : State} {a0 : Array Value} {h : Heap} (hZ : Z.Warmed39 s.vm) (hw : ∀ d ∈ wordsLen, d.before a0 Z = true) {kI : Nat} (wi : (Jvm.Cond.instantiable ST kI).before a0 Z = true)
    {x t : Addr} {kb : ClassId} {cs : List Int32} {cd N2 z : Int32} {vs : List Value} (E : RoadKit.Exa Z h x ST) (V : RoadKit.Fld Z h x ST "value" "[B" (.ref t)) (C : RoadKit.Fld Z h x ST "coder" "B" (.int cd)) (K : RoadKit.Arv Z h t kb .byte N2 vs (.int 0)) (hc : CodA cs cd N2 vs) (hb : ∀ c ∈ cs, ¬ c < 0 ∧ ¬ (65535 : Int32) < c)
    (S : RoadKit.Sta Z h ST "COMPACT_STRINGS" "Z" (.int z)) (hz : ¬ z = 0) (l2 : cs.length ≤ 4000) (hfr : 2 ≤ R.frames) (hlo : W + 25 ≤ R.locals) :
    Back l R p e below s args (⟨"java/lang/String", "length", "()I"⟩ : MethodName) len W (fun P a => a = #[.ref x] ∧ P.U.heap = h ∧ P.cells + 0 ≤ R.cells ∧ P.slots + 0 ≤ R.slots)
      (fun P _ v B => ∃ L, (v = some (.int (Int32.ofNat cs.length)) ∧ L = [] ∧ B.U.heap = h) ∧ B.locs = P.locs ++ L ∧ B.cells = P.cells + 0 ∧ B.slots = P.slots + 0) := by
  obtain ⟨A, K1, K2, K3, K4, K5, K6⟩ := K
  have hcod := hc.cod (by omega) K3 K5
  intro m meth c P g ig mk a X hg hsize hdg hW hn hp'
  obtain ⟨rfl, rfl, r1, r2⟩ := hp'
  have al : Z.vm.Alike P.U.vm := hZ.alike.trans X.warmed.alike
  obtain ⟨D, fV, fC, hB, F1, F2, g1, g2, -, -⟩ := strObj wi al E V C
  have hx : Txt x t A cd cs.length (fun j => cs.getD j 0) P.U := ⟨⟨_, hB.2.2.1, D, hB.1, rfl, by cases q : D.vm <;> first | rfl | exact absurd q (hB.2.1.2 _)⟩, Has.of hB F1 g1, Has.of hB F2 g2, ⟨K1.1, State.isArrayOf_alike al K1.2.1, K1.2.2, by rcases hcod with ⟨-, q, -⟩ | ⟨-, q, -⟩ <;> omega⟩, hcod, fun j hj => by
    have e : cs.getD j 0 = cs[j] := by simp [List.getD_eq_getElem?_getD, hj]
    show ¬ cs.getD j 0 < 0 ∧ ¬ 65535 < cs.getD j 0
    rw [e]; exact hb _ (List.getElem_mem _)⟩
  obtain ⟨v, B, X', ⟨⟨hv, hh⟩, hl, hk, hs⟩, st⟩ := Len.pays x t A cd cs.length (fun j => cs.getD j 0) z (tabLen_of (movedLen hZ hw)) hfr hlo m meth c P g ig mk _ X hg hsize hdg hW hn ⟨r1, r2, rfl, hx, sta_is al S, hz⟩
  exact ⟨v, B, X', ⟨[], ⟨hv, rfl, hh⟩, hl, hk, hs⟩, st⟩
end StrChars.Road
namespace StrChars
open Jvm Sem ClassFile Op Lib Jvm.Stand Jvm.Free.XT Jvm.Free.ALB Jvm.Free.JM Jvm.Free
open Jvm.Lib.Cold (StaticIs)
/-- what place i of a byte[]'s cell holds -/
def yv (A : Cell) (i : Nat) : Int32 := match A.slots[i]? with | some (.int x) => x | _ => 0
theorem yv_get {a : Addr} {A : Cell} {U : State} (h : XT.Arr .byte a A U) (ht : Typed .byte A) {i : Nat} (hi : i < A.slots.size) : A.slots[i]? = some (.int (yv A i)) := by
  have e := Array.getElem?_eq_getElem hi
  have f := ht i _ e
  unfold yv; rw [e]
  generalize A.slots[i] = v at f
  cases v <;> simp [fits] at f ⊢
/-- the two arrays are equal, place for place -/
def EqC (A B : Cell) : Prop := A.slots.size = B.slots.size ∧ ∀ i, i < A.slots.size → yv A i = yv B i
/-- a boolean that says whether p -/
def Says01 (q : Prop) (r : Option Value) (s u : State) : Prop := ∃ v : Int32, r = some (.int v) ∧ u.heap = s.heap ∧ ((v = 1 ∧ q) ∨ (v = 0 ∧ ¬ q))
theorem Says01.mv {q : Prop} : ∀ r (U U' V V' : State), U'.heap = U.heap → V.vm.Alike V'.vm → V'.heap = V.heap → Says01 q r U V → Says01 q r U' V' :=
  fun r U U' V V' h1 _ h2 ⟨v, a, b, c⟩ => ⟨v, a, by rw [h1, h2]; exact b, c⟩
namespace LEq
def yN : MethodName := ⟨"java/lang/StringLatin1", "equals", "([B[B)Z"⟩
abbrev yB : ByteArray := jdk_43_method_13_code
theorem d0 : decode yB 0 = .ok (.aload_n 0, 1) := by decide +kernel
theorem d1 : decode yB 1 = .ok (.arraylength, 1) := by decide +kernel
theorem d2 : decode yB 2 = .ok (.aload_n 1, 1) := by decide +kernel
theorem d3 : decode yB 3 = .ok (.arraylength, 1) := by decide +kernel
theorem d4 : decode yB 4 = .ok (.if_icmp (.ne) 30, 3) := by decide +kernel
theorem d7 : decode yB 7 = .ok (.iconst 0, 1) := by decide +kernel
theorem d8 : decode yB 8 = .ok (.istore_n 2, 1) := by decide +kernel
theorem d9 : decode yB 9 = .ok (.iload_n 2, 1) := by decide +kernel
theorem d10 : decode yB 10 = .ok (.aload_n 0, 1) := by decide +kernel
theorem d11 : decode yB 11 = .ok (.arraylength, 1) := by decide +kernel
theorem d12 : decode yB 12 = .ok (.if_icmp (.ge) 20, 3) := by decide +kernel
theorem d15 : decode yB 15 = .ok (.aload_n 0, 1) := by decide +kernel
theorem d16 : decode yB 16 = .ok (.iload_n 2, 1) := by decide +kernel
theorem d17 : decode yB 17 = .ok (.baload, 1) := by decide +kernel
theorem d18 : decode yB 18 = .ok (.aload_n 1, 1) := by decide +kernel
theorem d19 : decode yB 19 = .ok (.iload_n 2, 1) := by decide +kernel
theorem d20 : decode yB 20 = .ok (.baload, 1) := by decide +kernel
theorem d21 : decode yB 21 = .ok (.if_icmp (.eq) 5, 3) := by decide +kernel
theorem d24 : decode yB 24 = .ok (.iconst 0, 1) := by decide +kernel
theorem d25 : decode yB 25 = .ok (.ireturn, 1) := by decide +kernel
theorem d26 : decode yB 26 = .ok (.iinc 2 1, 3) := by decide +kernel
theorem d29 : decode yB 29 = .ok (.goto (-20), 3) := by decide +kernel
theorem d32 : decode yB 32 = .ok (.iconst 1, 1) := by decide +kernel
theorem d33 : decode yB 33 = .ok (.ireturn, 1) := by decide +kernel
theorem d34 : decode yB 34 = .ok (.iconst 0, 1) := by decide +kernel
theorem d35 : decode yB 35 = .ok (.ireturn, 1) := by decide +kernel
def site : List Cond := []
def tab : Cond := tabOf yN yB 3 (some .boolean) site
def P (a : Addr) (A : Cell) (b : Addr) (B : Cell) (args : Array Value) (s : State) : Prop := args = #[.ref a, .ref b] ∧ XT.Arr .byte a A s ∧ Typed .byte A ∧ XT.Arr .byte b B s ∧ Typed .byte B
/-- whether two byte[] are equal, place for place -/
theorem law (l : Launch) (a : Addr) (A : Cell) (b : Addr) (B : Cell) : Law l yN 2 2 0 0 yB 3 (some .boolean) site (P a A b B) (Says01 (EqC A B)) [] 0 0 := by
  refine Law.of_walk (plainFor_of_name (by decide +kernel)) (by decide +kernel) (by decide +kernel) (by decide) (fun _ _ h => by rw [h.1]; rfl) (fun _ U U' hal hh h => ⟨h.1, h.2.1.mv hal hh, h.2.2.1, h.2.2.2.1.mv hal hh, h.2.2.2.2⟩) (fun r U U' V V' h1 hal h2 h => Says01.mv r U U' V V' h1 hal h2 h) ?_
  intro p e s m args below meth c s₁ X0 hexec hbytes hml hret hlk hnm hown hh0 W hP
  obtain ⟨rfl, hA, tA, hB, tB⟩ := hP
  have a31 := hA.2.2.2
  have b31 := hB.2.2.2
  have hA0 := hA.mv X0.warmed.alike hh0
  have hB0 := hB.mv X0.warmed.alike hh0
  have c1 : Steps p.tables e below (s₁.setTop (entryFrame m #[.ref a, .ref b] 3)) (s₁.setTop (mkF m 0 #[.val (.ref a), .val (.ref b), .unset] [])) := entry rfl
  have c2 : Steps p.tables e below (s₁.setTop (entryFrame m #[.ref a, .ref b] 3)) (s₁.setTop (mkF m 4 #[.val (.ref a), .val (.ref b), .unset] [.int (Int32.ofNat B.slots.size), .int (Int32.ofNat A.slots.size)])) := c1.trans (by
    refine XS.aloadN X0.here hexec rfl (hb hbytes d0) rfl rfl ?_
    refine X0.alen hexec hA0 rfl rfl (hb hbytes d1) ?_
    refine XS.aloadN X0.here hexec rfl (hb hbytes d2) rfl rfl ?_
    refine X0.alen hexec hB0 rfl rfl (hb hbytes d3) ?_
    exact Steps.refl _)
  by_cases hs : A.slots.size = B.slots.size
  · have c3 : Steps p.tables e below (s₁.setTop (entryFrame m #[.ref a, .ref b] 3)) (s₁.setTop (mkF m 9 #[.val (.ref a), .val (.ref b), .val (.int 0)] [])) := c2.trans (by
      refine XS.icmpNo X0.here hexec rfl (hb hbytes d4) rfl (ii_ne_f (by rw [hs])) ?_
      refine iconstV X0.here hexec rfl 0 (hb hbytes d7) (by decide) ?_
      refine XS.istoreN X0.here hexec rfl (hb hbytes d8) rfl rfl ?_
      exact Steps.refl _)
    have loop : ∀ (r i : Nat), i + r = A.slots.size → (∀ j, j < i → yv A j = yv B j) → Steps p.tables e below (s₁.setTop (entryFrame m #[.ref a, .ref b] 3)) (s₁.setTop (mkF m 9 #[.val (.ref a), .val (.ref b), .val (.int (Int32.ofNat i))] [])) → ∃ (pc : Nat) (Ls : Array Slot) (v : Int32), (pc = 25 ∨ pc = 33) ∧ ((v = 1 ∧ EqC A B) ∨ (v = 0 ∧ ¬ EqC A B)) ∧ Steps p.tables e below (s₁.setTop (entryFrame m #[.ref a, .ref b] 3)) (s₁.setTop (mkF m pc Ls [.int v])) := by
      intro r
      induction r with
      | zero =>
        intro i hi he cl
        exact ⟨33, _, 1, Or.inr rfl, Or.inl ⟨rfl, hs, fun j hj => he j (by omega)⟩, cl.trans (by
          refine XS.iloadN X0.here hexec rfl (hb hbytes d9) rfl ?_
          refine XS.aloadN X0.here hexec rfl (hb hbytes d10) rfl rfl ?_
          refine X0.alen hexec hA0 rfl rfl (hb hbytes d11) ?_
          refine XS.icmpYes X0.here hexec rfl (pc0 := 12) rfl (hb hbytes d12) rfl (ii_ge_t (nlt32 (by omega) (by omega))) (by decide) rfl ?_
          refine iconstV X0.here hexec rfl 1 (hb hbytes d32) (by decide) ?_
          exact Steps.refl _)⟩
      | succ r ih =>
        intro i hi he cl
        have c4 : Steps p.tables e below (s₁.setTop (entryFrame m #[.ref a, .ref b] 3)) (s₁.setTop (mkF m 21 #[.val (.ref a), .val (.ref b), .val (.int (Int32.ofNat i))] [.int (yv B i), .int (yv A i)])) := cl.trans (by
          refine XS.iloadN X0.here hexec rfl (hb hbytes d9) rfl ?_
          refine XS.aloadN X0.here hexec rfl (hb hbytes d10) rfl rfl ?_
          refine X0.alen hexec hA0 rfl rfl (hb hbytes d11) ?_
          refine XS.icmpNo X0.here hexec rfl (hb hbytes d12) rfl (ii_ge_f (lt32 (by omega) (by omega))) ?_
          refine XS.aloadN X0.here hexec rfl (hb hbytes d15) rfl rfl ?_
          refine XS.iloadN X0.here hexec rfl (hb hbytes d16) rfl ?_
          refine X0.aget hexec hA0 rfl (yv_get hA tA (i := i) (by omega)) rfl rfl (hb hbytes d17) ?_
          refine XS.aloadN X0.here hexec rfl (hb hbytes d18) rfl rfl ?_
          refine XS.iloadN X0.here hexec rfl (hb hbytes d19) rfl ?_
          refine X0.aget hexec hB0 rfl (yv_get hB tB (i := i) (by omega)) rfl rfl (hb hbytes d20) ?_
          exact Steps.refl _)
        by_cases hv : yv A i = yv B i
        · have c5 : Steps p.tables e below (s₁.setTop (entryFrame m #[.ref a, .ref b] 3)) (s₁.setTop (mkF m 9 #[.val (.ref a), .val (.ref b), .val (.int (Int32.ofNat i + 1))] [])) := c4.trans (by
            refine XS.icmpYes X0.here hexec rfl (pc0 := 21) rfl (hb hbytes d21) rfl (ii_eq_t hv) (by decide) rfl ?_
            refine iincV X0.here hexec rfl 1 (hb hbytes d26) (by decide) rfl rfl ?_
            refine XS.goto X0.here hexec rfl (pc0 := 29) rfl (hb hbytes d29) (by decide) rfl ?_
            exact Steps.refl _)
          rw [succ32] at c5
          exact ih (i + 1) (by omega) (fun j hj => by
            by_cases e : j = i
            · rw [e]; exact hv
            · exact he j (by omega)) c5
        · exact ⟨25, _, 0, Or.inl rfl, Or.inr ⟨rfl, fun q => hv (q.2 i (by omega))⟩, c4.trans (by
            refine XS.icmpNo X0.here hexec rfl (hb hbytes d21) rfl (ii_eq_f hv) ?_
            refine iconstV X0.here hexec rfl 0 (hb hbytes d24) (by decide) ?_
            exact Steps.refl _)⟩
    obtain ⟨pc, Ls, v, hpc, hv, cz⟩ := loop A.slots.size 0 (by omega) (fun j hj => absurd hj (Nat.not_lt_zero j)) c3
    have nv : narrow .boolean (.int v) = .int v := by rcases hv with ⟨rfl, -⟩ | ⟨rfl, -⟩ <;> rfl
    rcases hpc with rfl | rfl
    · exact ⟨s₁, some (.int v), _, _, _, X0, rfl, rfl, rfl, (fun h => by cases h), ⟨v, rfl, hh0, hv⟩, fun fs hl => cz.trans (X0.ireturnOut hexec hret nv (Or.inr (Or.inl rfl)) (hb hbytes d25) hl)⟩
    · exact ⟨s₁, some (.int v), _, _, _, X0, rfl, rfl, rfl, (fun h => by cases h), ⟨v, rfl, hh0, hv⟩, fun fs hl => cz.trans (X0.ireturnOut hexec hret nv (Or.inr (Or.inl rfl)) (hb hbytes d33) hl)⟩
  · have c3 : Steps p.tables e below (s₁.setTop (entryFrame m #[.ref a, .ref b] 3)) (s₁.setTop (mkF m 35 #[.val (.ref a), .val (.ref b), .unset] [.int 0])) := c2.trans (by
      refine XS.icmpYes X0.here hexec rfl (pc0 := 4) rfl (hb hbytes d4) rfl (ii_ne_t (ne32 a31 b31 hs)) (by decide) rfl ?_
      refine iconstV X0.here hexec rfl 0 (hb hbytes d34) (by decide) ?_
      exact Steps.refl _)
    exact ⟨s₁, some (.int 0), _, _, _, X0, rfl, rfl, rfl, (fun h => by cases h), ⟨0, rfl, hh0, Or.inr ⟨rfl, fun q => hs q.1⟩⟩, fun fs hl => c3.trans (X0.ireturnOut hexec hret rfl (Or.inr (Or.inl rfl)) (hb hbytes d35) hl)⟩
end LEq
theorem Cod.ty {cd : Int32} {n : Nat} {f : Nat → Int32} {V : Cell} (h : Cod cd n f V) : Typed .byte V := fun i v hv => by
  have hi : i < V.slots.size := (Array.getElem?_eq_some_iff.mp hv).1
  rcases h with ⟨-, k1, k2⟩ | ⟨-, k1, k2, -⟩
  · rw [(k2 i (by omega)).1] at hv; cases hv; exact fits_lo8 _
  · rcases Nat.mod_two_eq_zero_or_one i with e | e
    · obtain ⟨j, rfl⟩ : ∃ j, i = 2 * j := ⟨i / 2, by omega⟩
      rw [(k2 j (by omega)).1] at hv; cases hv; exact fits_lo8 _
    · obtain ⟨j, rfl⟩ : ∃ j, i = 2 * j + 1 := ⟨i / 2, by omega⟩
      rw [(k2 j (by omega)).2] at hv; cases hv; exact fits_lo8 _
/-- the same text -/
def SameT (n : Nat) (f : Nat → Int32) (k : Nat) (g : Nat → Int32) : Prop := n = k ∧ ∀ j, j < n → f j = g j
theorem lo8_inj {x y : Int32} (h0 : ¬ x < 0) (h1 : ¬ 255 < x) (k0 : ¬ y < 0) (k1 : ¬ 255 < y) (h : lo8 x = lo8 y) : x = y := by
  rw [← lo8_mask h0 h1, ← lo8_mask k0 k1, h]
/-- arrays coded by one coder are equal just where the texts are -/
theorem Cod.eqv {cd : Int32} {n k : Nat} {f g : Nat → Int32} {V V' : Cell} (h : Cod cd n f V) (h' : Cod cd k g V') (hf : ∀ j, j < n → ¬ f j < 0 ∧ ¬ 65535 < f j) (hg : ∀ j, j < k → ¬ g j < 0 ∧ ¬ 65535 < g j) : EqC V V' ↔ SameT n f k g := by
  have yvv : ∀ {W : Cell} {i : Nat} {x : Int32}, W.slots[i]? = some (.int x) → yv W i = x := fun q => by unfold yv; rw [q]
  rcases h with ⟨rfl, k1, k2⟩ | ⟨rfl, k1, k2, -⟩
  · rcases h' with ⟨-, m1, m2⟩ | ⟨e, -⟩
    · constructor
      · rintro ⟨e1, e2⟩
        refine ⟨by omega, fun j hj => ?_⟩
        have q := e2 j (by omega)
        rw [yvv (k2 j hj).1, yvv (m2 j (by omega)).1] at q
        exact lo8_inj (hf j hj).1 (k2 j hj).2 (hg j (by omega)).1 (m2 j (by omega)).2 q
      · rintro ⟨rfl, e2⟩
        refine ⟨by omega, fun j hj => ?_⟩
        rw [yvv (k2 j (by omega)).1, yvv (m2 j (by omega)).1, e2 j (by omega)]
    · exact absurd e (by decide)
  · rcases h' with ⟨e, -⟩ | ⟨-, m1, m2, -⟩
    · exact absurd e (by decide)
    · constructor
      · rintro ⟨e1, e2⟩
        refine ⟨by omega, fun j hj => ?_⟩
        have q1 := e2 (2 * j) (by omega)
        have q2 := e2 (2 * j + 1) (by omega)
        rw [yvv (k2 j hj).1, yvv (m2 j (by omega)).1] at q1
        rw [yvv (k2 j hj).2, yvv (m2 j (by omega)).2] at q2
        rw [← pair_says (hf j hj).1 (hf j hj).2, ← pair_says (hg j (by omega)).1 (hg j (by omega)).2, q1, q2]
      · rintro ⟨rfl, e2⟩
        refine ⟨by omega, fun i hi => ?_⟩
        rcases Nat.mod_two_eq_zero_or_one i with e | e
        · obtain ⟨j, rfl⟩ : ∃ j, i = 2 * j := ⟨i / 2, by omega⟩
          rw [yvv (k2 j (by omega)).1, yvv (m2 j (by omega)).1, e2 j (by omega)]
        · obtain ⟨j, rfl⟩ : ∃ j, i = 2 * j + 1 := ⟨i / 2, by omega⟩
          rw [yvv (k2 j (by omega)).2, yvv (m2 j (by omega)).2, e2 j (by omega)]
/-- two codings differ: so do the texts -/
theorem Cod.dif {cd cd' : Int32} {n k : Nat} {f g : Nat → Int32} {V V' : Cell} (h : Cod cd n f V) (h' : Cod cd' k g V') (hne : ¬ cd = cd') : ¬ SameT n f k g := by
  rintro ⟨rfl, e⟩
  rcases h with ⟨rfl, -, k2⟩ | ⟨rfl, -, -, j, hj, hw⟩
  · rcases h' with ⟨rfl, -⟩ | ⟨-, -, -, j, hj, hw⟩
    · exact hne rfl
    · exact (k2 j hj).2 (by rw [e j hj]; exact hw)
  · rcases h' with ⟨-, -, m2⟩ | ⟨rfl, -⟩
    · exact (m2 j hj).2 (by rw [← e j hj]; exact hw)
    · exact hne rfl
/-- an object of exactly C is an instance of C -/
theorem cinst {p : Program} {l : Launch} {e : Env} {R : Room} {s : State} {m : MethodId} {args : Array Value} {below : List Frame} {meth : Method} {c : Code} {T : State} {locs : List Loc} {cells slots : Nat} (X : Stand p l e R s m args below meth c T locs cells slots) (hexec : p.tables.exec = Jvm.exec) {own C : String} {index : Nat} (hown : s.vm.findClass own = some m.cls) (hlink : (Cond.classLink own index C).before args s = true) {a : Addr} (hE : Exact C a T)
    {g : JFrame} (hg : g.method = m) {rest : List Value} (hstack : g.stack = .ref a :: rest) (hdg : decode c.code g.pc = .ok (.instanceof index, 3)) :
    ∃ T', Stand p l e R s m args below meth c T' locs cells slots ∧ T'.heap = T.heap ∧ ∀ target, Steps p.tables e below (T'.setTop { g with pc := g.pc + 3, stack := .int 1 :: rest }) target → Steps p.tables e below (T.setTop g) target := by
  obtain ⟨cB, h1, D, h2, h3, h4⟩ := hE
  have h1' : s.vm.findClass C = some cB := by rw [← X.warmed.alike.findClass]; exact h1
  obtain ⟨vm', X', st⟩ := X.instanceofYes hexec hown hlink h2 h4 h1' (by rw [h3]; exact Jvm.Free.SB.assignable_self _ _) hg hstack hdg
  exact ⟨_, X', rfl, st⟩
theorem cself {p : Program} {l : Launch} {e : Env} {R : Room} {s : State} {m : MethodId} {args : Array Value} {below : List Frame} {meth : Method} {c : Code} {T : State} {locs : List Loc} {cells slots : Nat} (X : Stand p l e R s m args below meth c T locs cells slots) (hexec : p.tables.exec = Jvm.exec) {own C : String} {index : Nat} (hown : s.vm.findClass own = some m.cls) (hlink : (Cond.classLink own index C).before args s = true) {a : Addr} (hE : Exact C a T)
    {g : JFrame} (hg : g.method = m) {rest : List Value} (hstack : g.stack = .ref a :: rest) (hdg : decode c.code g.pc = .ok (.checkcast index, 3)) :
    ∃ T', Stand p l e R s m args below meth c T' locs cells slots ∧ T'.heap = T.heap ∧ ∀ target, Steps p.tables e below (T'.setTop { g with pc := g.pc + 3, stack := .ref a :: rest }) target → Steps p.tables e below (T.setTop g) target := by
  obtain ⟨cB, h1, D, h2, h3, h4⟩ := hE
  have h1' : s.vm.findClass C = some cB := by rw [← X.warmed.alike.findClass]; exact h1
  obtain ⟨vm', X', st⟩ := X.checkcastYes hexec hown hlink h2 h4 h1' (by rw [h3]; exact Jvm.Free.SB.assignable_self _ _) hg hstack hdg
  exact ⟨_, X', rfl, fun t h => st t (by rw [← hstack] at h; exact h)⟩
namespace SEq
def yN : MethodName := ⟨"java/lang/String", "equals", "(Ljava/lang/Object;)Z"⟩
abbrev yB : ByteArray := jdk_42_method_66_code
theorem d0 : decode yB 0 = .ok (.aload_n 0, 1) := by decide +kernel
theorem d1 : decode yB 1 = .ok (.aload_n 1, 1) := by decide +kernel
theorem d2 : decode yB 2 = .ok (.if_acmp (.ne) 5, 3) := by decide +kernel
theorem d5 : decode yB 5 = .ok (.iconst 1, 1) := by decide +kernel
theorem d6 : decode yB 6 = .ok (.ireturn, 1) := by decide +kernel
theorem d7 : decode yB 7 = .ok (.aload_n 1, 1) := by decide +kernel
theorem d8 : decode yB 8 = .ok (.instanceof 10, 3) := by decide +kernel
theorem d11 : decode yB 11 = .ok (.ifCond (.eq) 43, 3) := by decide +kernel
theorem d14 : decode yB 14 = .ok (.aload_n 1, 1) := by decide +kernel
theorem d15 : decode yB 15 = .ok (.checkcast 10, 3) := by decide +kernel
theorem d18 : decode yB 18 = .ok (.astore_n 2, 1) := by decide +kernel
theorem d19 : decode yB 19 = .ok (.getstatic 38, 3) := by decide +kernel
theorem d22 : decode yB 22 = .ok (.ifCond (.eq) 14, 3) := by decide +kernel
theorem d25 : decode yB 25 = .ok (.aload_n 0, 1) := by decide +kernel
theorem d26 : decode yB 26 = .ok (.getfield 15, 3) := by decide +kernel
theorem d29 : decode yB 29 = .ok (.aload_n 2, 1) := by decide +kernel
theorem d30 : decode yB 30 = .ok (.getfield 15, 3) := by decide +kernel
theorem d33 : decode yB 33 = .ok (.if_icmp (.ne) 21, 3) := by decide +kernel
theorem d36 : decode yB 36 = .ok (.aload_n 0, 1) := by decide +kernel
theorem d37 : decode yB 37 = .ok (.getfield 9, 3) := by decide +kernel
theorem d40 : decode yB 40 = .ok (.aload_n 2, 1) := by decide +kernel
theorem d41 : decode yB 41 = .ok (.getfield 9, 3) := by decide +kernel
theorem d44 : decode yB 44 = .ok (.invokestatic 541, 3) := by decide +kernel
theorem d47 : decode yB 47 = .ok (.ifCond (.eq) 7, 3) := by decide +kernel
theorem d50 : decode yB 50 = .ok (.iconst 1, 1) := by decide +kernel
theorem d51 : decode yB 51 = .ok (.goto 4, 3) := by decide +kernel
theorem d54 : decode yB 54 = .ok (.iconst 0, 1) := by decide +kernel
theorem d55 : decode yB 55 = .ok (.ireturn, 1) := by decide +kernel
def site : List Cond := [.classLink "java/lang/String" 10 "java/lang/String", .fieldLink "java/lang/String" 38 "java/lang/String" "COMPACT_STRINGS" "Z", .fieldLink "java/lang/String" 15 "java/lang/String" "coder" "B", .fieldLink "java/lang/String" 9 "java/lang/String" "value" "[B", LEq.tab] ++ staticW "java/lang/String" 541 LEq.yN
def tab : Cond := tabOf yN yB 3 (some .boolean) site
def P (x t : Addr) (V : Cell) (cd : Int32) (n : Nat) (f : Nat → Int32) (y t' : Addr) (V' : Cell) (cd' : Int32) (k : Nat) (g : Nat → Int32) (z : Int32) (args : Array Value) (s : State) : Prop := args = #[.ref x, .ref y] ∧ Txt x t V cd n f s ∧ Txt y t' V' cd' k g s ∧ StaticIs s "java/lang/String" "COMPACT_STRINGS" "Z" (.int z) ∧ ¬ z = 0
/-- equals(Object) of two Strings: whether the texts are the same -/
theorem law (l : Launch) (x t : Addr) (V : Cell) (cd : Int32) (n : Nat) (f : Nat → Int32) (y t' : Addr) (V' : Cell) (cd' : Int32) (k : Nat) (g : Nat → Int32) (z : Int32) : Law l yN 2 1 1 14 yB 3 (some .boolean) site (P x t V cd n f y t' V' cd' k g z) (Says01 (SameT n f k g)) [] 0 0 := by
  refine Law.of_walk (plainFor_of_name (by decide +kernel)) (by decide +kernel) (by decide +kernel) (by decide) (fun _ _ h => by rw [h.1]; rfl) (fun _ U U' hal hh h => ⟨h.1, h.2.1.mv hal hh, h.2.2.1.mv hal hh, h.2.2.2.1.there hal hh, h.2.2.2.2⟩) (fun r U U' V V' h1 hal h2 h => Says01.mv r U U' V V' h1 hal h2 h) ?_
  intro p e s m args below meth c s₁ X0 hexec hbytes hml hret hlk hnm hown hh0 W hP
  obtain ⟨rfl, hx, hy, s1, hz⟩ := hP
  have c1 : Steps p.tables e below (s₁.setTop (entryFrame m #[.ref x, .ref y] 3)) (s₁.setTop (mkF m 2 #[.val (.ref x), .val (.ref y), .unset] [.ref y, .ref x])) := Steps.trans (entry rfl) (by
    show Steps p.tables e below (s₁.setTop (mkF m 0 #[.val (.ref x), .val (.ref y), .unset] [])) _
    refine XS.aloadN X0.here hexec rfl (hb hbytes d0) rfl rfl ?_
    refine XS.aloadN X0.here hexec rfl (hb hbytes d1) rfl rfl ?_
    exact Steps.refl _)
  by_cases hxy : x = y
  · have c2 : Steps p.tables e below (s₁.setTop (entryFrame m #[.ref x, .ref y] 3)) (s₁.setTop (mkF m 6 #[.val (.ref x), .val (.ref y), .unset] [.int 1])) := c1.trans (by
      refine acmpNo X0.here hexec rfl (hb hbytes d2) rfl rfl rfl (by simp [acmp, hxy]) ?_
      refine iconstV X0.here hexec rfl 1 (hb hbytes d5) (by decide) ?_
      exact Steps.refl _)
    subst hxy
    have ec : cd = cd' := by
      obtain ⟨D, fd, a1, a2, a3⟩ := hx.2.2.1
      obtain ⟨D', fd', b1, b2, b3⟩ := hy.2.2.1
      cases a1.symm.trans b1
      obtain ⟨q1, q2, q3, q4⟩ := a2.1
      obtain ⟨r1, r2, r3, r4⟩ := b2.1
      cases q4.symm.trans r4
      cases a3.symm.trans b3; rfl
    have et : t = t' := by
      obtain ⟨D, fd, a1, a2, a3⟩ := hx.2.1
      obtain ⟨D', fd', b1, b2, b3⟩ := hy.2.1
      cases a1.symm.trans b1
      obtain ⟨q1, q2, q3, q4⟩ := a2.1
      obtain ⟨r1, r2, r3, r4⟩ := b2.1
      cases q4.symm.trans r4
      cases a3.symm.trans b3; rfl
    subst ec et
    have ev : V = V' := by cases hx.2.2.2.1.1.symm.trans hy.2.2.2.1.1; rfl
    subst ev
    have hs : SameT n f k g := (Cod.eqv hx.2.2.2.2.1 hy.2.2.2.2.1 hx.2.2.2.2.2 hy.2.2.2.2.2).mp ⟨rfl, fun _ _ => rfl⟩
    exact ⟨s₁, some (.int 1), _, _, _, X0, rfl, rfl, rfl, (fun h => by cases h), ⟨1, rfl, hh0, Or.inl ⟨rfl, hs⟩⟩, fun fs hl => c2.trans (X0.ireturnOut hexec hret rfl (Or.inr (Or.inl rfl)) (hb hbytes d6) hl)⟩
  · have c2 : Steps p.tables e below (s₁.setTop (entryFrame m #[.ref x, .ref y] 3)) (s₁.setTop (mkF m 8 #[.val (.ref x), .val (.ref y), .unset] [.ref y])) := c1.trans (by
      refine acmpYes X0.here hexec rfl (pc0 := 2) rfl (hb hbytes d2) rfl rfl rfl (by simp [acmp, hxy]) (by decide) rfl ?_
      refine XS.aloadN X0.here hexec rfl (hb hbytes d7) rfl rfl ?_
      exact Steps.refl _)
    obtain ⟨T3, X3, q3, st3⟩ := cinst X0 hexec hown (wk W (.classLink "java/lang/String" 10 "java/lang/String")) (hy.mv X0.warmed.alike hh0).1 (g := (mkF m 8 #[.val (.ref x), .val (.ref y), .unset] [.ref y])) rfl (rest := []) rfl (hb hbytes d8)
    have hh3 := q3.trans hh0
    have c4 : Steps p.tables e below (s₁.setTop (entryFrame m #[.ref x, .ref y] 3)) (T3.setTop (mkF m 15 #[.val (.ref x), .val (.ref y), .unset] [.ref y])) := (c2.trans (st3 _ (Steps.refl _))).trans (by
      refine XS.ifNo X3.here hexec rfl (hb hbytes d11) rfl (i0_eq_f (by decide)) ?_
      refine XS.aloadN X3.here hexec rfl (hb hbytes d14) rfl rfl ?_
      exact Steps.refl _)
    obtain ⟨T5, X5, q5, st5⟩ := cself X3 hexec hown (wk W (.classLink "java/lang/String" 10 "java/lang/String")) (hy.mv X3.warmed.alike hh3).1 (g := (mkF m 15 #[.val (.ref x), .val (.ref y), .unset] [.ref y])) rfl (rest := []) rfl (hb hbytes d15)
    have hh5 := q5.trans hh3
    have c6 : Steps p.tables e below (s₁.setTop (entryFrame m #[.ref x, .ref y] 3)) (T5.setTop (mkF m 19 #[.val (.ref x), .val (.ref y), .val (.ref y)] [])) := (c4.trans (st5 _ (Steps.refl _))).trans (by
      refine XS.astoreN X5.here hexec rfl (hb hbytes d18) rfl rfl rfl ?_
      exact Steps.refl _)
    obtain ⟨T7, X7, q7, st7⟩ := X5.sget hexec hown (wk W (.fieldLink "java/lang/String" 38 "java/lang/String" "COMPACT_STRINGS" "Z")) s1 (fun _ _ h => by rw [hh5]; exact h) (g := (mkF m 19 #[.val (.ref x), .val (.ref y), .val (.ref y)] [])) rfl (hb hbytes d19)
    have hh7 := q7.trans hh5
    have c8 : Steps p.tables e below (s₁.setTop (entryFrame m #[.ref x, .ref y] 3)) (T7.setTop (mkF m 26 #[.val (.ref x), .val (.ref y), .val (.ref y)] [.ref x])) := (c6.trans (st7 _ (Steps.refl _))).trans (by
      refine XS.ifNo X7.here hexec rfl (hb hbytes d22) rfl (i0_eq_f hz) ?_
      refine XS.aloadN X7.here hexec rfl (hb hbytes d25) rfl rfl ?_
      exact Steps.refl _)
    obtain ⟨T9, X9, q9, st9⟩ := X7.hget hexec hown (wk W (.fieldLink "java/lang/String" 15 "java/lang/String" "coder" "B")) (hx.mv X7.warmed.alike hh7).2.2.1 (g := (mkF m 26 #[.val (.ref x), .val (.ref y), .val (.ref y)] [.ref x])) rfl (rest := []) rfl (hb hbytes d26)
    have hh9 := q9.trans hh7
    have c10 : Steps p.tables e below (s₁.setTop (entryFrame m #[.ref x, .ref y] 3)) (T9.setTop (mkF m 30 #[.val (.ref x), .val (.ref y), .val (.ref y)] [.ref y, .int cd])) := (c8.trans (st9 _ (Steps.refl _))).trans (by
      refine XS.aloadN X9.here hexec rfl (hb hbytes d29) rfl rfl ?_
      exact Steps.refl _)
    obtain ⟨T11, X11, q11, st11⟩ := X9.hget hexec hown (wk W (.fieldLink "java/lang/String" 15 "java/lang/String" "coder" "B")) (hy.mv X9.warmed.alike hh9).2.2.1 (g := (mkF m 30 #[.val (.ref x), .val (.ref y), .val (.ref y)] [.ref y, .int cd])) rfl (rest := [.int cd]) rfl (hb hbytes d30)
    have hh11 := q11.trans hh9
    have c12 : Steps p.tables e below (s₁.setTop (entryFrame m #[.ref x, .ref y] 3)) (T11.setTop (mkF m 33 #[.val (.ref x), .val (.ref y), .val (.ref y)] [.int cd', .int cd])) := c10.trans (st11 _ (Steps.refl _))
    by_cases hcd : cd = cd'
    · subst hcd
      have c13 : Steps p.tables e below (s₁.setTop (entryFrame m #[.ref x, .ref y] 3)) (T11.setTop (mkF m 37 #[.val (.ref x), .val (.ref y), .val (.ref y)] [.ref x])) := c12.trans (by
        refine XS.icmpNo X11.here hexec rfl (hb hbytes d33) rfl (ii_ne_f rfl) ?_
        refine XS.aloadN X11.here hexec rfl (hb hbytes d36) rfl rfl ?_
        exact Steps.refl _)
      obtain ⟨T14, X14, q14, st14⟩ := X11.hget hexec hown (wk W (.fieldLink "java/lang/String" 9 "java/lang/String" "value" "[B")) (hx.mv X11.warmed.alike hh11).2.1 (g := (mkF m 37 #[.val (.ref x), .val (.ref y), .val (.ref y)] [.ref x])) rfl (rest := []) rfl (hb hbytes d37)
      have hh14 := q14.trans hh11
      have c15 : Steps p.tables e below (s₁.setTop (entryFrame m #[.ref x, .ref y] 3)) (T14.setTop (mkF m 41 #[.val (.ref x), .val (.ref y), .val (.ref y)] [.ref y, .ref t])) := (c13.trans (st14 _ (Steps.refl _))).trans (by
        refine XS.aloadN X14.here hexec rfl (hb hbytes d40) rfl rfl ?_
        exact Steps.refl _)
      obtain ⟨T16, X16, q16, st16⟩ := X14.hget hexec hown (wk W (.fieldLink "java/lang/String" 9 "java/lang/String" "value" "[B")) (hy.mv X14.warmed.alike hh14).2.1 (g := (mkF m 41 #[.val (.ref x), .val (.ref y), .val (.ref y)] [.ref y, .ref t])) rfl (rest := [.ref t]) rfl (hb hbytes d41)
      have hh16 := q16.trans hh14
      have c17 : Steps p.tables e below (s₁.setTop (entryFrame m #[.ref x, .ref y] 3)) (T16.setTop (mkF m 44 #[.val (.ref x), .val (.ref y), .val (.ref y)] [.ref t', .ref t])) := c15.trans (st16 _ (Steps.refl _))
      obtain ⟨v18, T18, X18, E18, g18⟩ := X16.callS hexec (LEq.law l t V t' V') hown (wks W (staticW "java/lang/String" 541 LEq.yN)) (wk W LEq.tab) (W := 0) (Nat.le_of_ble_eq_true rfl) (Nat.le_of_ble_eq_true rfl) (Nat.le_refl _) (Nat.le_refl _) (g := (mkF m 44 #[.val (.ref x), .val (.ref y), .val (.ref y)] [.ref t', .ref t])) rfl (by rw [hml]; rfl) c17 (argsL := [.ref t, .ref t']) (rest := []) rfl rfl (by show 2 * 0 + 0 ≤ _; decide) (hb hbytes d44) (⟨rfl, hx.2.2.2.1.mv X16.warmed.alike hh16, hx.2.2.2.2.1.ty, hy.2.2.2.1.mv X16.warmed.alike hh16, hy.2.2.2.2.1.ty⟩)
      obtain ⟨v, rfl, q18, hv⟩ := E18
      have iff := Cod.eqv hx.2.2.2.2.1 hy.2.2.2.2.1 hx.2.2.2.2.2 hy.2.2.2.2.2
      rcases hv with ⟨rfl, he⟩ | ⟨rfl, he⟩
      · have c19 : Steps p.tables e below (s₁.setTop (entryFrame m #[.ref x, .ref y] 3)) (T18.setTop (mkF m 55 #[.val (.ref x), .val (.ref y), .val (.ref y)] [.int 1])) := Steps.trans g18 (by
          refine XS.ifNo X18.here hexec rfl (hb hbytes d47) rfl (i0_eq_f (by decide)) ?_
          refine iconstV X18.here hexec rfl 1 (hb hbytes d50) (by decide) ?_
          refine XS.goto X18.here hexec rfl (pc0 := 51) rfl (hb hbytes d51) (by decide) rfl ?_
          exact Steps.refl _)
        exact ⟨T18, some (.int 1), _, _, _, X18, rfl, rfl, rfl, (fun h => by cases h), ⟨1, rfl, q18.trans hh16, Or.inl ⟨rfl, iff.mp he⟩⟩, fun fs hl => c19.trans (X18.ireturnOut hexec hret rfl (Or.inr (Or.inl rfl)) (hb hbytes d55) hl)⟩
      · have c19 : Steps p.tables e below (s₁.setTop (entryFrame m #[.ref x, .ref y] 3)) (T18.setTop (mkF m 55 #[.val (.ref x), .val (.ref y), .val (.ref y)] [.int 0])) := Steps.trans g18 (by
          refine XS.ifYes X18.here hexec rfl (pc0 := 47) rfl (hb hbytes d47) rfl (i0_eq_t rfl) (by decide) rfl ?_
          refine iconstV X18.here hexec rfl 0 (hb hbytes d54) (by decide) ?_
          exact Steps.refl _)
        exact ⟨T18, some (.int 0), _, _, _, X18, rfl, rfl, rfl, (fun h => by cases h), ⟨0, rfl, q18.trans hh16, Or.inr ⟨rfl, fun q => he (iff.mpr q)⟩⟩, fun fs hl => c19.trans (X18.ireturnOut hexec hret rfl (Or.inr (Or.inl rfl)) (hb hbytes d55) hl)⟩
    · have c13 : Steps p.tables e below (s₁.setTop (entryFrame m #[.ref x, .ref y] 3)) (T11.setTop (mkF m 55 #[.val (.ref x), .val (.ref y), .val (.ref y)] [.int 0])) := c12.trans (by
        refine XS.icmpYes X11.here hexec rfl (pc0 := 33) rfl (hb hbytes d33) rfl (ii_ne_t hcd) (by decide) rfl ?_
        refine iconstV X11.here hexec rfl 0 (hb hbytes d54) (by decide) ?_
        exact Steps.refl _)
      exact ⟨T11, some (.int 0), _, _, _, X11, rfl, rfl, rfl, (fun h => by cases h), ⟨0, rfl, hh11, Or.inr ⟨rfl, Cod.dif hx.2.2.2.2.1 hy.2.2.2.2.1 hcd⟩⟩, fun fs hl => c13.trans (X11.ireturnOut hexec hret rfl (Or.inr (Or.inl rfl)) (hb hbytes d55) hl)⟩
theorem pays {l : Launch} {R : Room} {p : Program} {e : Env} {below : List Frame} {s : State} {sargs : Array Value} {len W : Nat} (x t : Addr) (V : Cell) (cd : Int32) (n : Nat) (f : Nat → Int32) (y t' : Addr) (V' : Cell) (cd' : Int32) (k : Nat) (g : Nat → Int32) (z : Int32) (htab : tab.before sargs s = true) (hfr : 2 ≤ R.frames) (hlo : W + 28 ≤ R.locals) :
    Back l R p e below s sargs yN len W (fun A₁ a₁ => A₁.cells + 0 ≤ R.cells ∧ A₁.slots + 0 ≤ R.slots ∧ P x t V cd n f y t' V' cd' k g z a₁ A₁.U) (fun A₁ _ v₁ B₁ => Says01 (SameT n f k g) v₁ A₁.U B₁.U ∧ B₁.locs = A₁.locs ++ [] ∧ B₁.cells = A₁.cells + 0 ∧ B₁.slots = A₁.slots + 0) :=
  (law l x t V cd n f y t' V' cd' k g z).pays htab hfr (by omega)
end SEq
end StrChars
namespace StrChars.Road
open Jvm Sem ClassFile Op Lib Jvm.Stand Jvm.Free Jvm.Free.XT
open Jvm.Lib.Cold (StaticIs)
/-- the words of String.equals(Object) -/
abbrev wordsEq : List Jvm.Cond := [.code SEq.yN SEq.yB 3 (some .boolean), .initialized ST, .classLink ST 10 ST, .fieldLink ST 38 ST "COMPACT_STRINGS" "Z", .fieldLink ST 15 ST "coder" "B", .fieldLink ST 9 ST "value" "[B", .methodLink ST 541 LEq.yN, .static LEq.yN, .code LEq.yN LEq.yB 3 (some .boolean), .initialized "java/lang/StringLatin1"]
theorem tabEq_of {a : Array Value} {s : State} (h : ∀ w ∈ wordsEq, w.before a s = true) : SEq.tab.before a s = true := by
  have hl : LEq.tab.before a s = true := unparts (wk h (.code LEq.yN LEq.yB 3 (some .boolean))) (wks h (.initialized LEq.yN.cls :: LEq.site))
  have q := consq hl h
  exact unparts (wk q (.code SEq.yN SEq.yB 3 (some .boolean))) (wks q (.initialized SEq.yN.cls :: SEq.site))
theorem movedEq {Z s : State} {a0 args : Array Value} (hZ : Z.Warmed39 s.vm) (hw : ∀ d ∈ wordsEq, d.before a0 Z = true) : ∀ d ∈ wordsEq, d.before args s = true := fun d hd => by
  have t : ∀ d ∈ wordsEq, (d.onTables && d.keepsFace) = true := by decide +kernel
  exact RoadKit.mv hZ (hw d hd) (t d hd)
/-- the road's facts of a String, as the laws ask it -/
theorem txt_of {Z U : State} {a0 : Array Value} {kI : Nat} (wi : (Jvm.Cond.instantiable ST kI).before a0 Z = true) (al : Z.vm.Alike U.vm) {x t : Addr} {kb : ClassId} {cs : List Int32} {cd N2 : Int32} {vs : List Value} (E : RoadKit.Exa Z U.heap x ST) (V : RoadKit.Fld Z U.heap x ST "value" "[B" (.ref t)) (C : RoadKit.Fld Z U.heap x ST "coder" "B" (.int cd)) (K : RoadKit.Arv Z U.heap t kb .byte N2 vs (.int 0)) (hc : CodA cs cd N2 vs) (hb : ∀ c ∈ cs, ¬ c < 0 ∧ ¬ (65535 : Int32) < c) (l2 : cs.length ≤ 4000) :
    ∃ A, Txt x t A cd cs.length (fun j => cs.getD j 0) U := by
  obtain ⟨A, K1, K2, K3, K4, K5, K6⟩ := K
  have hcod := hc.cod (by omega) K3 K5
  obtain ⟨D, fV, fC, hB, F1, F2, g1, g2, -, -⟩ := strObj wi al E V C
  exact ⟨A, ⟨_, hB.2.2.1, D, hB.1, rfl, by cases q : D.vm <;> first | rfl | exact absurd q (hB.2.1.2 _)⟩, Has.of hB F1 g1, Has.of hB F2 g2, ⟨K1.1, State.isArrayOf_alike al K1.2.1, K1.2.2, by rcases hcod with ⟨-, q, -⟩ | ⟨-, q, -⟩ <;> omega⟩, hcod, fun j hj => by
    have e : cs.getD j 0 = cs[j] := by simp [List.getD_eq_getElem?_getD, hj]
    show ¬ cs.getD j 0 < 0 ∧ ¬ 65535 < cs.getD j 0
    rw [e]; exact hb _ (List.getElem_mem _)⟩
theorem same_list (cs ds : List Int32) : SameT cs.length (fun j => cs.getD j 0) ds.length (fun j => ds.getD j 0) ↔ cs = ds := by
  constructor
  · rintro ⟨e, q⟩
    refine List.ext_getElem e fun j h1 h2 => ?_
    have := q j h1
    simpa [List.getD_eq_getElem?_getD, h1, h2] using this
  · rintro rfl
    exact ⟨rfl, fun _ _ => rfl⟩
/-- **equals(Object) OF TWO SUCH STRINGS**: 1 just where the chars are the same -/
theorem eqW {p : Program} {l : Launch} {e : Env} {R : Room} {s : State} {args : Array Value} {below : List Frame} {len W : Nat} {Z : State} {a0 : Array Value} {h : Heap} (hZ : Z.Warmed39 s.vm) (hw : ∀ d ∈ wordsEq, d.before a0 Z = true) {kI : Nat} (wi : (Jvm.Cond.instantiable ST kI).before a0 Z = true)
    {x t : Addr} {kb : ClassId} {cs : List Int32} {cd N2 : Int32} {vs : List Value} (E : RoadKit.Exa Z h x ST) (V : RoadKit.Fld Z h x ST "value" "[B" (.ref t)) (C : RoadKit.Fld Z h x ST "coder" "B" (.int cd)) (K : RoadKit.Arv Z h t kb .byte N2 vs (.int 0)) (hc : CodA cs cd N2 vs) (hb : ∀ c ∈ cs, ¬ c < 0 ∧ ¬ (65535 : Int32) < c) (l2 : cs.length ≤ 4000)
    {y t' : Addr} {kb' : ClassId} {ds : List Int32} {cd' N2' : Int32} {vs' : List Value} (E' : RoadKit.Exa Z h y ST) (V' : RoadKit.Fld Z h y ST "value" "[B" (.ref t')) (C' : RoadKit.Fld Z h y ST "coder" "B" (.int cd')) (K' : RoadKit.Arv Z h t' kb' .byte N2' vs' (.int 0)) (hc' : CodA ds cd' N2' vs') (hb' : ∀ c ∈ ds, ¬ c < 0 ∧ ¬ (65535 : Int32) < c) (l2' : ds.length ≤ 4000)
    {z : Int32} (S : RoadKit.Sta Z h ST "COMPACT_STRINGS" "Z" (.int z)) (hz : ¬ z = 0) (hfr : 2 ≤ R.frames) (hlo : W + 28 ≤ R.locals) :
    Back l R p e below s args (⟨"java/lang/String", "equals", "(Ljava/lang/Object;)Z"⟩ : MethodName) len W (fun P a => a = #[.ref x, .ref y] ∧ P.U.heap = h ∧ P.cells + 0 ≤ R.cells ∧ P.slots + 0 ≤ R.slots)
      (fun P _ v B => ∃ L, (((v = some (.int 1) ∧ cs = ds) ∨ (v = some (.int 0) ∧ ¬ cs = ds)) ∧ L = [] ∧ B.U.heap = h) ∧ B.locs = P.locs ++ L ∧ B.cells = P.cells + 0 ∧ B.slots = P.slots + 0) := by
  intro m meth c P g ig mk a X hg hsize hdg hW hn hp'
  obtain ⟨rfl, rfl, r1, r2⟩ := hp'
  have al : Z.vm.Alike P.U.vm := hZ.alike.trans X.warmed.alike
  obtain ⟨A, hx⟩ := txt_of wi al E V C K hc hb l2
  obtain ⟨A', hy⟩ := txt_of wi al E' V' C' K' hc' hb' l2'
  obtain ⟨v, B, X', ⟨⟨w, hv, hh, hq⟩, hl, hk, hs⟩, st⟩ := SEq.pays x t A cd cs.length (fun j => cs.getD j 0) y t' A' cd' ds.length (fun j => ds.getD j 0) z (tabEq_of (movedEq hZ hw)) hfr hlo m meth c P g ig mk _ X hg hsize hdg hW hn ⟨r1, r2, rfl, hx, hy, sta_is al S, hz⟩
  refine ⟨v, B, X', ⟨[], ⟨?_, rfl, hh⟩, hl, hk, hs⟩, st⟩
  rcases hq with ⟨rfl, q⟩ | ⟨rfl, q⟩
  · exact Or.inl ⟨hv, (same_list cs ds).mp q⟩
  · exact Or.inr ⟨hv, fun e => q ((same_list cs ds).mpr e)⟩
end StrChars.Road
namespace StrChars
open Jvm Sem ClassFile Op Lib Jvm.Stand Jvm.Free.XT Jvm.Free.ALB Jvm.Free.JM Jvm.Free
open Jvm.Lib.Cold (StaticIs)
namespace ChN
def yN : MethodName := ⟨"java/lang/String", "charAt", "(I)C"⟩
abbrev yB : ByteArray := jdk_42_method_56_code
theorem d0 : decode yB 0 = .ok (.aload_n 0, 1) := by decide +kernel
theorem d1 : decode yB 1 = .ok (.invokevirtual 492, 3) := by decide +kernel
theorem d4 : decode yB 4 = .ok (.ifCond (.eq) 12, 3) := by decide +kernel
theorem d7 : decode yB 7 = .ok (.aload_n 0, 1) := by decide +kernel
theorem d8 : decode yB 8 = .ok (.getfield 9, 3) := by decide +kernel
theorem d11 : decode yB 11 = .ok (.iload_n 1, 1) := by decide +kernel
theorem d12 : decode yB 12 = .ok (.invokestatic 495, 3) := by decide +kernel
theorem d15 : decode yB 15 = .ok (.ireturn, 1) := by decide +kernel
def site : List Cond := [.fieldLink "java/lang/String" 9 "java/lang/String" "value" "[B", IsL.tab, LChA.tab] ++ virtW "java/lang/String" 492 "java/lang/String" IsL.yN IsL.yN ++ staticW "java/lang/String" 495 LChA.yN
def tab : Cond := tabOf yN yB 2 (some .char) site
def P (x t : Addr) (V : Cell) (n : Nat) (f : Nat → Int32) (z : Int32) (fm : Value) (i : Nat) (args : Array Value) (s : State) : Prop := args = #[.ref x, .int (Int32.ofNat i)] ∧ Txt x t V 0 n f s ∧ i < n ∧ StaticIs s "java/lang/String" "COMPACT_STRINGS" "Z" (.int z) ∧ ¬ z = 0 ∧ StaticIs s "jdk/internal/util/Preconditions" "SIOOBE_FORMATTER" "Ljava/util/function/BiFunction;" fm ∧ fm.isRef = true
def E (f : Nat → Int32) (i : Nat) (r : Option Value) (s u : State) : Prop := XT.PureE (some (.int (f i))) r s u
/-- charAt(i) of a Latin-1 String of n chars, i < n: f i -/
theorem law (l : Launch) (x t : Addr) (V : Cell) (n : Nat) (f : Nat → Int32) (z : Int32) (fm : Value) (i : Nat) : Law l yN 2 1 3 40 yB 2 (some .char) site (P x t V n f z fm i) (E f i) [] 0 0 := by
  refine Law.of_walk (plainFor_of_name (by decide +kernel)) (by decide +kernel) (by decide +kernel) (by decide) (fun _ _ h => by rw [h.1]; rfl) (fun _ U U' hal hh h => ⟨h.1, h.2.1.mv hal hh, h.2.2.1, h.2.2.2.1.there hal hh, h.2.2.2.2.1, h.2.2.2.2.2.1.there hal hh, h.2.2.2.2.2.2⟩) (fun r U U' V V' h1 hal h2 h => XT.PureE.mv r U U' V V' h1 hal h2 h) ?_
  intro p e s m args below meth c s₁ X0 hexec hbytes hml hret hlk hnm hown hh0 W hP
  obtain ⟨rfl, hx, hi, s1, hz, s3, rf⟩ := hP
  have v31 := hx.2.2.2.1.2.2.2
  have hr := hx.2.2.2.2.2 i hi
  have hx0 := hx.mv X0.warmed.alike hh0
  have c1 : Steps p.tables e below (s₁.setTop (entryFrame m #[.ref x, .int (Int32.ofNat i)] 2)) (s₁.setTop (mkF m 1 #[.val (.ref x), .val (.int (Int32.ofNat i))] [.ref x])) := Steps.trans (entry rfl) (by
    show Steps p.tables e below (s₁.setTop (mkF m 0 #[.val (.ref x), .val (.int (Int32.ofNat i))] [])) _
    refine XS.aloadN X0.here hexec rfl (hb hbytes d0) rfl rfl ?_
    exact Steps.refl _)
  obtain ⟨v2, T2, X2, E2, g2⟩ := X0.callV hexec (IsL.law l x 0 z) hown (wks W (virtW "java/lang/String" 492 "java/lang/String" IsL.yN IsL.yN)) rfl (by decide) (wk W IsL.tab) (W := 0) (Nat.le_of_ble_eq_true rfl) (Nat.le_of_ble_eq_true rfl) (Nat.le_refl _) (Nat.le_refl _) (hx0.1.fc X0.warmed.alike) hx0.1.is (g := (mkF m 1 #[.val (.ref x), .val (.int (Int32.ofNat i))] [.ref x])) rfl (by rw [hml]; rfl) c1 (argsL := []) (rest := []) rfl rfl (by show 2 * 0 + 0 ≤ _; decide) (hb hbytes d1) (⟨rfl, hx0.2.2.1, hx.2.2.2.2.1.cd, s1.there X0.warmed.alike hh0, hz⟩)
  obtain ⟨rfl, q2⟩ := E2
  have hh2 := q2.trans hh0
  have hx2 := hx.mv X2.warmed.alike hh2
  obtain ⟨-, k1, k2⟩ | ⟨k0, -⟩ := hx.2.2.2.2.1
  · have c3 : Steps p.tables e below (s₁.setTop (entryFrame m #[.ref x, .int (Int32.ofNat i)] 2)) (T2.setTop (mkF m 8 #[.val (.ref x), .val (.int (Int32.ofNat i))] [.ref x])) := Steps.trans g2 (by
      refine XS.ifNo X2.here hexec rfl (hb hbytes d4) rfl (i0_eq_f (by decide)) ?_
      refine XS.aloadN X2.here hexec rfl (hb hbytes d7) rfl rfl ?_
      exact Steps.refl _)
    obtain ⟨T4, X4, q4, st4⟩ := X2.hget hexec hown (wk W (.fieldLink "java/lang/String" 9 "java/lang/String" "value" "[B")) hx2.2.1 (g := (mkF m 8 #[.val (.ref x), .val (.int (Int32.ofNat i))] [.ref x])) rfl (rest := []) rfl (hb hbytes d8)
    have hh4 := q4.trans hh2
    have c5 : Steps p.tables e below (s₁.setTop (entryFrame m #[.ref x, .int (Int32.ofNat i)] 2)) (T4.setTop (mkF m 12 #[.val (.ref x), .val (.int (Int32.ofNat i))] [.int (Int32.ofNat i), .ref t])) := (c3.trans (st4 _ (Steps.refl _))).trans (by
      refine XS.iloadN X4.here hexec rfl (hb hbytes d11) rfl ?_
      exact Steps.refl _)
    obtain ⟨v6, T6, X6, E6, g6⟩ := X4.callS hexec (LChA.law l t V i (lo8 (f i)) fm) hown (wks W (staticW "java/lang/String" 495 LChA.yN)) (wk W LChA.tab) (W := 0) (Nat.le_of_ble_eq_true rfl) (Nat.le_of_ble_eq_true rfl) (Nat.le_refl _) (Nat.le_refl _) (g := (mkF m 12 #[.val (.ref x), .val (.int (Int32.ofNat i))] [.int (Int32.ofNat i), .ref t])) rfl (by rw [hml]; rfl) c5 (argsL := [.ref t, .int (Int32.ofNat i)]) (rest := []) rfl rfl (by show 2 * 0 + 0 ≤ _; decide) (hb hbytes d12) (⟨rfl, hx.2.2.2.1.mv X4.warmed.alike hh4, (k2 i hi).1, s3.there X4.warmed.alike hh4, rf⟩)
    obtain ⟨rfl, q6⟩ := E6
    rw [chr8_lo8 hr.1 (k2 i hi).2] at g6
    exact ⟨T6, some (.int (f i)), _, _, _, X6, rfl, rfl, rfl, (fun h => by cases h), ⟨rfl, q6.trans hh4⟩, fun fs hl => Steps.trans g6 (X6.ireturnOut hexec hret (narrow_ch hr.1 hr.2) (Or.inr (Or.inr (Or.inr (Or.inl rfl)))) (hb hbytes d15) hl)⟩
  · exact absurd k0 (by decide)
theorem pays {l : Launch} {R : Room} {p : Program} {e : Env} {below : List Frame} {s : State} {sargs : Array Value} {len W : Nat} (x t : Addr) (V : Cell) (n : Nat) (f : Nat → Int32) (z : Int32) (fm : Value) (i : Nat) (htab : tab.before sargs s = true) (hfr : 4 ≤ R.frames) (hlo : W + 53 ≤ R.locals) :
    Back l R p e below s sargs yN len W (fun A₁ a₁ => A₁.cells + 0 ≤ R.cells ∧ A₁.slots + 0 ≤ R.slots ∧ P x t V n f z fm i a₁ A₁.U) (fun A₁ _ v₁ B₁ => E f i v₁ A₁.U B₁.U ∧ B₁.locs = A₁.locs ++ [] ∧ B₁.cells = A₁.cells + 0 ∧ B₁.slots = A₁.slots + 0) :=
  (law l x t V n f z fm i).pays htab hfr (by omega)
end ChN
end StrChars
namespace StrChars.Road
open Jvm Sem ClassFile Op Lib Jvm.Stand Jvm.Free Jvm.Free.XT
open Jvm.Lib.Cold (StaticIs)
/-- the words of String.charAt(int), the Latin-1 road alone -/
abbrev wordsChN : List Jvm.Cond := [.code ChN.yN ChN.yB 2 (some .char), .initialized ST, .fieldLink ST 9 ST "value" "[B", .fieldLink ST 38 ST "COMPACT_STRINGS" "Z", .fieldLink ST 15 ST "coder" "B", .code IsL.yN IsL.yB 1 (some .boolean), .methodLink ST 492 IsL.yN, .declares IsL.yN, .selects ST IsL.yN IsL.yN, .instanceMethod IsL.yN,
  .methodLink ST 495 LChA.yN, .static LChA.yN, .code LChA.yN LChA.yB 2 (some .char), .initialized "java/lang/StringLatin1", .methodLink "java/lang/StringLatin1" 9 JO.Str_checkIndex.yN, .static JO.Str_checkIndex.yN, .code JO.Str_checkIndex.yN JO.Str_checkIndex.yB 2 none,
  .fieldLink ST 1053 "jdk/internal/util/Preconditions" "SIOOBE_FORMATTER" "Ljava/util/function/BiFunction;", .methodLink ST 1059 JC.PreCheck.yN, .static JC.PreCheck.yN, .code JC.PreCheck.yN JC.PreCheck.yB 3 (some .int), .initialized "jdk/internal/util/Preconditions"]
theorem tabChN_of {a : Array Value} {s : State} (h : ∀ w ∈ wordsChN, w.before a s = true) : ChN.tab.before a s = true := by
  have hp : JC.PreCheck.tab.before a s = true := unparts (wk h (.code JC.PreCheck.yN JC.PreCheck.yB 3 (some .int))) (wks h (.initialized JC.PreCheck.yN.cls :: JC.PreCheck.site))
  have qk := consq hp h
  have hk : JO.Str_checkIndex.tab.before a s = true := unparts (wk qk (.code JO.Str_checkIndex.yN JO.Str_checkIndex.yB 2 none)) (wks qk (.initialized JO.Str_checkIndex.yN.cls :: JO.Str_checkIndex.site))
  have ql := consq hk h
  have hl : LChA.tab.before a s = true := unparts (wk ql (.code LChA.yN LChA.yB 2 (some .char))) (wks ql (.initialized LChA.yN.cls :: LChA.site))
  have hi : IsL.tab.before a s = true := unparts (wk h (.code IsL.yN IsL.yB 1 (some .boolean))) (wks h (.initialized IsL.yN.cls :: IsL.site))
  have q := consq hi (consq hl h)
  exact unparts (wk q (.code ChN.yN ChN.yB 2 (some .char))) (wks q (.initialized ChN.yN.cls :: ChN.site))
theorem movedChN {Z s : State} {a0 args : Array Value} (hZ : Z.Warmed39 s.vm) (hw : ∀ d ∈ wordsChN, d.before a0 Z = true) : ∀ d ∈ wordsChN, d.before args s = true := fun d hd => by
  have t : ∀ d ∈ wordsChN, (d.onTables && d.keepsFace) = true := by decide +kernel
  exact RoadKit.mv hZ (hw d hd) (t d hd)
/-- **charAt(i) OF A LATIN-1 STRING**, i < n: the char -/
theorem chN {p : Program} {l : Launch} {e : Env} {R : Room} {s : State} {args : Array Value} {below : List Frame} {len W : Nat} {Z : State} {a0 : Array Value} {h : Heap} (hZ : Z.Warmed39 s.vm) (hw : ∀ d ∈ wordsChN, d.before a0 Z = true) {kI : Nat} (wi : (Jvm.Cond.instantiable ST kI).before a0 Z = true)
    {x t : Addr} {kb : ClassId} {cs : List Int32} {N2 z : Int32} {vs : List Value} {fm : Value} {i : Nat} {j : Int32} (E : RoadKit.Exa Z h x ST) (V : RoadKit.Fld Z h x ST "value" "[B" (.ref t)) (C : RoadKit.Fld Z h x ST "coder" "B" (.int 0)) (K : RoadKit.Arv Z h t kb .byte N2 vs (.int 0)) (hc : CodA cs 0 N2 vs) (hb : ∀ c ∈ cs, ¬ c < 0 ∧ ¬ (65535 : Int32) < c)
    (S : RoadKit.Sta Z h ST "COMPACT_STRINGS" "Z" (.int z)) (hz : ¬ z = 0) (F : RoadKit.Sta Z h "jdk/internal/util/Preconditions" "SIOOBE_FORMATTER" "Ljava/util/function/BiFunction;" fm) (rf : fm.isRef = true) (l2 : cs.length ≤ 4000) (hi : i < cs.length) (hj : j = Int32.ofNat i) (hfr : 4 ≤ R.frames) (hlo : W + 53 ≤ R.locals) :
    Back l R p e below s args (⟨"java/lang/String", "charAt", "(I)C"⟩ : MethodName) len W (fun P a => a = #[.ref x, .int j] ∧ P.U.heap = h ∧ P.cells + 0 ≤ R.cells ∧ P.slots + 0 ≤ R.slots)
      (fun P _ v B => ∃ L, (v = some (.int (cs.getD i 0)) ∧ L = [] ∧ B.U.heap = h) ∧ B.locs = P.locs ++ L ∧ B.cells = P.cells + 0 ∧ B.slots = P.slots + 0) := by
  subst hj
  intro m meth c P g ig mk a X hg hsize hdg hW hn hp'
  obtain ⟨rfl, rfl, r1, r2⟩ := hp'
  have al : Z.vm.Alike P.U.vm := hZ.alike.trans X.warmed.alike
  obtain ⟨A, hx⟩ := txt_of wi al E V C K hc hb l2
  obtain ⟨v, B, X', ⟨⟨hv, hh⟩, hl, hk, hs⟩, st⟩ := ChN.pays x t A cs.length (fun j => cs.getD j 0) z fm i (tabChN_of (movedChN hZ hw)) hfr hlo m meth c P g ig mk _ X hg hsize hdg hW hn ⟨r1, r2, rfl, hx, hi, sta_is al S, hz, sta_is al F, rf⟩
  exact ⟨v, B, X', ⟨[], ⟨hv, rfl, hh⟩, hl, hk, hs⟩, st⟩
/-- what backV says of its String, as the contracts of this text ask it: cs's low bytes, coder 0 -/
theorem codOf {cs : List Int32} {n : Nat} (hn : cs.length = n) (hb : ∀ c ∈ cs, ¬ 255 < c) : CodA cs 0 (Int32.ofNat n) ((cs.map lo8).map Value.int) := Or.inl ⟨rfl, by rw [hn], by simp [List.map_map, Function.comp_def], hb⟩
end StrChars.Road
end Jvm.Pilot.@@N@@
@@BLOCK:LamKit.lean.txt@@
namespace Jvm.OwnKit
open Sem ClassFile Op Lib Bundle Jvm.Stand Jvm.Free Jvm.LawKit Jvm.RoadKit
section K
variable {p : Program} {l : Launch} {e : Env} {R : Room} {s : State} {m : MethodId} {args : Array Value} {below : List Frame} {meth : Method} {c : Code} {Z : State} {a0 : Array Value} {EL : List (String × Nat)} {n0 : Nat} {own : String} {vm0 vm1 : Vm} {T T' : State} {h h' : Heap} {L L' : List Loc} {k n k' n' : Nat} {ss : List Addr} {P : Outcome → State → Prop} {U V : State} {pc : Nat} {Ls : Array Slot} {rest : List Value}
/-- what is left of a walk that stands at U: it ends, and P holds of its end -/
def Go (p : Program) (e : Env) (below : List Frame) (P : Outcome → State → Prop) (U : State) : Prop := ∃ s₂ o, Steps p.tables e below U s₂ ∧ s₂.status = .running ∧ Ended s₂ below o ∧ P o s₂
theorem Go.st (st : ∀ target, Steps p.tables e below V target → Steps p.tables e below U target) (G : Go p e below P V) : Go p e below P U := by
  obtain ⟨s₂, o, h1, r⟩ := G
  exact ⟨s₂, o, st _ h1, r⟩
theorem Go.tr (st : Steps p.tables e below U V) (G : Go p e below P V) : Go p e below P U := by
  obtain ⟨s₂, o, h1, r⟩ := G
  exact ⟨s₂, o, st.trans h1, r⟩
/-- none of these cells is a booked literal's -/
def Saf (Z : State) (EL : List (String × Nat)) (vm : Vm) (h : Heap) (ss : List Addr) : Prop := ∀ x ∈ ss, Safe Z EL vm h x ∧ x < h.size
theorem Saf.chr (S : Saf Z EL vm0 h ss) (A : CHr Z EL vm0 h vm1 h') : Saf Z EL vm1 h' ss := fun x hx => ⟨A.safe (S x hx).2 (S x hx).1, Nat.lt_of_lt_of_le (S x hx).2 A.2.1⟩
/-- where a walk stands that may load literals: the tables vm0, the state T, its heap h, what it has written and made -/
def Wk (p : Program) (l : Launch) (e : Env) (R : Room) (s : State) (m : MethodId) (args : Array Value) (below : List Frame) (meth : Method) (c : Code) (Z : State) (a0 : Array Value) (EL : List (String × Nat)) (n0 : Nat) (own : String) (vm0 : Vm) (T : State) (h : Heap) (L : List Loc) (k n : Nat) (ss : List Addr) : Prop :=
  Stand p l e R (s.setVm vm0) m args below meth c T L k n ∧ T.heap = h ∧ (∃ j, s.Since vm0 j ∧ j ≤ h.size) ∧ Z.Warmed39 vm0 ∧ vm0.findClass own = some m.cls ∧ CHr Z EL s.vm s.heap vm0 h ∧ Fr n0 L ∧ Old Z n0 h ∧ Saf Z EL vm0 h ss ∧ p.tables.exec = Jvm.exec ∧ EW Z a0 EL ∧ meth.locks = false
theorem Wk.X (W : Wk p l e R s m args below meth c Z a0 EL n0 own vm0 T h L k n ss) : Stand p l e R (s.setVm vm0) m args below meth c T L k n := W.1
theorem Wk.hp (W : Wk p l e R s m args below meth c Z a0 EL n0 own vm0 T h L k n ss) : T.heap = h := W.2.1
theorem Wk.sc (W : Wk p l e R s m args below meth c Z a0 EL n0 own vm0 T h L k n ss) : ∃ j, s.Since vm0 j ∧ j ≤ h.size := W.2.2.1
theorem Wk.hZ (W : Wk p l e R s m args below meth c Z a0 EL n0 own vm0 T h L k n ss) : Z.Warmed39 (s.setVm vm0).vm := W.2.2.2.1
theorem Wk.ho (W : Wk p l e R s m args below meth c Z a0 EL n0 own vm0 T h L k n ss) : (s.setVm vm0).vm.findClass own = some m.cls := W.2.2.2.2.1
theorem Wk.cr (W : Wk p l e R s m args below meth c Z a0 EL n0 own vm0 T h L k n ss) : CHr Z EL s.vm s.heap vm0 h := W.2.2.2.2.2.1
theorem Wk.cv (W : Wk p l e R s m args below meth c Z a0 EL n0 own vm0 T h L k n ss) : CHv Z EL vm0 h := W.cr.1
theorem Wk.fr (W : Wk p l e R s m args below meth c Z a0 EL n0 own vm0 T h L k n ss) : Fr n0 L := W.2.2.2.2.2.2.1
theorem Wk.old (W : Wk p l e R s m args below meth c Z a0 EL n0 own vm0 T h L k n ss) : Old Z n0 h := W.2.2.2.2.2.2.2.1
theorem Wk.sf (W : Wk p l e R s m args below meth c Z a0 EL n0 own vm0 T h L k n ss) : Saf Z EL vm0 h ss := W.2.2.2.2.2.2.2.2.1
theorem Wk.ex (W : Wk p l e R s m args below meth c Z a0 EL n0 own vm0 T h L k n ss) : p.tables.exec = Jvm.exec := W.2.2.2.2.2.2.2.2.2.1
theorem Wk.ew (W : Wk p l e R s m args below meth c Z a0 EL n0 own vm0 T h L k n ss) : EW Z a0 EL := W.2.2.2.2.2.2.2.2.2.2.1
theorem Wk.nl (W : Wk p l e R s m args below meth c Z a0 EL n0 own vm0 T h L k n ss) : meth.locks = false := W.2.2.2.2.2.2.2.2.2.2.2
theorem Wk.here (W : Wk p l e R s m args below meth c Z a0 EL n0 own vm0 T h L k n ss) : At T m c below := W.1.here
theorem Wk.n0le (W : Wk p l e R s m args below meth c Z a0 EL n0 own vm0 T h L k n ss) : n0 ≤ h.size := by have := W.old.2.1; rw [W.old.1] at this; exact this
/-- the case's start's heap stands in the heap at hand -/
theorem Wk.e0 (W : Wk p l e R s m args below meth c Z a0 EL n0 own vm0 T h L k n ss) : Ext Z.heap h := W.old.2
theorem Wk.same (W : Wk p l e R s m args below meth c Z a0 EL n0 own vm0 T h L k n ss) (X : Stand p l e R (s.setVm vm0) m args below meth c T' L k' n') (q : T'.heap = h) : Wk p l e R s m args below meth c Z a0 EL n0 own vm0 T' h L k' n' ss :=
  ⟨X, q, W.2.2⟩
theorem Wk.step (W : Wk p l e R s m args below meth c Z a0 EL n0 own vm0 T h L k n ss) (X : Stand p l e R (s.setVm vm1) m args below meth c T' L' k' n') (q : T'.heap = h') (S : ∃ j, s.Since vm1 j ∧ j ≤ h'.size) (hZ : Z.Warmed39 vm1) (ho : vm1.findClass own = some m.cls) (A : CHr Z EL vm0 h vm1 h') (F : Fr n0 L') (O : Old Z n0 h') : Wk p l e R s m args below meth c Z a0 EL n0 own vm1 T' h' L' k' n' ss :=
  ⟨X, q, S, hZ, ho, W.cr.trans A, F, O, W.sf.chr A, W.ex, W.ew, W.nl⟩
theorem Wk.stepE (W : Wk p l e R s m args below meth c Z a0 EL n0 own vm0 T h L k n ss) (X : Stand p l e R (s.setVm vm0) m args below meth c T' L k' n') (q : T'.heap = h') (E : Ext h h') : Wk p l e R s m args below meth c Z a0 EL n0 own vm0 T' h' L k' n' ss := by
  obtain ⟨j, S, hj⟩ := W.sc
  exact W.step X q ⟨j, S, Nat.le_trans hj E.1⟩ W.hZ W.ho (CHr.ext E W.cv) W.fr (W.old.ext E)
theorem Wk.stepK (W : Wk p l e R s m args below meth c Z a0 EL n0 own vm0 T h L k n ss) (X : Stand p l e R (s.setVm vm0) m args below meth c T' L' k' n') (q : T'.heap = h') {ws : List Addr} (K : Keep h h' ws) (hs : ∀ x ∈ ws, x ∈ ss) (hn : ∀ x ∈ ws, n0 ≤ x) (F : Fr n0 L') : Wk p l e R s m args below meth c Z a0 EL n0 own vm0 T' h' L' k' n' ss := by
  obtain ⟨j, S, hj⟩ := W.sc
  exact W.step X q ⟨j, S, Nat.le_trans hj K.1⟩ W.hZ W.ho (CHr.keep K (fun x hx => (W.sf x (hs x hx)).1) W.cv) F (W.old.keep K hn)
theorem Wk.stepW (W : Wk p l e R s m args below meth c Z a0 EL n0 own vm0 T h L k n ss) {a : Addr} {sl : Nat} {v : Value} (X : Stand p l e R (s.setVm vm0) m args below meth c T' (L ++ [⟨a, sl⟩]) k' n') (q : T'.heap = h') (Wr : Wr h h' a sl v) (hs : a ∈ ss) (hn : n0 ≤ a) : Wk p l e R s m args below meth c Z a0 EL n0 own vm0 T' h' (L ++ [⟨a, sl⟩]) k' n' ss :=
  W.stepK X q (Keep.of_wr Wr) (allS hs all0) (allS hn all0) (Fr.snoc X W.fr hn)
theorem Wk.cons (W : Wk p l e R s m args below meth c Z a0 EL n0 own vm0 T h L k n ss) {x : Addr} (S : Safe Z EL vm0 h x) (hx : x < h.size) : Wk p l e R s m args below meth c Z a0 EL n0 own vm0 T h L k n (x :: ss) :=
  ⟨W.X, W.hp, W.sc, W.hZ, W.ho, W.cr, W.fr, W.old, allS (P := fun x => Safe Z EL vm0 h x ∧ x < h.size) ⟨S, hx⟩ W.sf, W.ex, W.ew, W.nl⟩
theorem Wk.more (W : Wk p l e R s m args below meth c Z a0 EL n0 own vm0 T h L k n ss) (hk : k ≤ k') (hn : n ≤ n') : Wk p l e R s m args below meth c Z a0 EL n0 own vm0 T h L k' n' ss := ⟨W.1.more hk hn, W.2⟩
theorem Wk.sub {ss' : List Addr} (W : Wk p l e R s m args below meth c Z a0 EL n0 own vm0 T h L k n ss) (q : ∀ x ∈ ss', x ∈ ss) : Wk p l e R s m args below meth c Z a0 EL n0 own vm0 T h L k n ss' :=
  ⟨W.X, W.hp, W.sc, W.hZ, W.ho, W.cr, W.fr, W.old, fun x hx => W.sf x (q x hx), W.ex, W.ew, W.nl⟩
/-- where roads meet -/
theorem Wk.meet (W : Wk p l e R s m args below meth c Z a0 EL n0 own vm0 T h L k n ss) (hk : k ≤ k') (hn : n ≤ n') : Wk p l e R s m args below meth c Z a0 EL n0 own vm0 T h L k' n' [] := (W.more hk hn).sub all0
theorem Wk.consA (W : Wk p l e R s m args below meth c Z a0 EL n0 own vm0 T h L k n ss) {a : Addr} {kA : ClassId} {ty : FieldType} {z : Int32} {vs : List Value} {dv : Value} (F : Arv Z h a kA ty z vs dv) (ht : ty ≠ .byte) : Wk p l e R s m args below meth c Z a0 EL n0 own vm0 T h L k n (a :: ss) := by
  obtain ⟨cl, A, -⟩ := F
  exact W.cons (Safe.arr W.hZ.alike A ht) A.lt
theorem Wk.consE (W : Wk p l e R s m args below meth c Z a0 EL n0 own vm0 T h L k n ss) {a : Addr} {C : String} (E : Exa Z h a C) (h1 : C ≠ "java/lang/String") (h2 : C ≠ "[B") : Wk p l e R s m args below meth c Z a0 EL n0 own vm0 T h L k n (a :: ss) := W.cons (Safe.exa W.hZ.alike E h1 h2) E.lt
/-! one step each -/
theorem Wk.getF (W : Wk p l e R s m args below meth c Z a0 EL n0 own vm0 T h L k n ss) {R0 O nm d : String} {index : Nat} (w : (Cond.fieldLink own index R0 nm d).before a0 Z = true) (via : Via Z R0 O nm d) {a : Addr} {v : Value} (F : Fld Z h a O nm d v) (hd : decode c.code pc = .ok (.getfield index, 3))
    (K : ∀ T', Wk p l e R s m args below meth c Z a0 EL n0 own vm0 T' h L k n ss → Go p e below P (T'.setTop (mkF m (pc + 3) Ls (v :: rest)))) : Go p e below P (T.setTop (mkF m pc Ls (.ref a :: rest))) := by
  obtain ⟨T', X', e', st⟩ := RoadKit.getF W.X W.ex W.hZ W.ho (host := "") (Or.inl w) via W.hp F (g := mkF m pc Ls (.ref a :: rest)) rfl rfl hd
  exact Go.st st (K T' (W.same X' e'))
theorem Wk.getFN (W : Wk p l e R s m args below meth c Z a0 EL n0 own vm0 T h L k n ss) {R0 O nm d host : String} {index : Nat} (w : (Cond.fieldLinkNest own index R0 nm d host).before a0 Z = true) (via : Via Z R0 O nm d) {a : Addr} {v : Value} (F : Fld Z h a O nm d v) (hd : decode c.code pc = .ok (.getfield index, 3))
    (K : ∀ T', Wk p l e R s m args below meth c Z a0 EL n0 own vm0 T' h L k n ss → Go p e below P (T'.setTop (mkF m (pc + 3) Ls (v :: rest)))) : Go p e below P (T.setTop (mkF m pc Ls (.ref a :: rest))) := by
  obtain ⟨T', X', e', st⟩ := RoadKit.getF W.X W.ex W.hZ W.ho (Or.inr w) via W.hp F (g := mkF m pc Ls (.ref a :: rest)) rfl rfl hd
  exact Go.st st (K T' (W.same X' e'))
theorem Wk.getS (W : Wk p l e R s m args below meth c Z a0 EL n0 own vm0 T h L k n ss) {R0 O nm d : String} {index : Nat} (w : (Cond.fieldLink own index R0 nm d).before a0 Z = true) (via : Via Z R0 O nm d) {v : Value} (F : Sta Z h O nm d v) (hd : decode c.code pc = .ok (.getstatic index, 3))
    (K : ∀ T', Wk p l e R s m args below meth c Z a0 EL n0 own vm0 T' h L k n ss → Go p e below P (T'.setTop (mkF m (pc + 3) Ls (v :: rest)))) : Go p e below P (T.setTop (mkF m pc Ls rest)) := by
  obtain ⟨T', X', e', st⟩ := RoadKit.getS2 W.X W.ex W.hZ W.ho (host := "") (Or.inl w) via W.hp F (g := mkF m pc Ls rest) rfl hd
  exact Go.st st (K T' (W.same X' e'))
theorem Wk.putF (W : Wk p l e R s m args below meth c Z a0 EL n0 own vm0 T h L k n ss) {R0 O nm d C : String} {index kk : Nat} {ty : FieldType} (w : (Cond.fieldLink own index R0 nm d).before a0 Z = true) (via : Via Z R0 O nm d) {a : Addr} {v old : Value} (F : Fld Z h a O nm d old) (E : Exa Z h a C) (La : (Cond.lays C O nm d).before a0 Z = true ∨ ((Cond.laysFinal C O nm d).before a0 Z = true ∧ own = O ∧ meth.name = "<init>")) (wi : (Cond.instantiable C kk).before a0 Z = true)
    (hty : parseFieldDescriptor d = some ty) (hn : narrow ty v = v) (hf : fits ty v = true) (hs : a ∈ ss) (ha : n0 ≤ a) (hd : decode c.code pc = .ok (.putfield index, 3))
    (K : ∀ T' h' L', Wk p l e R s m args below meth c Z a0 EL n0 own vm0 T' h' L' k n ss → Wr h h' a (RoadKit.slotOf Z O nm d) v → Go p e below P (T'.setTop (mkF m (pc + 3) Ls rest))) : Go p e below P (T.setTop (mkF m pc Ls (v :: .ref a :: rest))) := by
  obtain ⟨T', h', X', e', w', st⟩ := RoadKit.putF W.X W.ex W.hZ W.ho (host := "") (Or.inl w) via W.hp F E La wi hty hn hf (g := mkF m pc Ls (v :: .ref a :: rest)) rfl rfl hd
  exact Go.st st (K T' h' _ (W.stepW X' e' w' hs ha) w')
theorem Wk.putFN (W : Wk p l e R s m args below meth c Z a0 EL n0 own vm0 T h L k n ss) {R0 O nm d C : String} {index kk : Nat} {ty : FieldType} (w : (Cond.fieldLink own index R0 nm d).before a0 Z = true) (via : Via Z R0 O nm d) {a : Addr} {v v' old : Value} (F : Fld Z h a O nm d old) (E : Exa Z h a C) (La : (Cond.lays C O nm d).before a0 Z = true ∨ ((Cond.laysFinal C O nm d).before a0 Z = true ∧ own = O ∧ meth.name = "<init>")) (wi : (Cond.instantiable C kk).before a0 Z = true)
    (hty : parseFieldDescriptor d = some ty) (hn : narrow ty v = v') (hf : fits ty v' = true) (hs : a ∈ ss) (ha : n0 ≤ a) (hd : decode c.code pc = .ok (.putfield index, 3))
    (K : ∀ T' h' L', Wk p l e R s m args below meth c Z a0 EL n0 own vm0 T' h' L' k n ss → Wr h h' a (RoadKit.slotOf Z O nm d) v' → Go p e below P (T'.setTop (mkF m (pc + 3) Ls rest))) : Go p e below P (T.setTop (mkF m pc Ls (v :: .ref a :: rest))) := by
  obtain ⟨T', h', X', e', w', st⟩ := RoadKit.putFN W.X W.ex W.hZ W.ho w via W.hp F E La wi hty hn hf (g := mkF m pc Ls (v :: .ref a :: rest)) rfl rfl hd
  exact Go.st st (K T' h' _ (W.stepW X' e' w' hs ha) w')
theorem Wk.newO (W : Wk p l e R s m args below meth c Z a0 EL n0 own vm0 T h L k n ss) {C : String} {index j : Nat} (w : (Cond.classLink own index C).before a0 Z = true) (wi : (Cond.instantiable C j).before a0 Z = true) (wz : (Cond.initialized C).before a0 Z = true) (hd : decode c.code pc = .ok (.new index, 3)) (hk : k + 1 = k') (hn : n + j = n') (hc : k' ≤ R.cells) (hl : n' ≤ R.slots)
    (K : ∀ T' h' b, b = h.size → n0 ≤ b → Wk p l e R s m args below meth c Z a0 EL n0 own vm0 T' h' L k' n' (b :: ss) → Ext h h' → Exa Z h' b C → (∀ {O nm d : String} {ty : FieldType}, Laid Z a0 C O nm d → parseFieldDescriptor d = some ty → Fld Z h' b O nm d (defaultValue ty)) → Go p e below P (T'.setTop (mkF m (pc + 3) Ls (.ref b :: rest)))) : Go p e below P (T.setTop (mkF m pc Ls rest)) := by
  subst hk hn
  obtain ⟨T', h', X', e', E, A, D, -, st⟩ := RoadKit.newO W.X W.ex W.hZ W.ho w wi wz W.hp (g := mkF m pc Ls rest) rfl hd hc hl
  have W' := W.stepE X' e' E
  exact Go.st st (K T' h' _ rfl W.n0le (W'.cons ((Safe.new (Nat.le_refl _)).ext E W.cv) A.lt) E A D)
theorem Wk.newP (W : Wk p l e R s m args below meth c Z a0 EL n0 own vm0 T h L k n ss) {aty : ArrayType} {ty : FieldType} {dv : Value} (hty : newarray.typeOf aty = ty) (hdv : defaultValue ty = dv) (w : (Cond.arrayClass ty).before a0 Z = true) (hd : decode c.code pc = .ok (.newarray aty, 2)) {z : Int32} (hz : ¬ z < 0) {cap : Nat} (hcap : z.toNatClampNeg ≤ cap) (hb : cap * 8 ≤ 536870912) (hk : k + 1 = k') (hn : n + cap = n') (hc : k' ≤ R.cells) (hl : n' ≤ R.slots)
    (K : ∀ T' h' b kA, b = h.size → n0 ≤ b → Wk p l e R s m args below meth c Z a0 EL n0 own vm0 T' h' L k' n' (b :: ss) → Ext h h' → Arv Z h' b kA ty z (List.replicate cap dv) dv → Go p e below P (T'.setTop (mkF m (pc + 2) Ls (.ref b :: rest)))) : Go p e below P (T.setTop (mkF m pc Ls (.int z :: rest))) := by
  subst hk hn hty hdv
  obtain ⟨T', h', cA, X', e', E, A, st⟩ := RoadKit.newP W.X W.ex W.hZ w W.hp (g := mkF m pc Ls (.int z :: rest)) rfl hd rfl hz hcap hb hc hl
  have W' := W.stepE X' e' E
  exact Go.st st (K T' h' _ cA rfl W.n0le (W'.cons ((Safe.new (Nat.le_refl _)).ext E W.cv) A.lt) E ((Arv.new A hz).pad (pad_rep [] _ cap)))
theorem Wk.alen (W : Wk p l e R s m args below meth c Z a0 EL n0 own vm0 T h L k n ss) {a : Addr} {kA : ClassId} {ty : FieldType} {z : Int32} {vs : List Value} {dv : Value} (F : Arv Z h a kA ty z vs dv) (hd : decode c.code pc = .ok (.arraylength, 1)) (G : Go p e below P (T.setTop (mkF m (pc + 1) Ls (.int z :: rest)))) : Go p e below P (T.setTop (mkF m pc Ls (.ref a :: rest))) := by
  obtain ⟨cl, A, q1, S, N, H, Gs⟩ := F
  rw [← len_of S N] at G
  exact Go.st (fun t => W.X.arraylength W.ex (by rw [W.hp]; exact A.1) (State.isArrayOf_alike W.hZ.alike A.2.1) (g := mkF m pc Ls (.ref a :: rest)) rfl rfl hd t) G
theorem inb {cl : Cell} {z j : Int32} (S : cl.slots.size = z.toNatClampNeg) (q : ¬ j < 0 ∧ j < z) : ¬ (j < 0 ∨ cl.slots.size ≤ j.toNatClampNeg) := inb_of S q
theorem Wk.ldC (W : Wk p l e R s m args below meth c Z a0 EL n0 own vm0 T h L k n ss) {a : Addr} {kA : ClassId} {z j : Int32} {vs : List Value} {dv v : Value} (F : Arv Z h a kA .char z vs dv) (q : ¬ j < 0 ∧ j < z) (hv : vs.getD j.toNatClampNeg dv = v) (hd : decode c.code pc = .ok (.caload, 1)) (G : Go p e below P (T.setTop (mkF m (pc + 1) Ls (v :: rest)))) : Go p e below P (T.setTop (mkF m pc Ls (.int j :: .ref a :: rest))) := by
  obtain ⟨cl, A, q1, S, N, H, Gs⟩ := F
  exact Go.st (fun t => W.X.caload W.ex (by rw [W.hp]; exact A.1) (State.isArrayOf_alike W.hZ.alike A.2.1) A.2.2 (inb S q) (H.at (inb S q) hv) (g := mkF m pc Ls (.int j :: .ref a :: rest)) rfl rfl hd t) G
theorem Wk.ldB (W : Wk p l e R s m args below meth c Z a0 EL n0 own vm0 T h L k n ss) {a : Addr} {kA : ClassId} {z j : Int32} {vs : List Value} {dv v : Value} (F : Arv Z h a kA .byte z vs dv) (q : ¬ j < 0 ∧ j < z) (hv : vs.getD j.toNatClampNeg dv = v) (hd : decode c.code pc = .ok (.baload, 1)) (G : Go p e below P (T.setTop (mkF m (pc + 1) Ls (v :: rest)))) : Go p e below P (T.setTop (mkF m pc Ls (.int j :: .ref a :: rest))) := by
  obtain ⟨cl, A, q1, S, N, H, Gs⟩ := F
  exact Go.st (fun t => W.X.baloadBytes W.ex (by rw [W.hp]; exact A.1) (State.isArrayOf_alike W.hZ.alike A.2.1) A.2.2 (inb S q) (H.at (inb S q) hv) (g := mkF m pc Ls (.int j :: .ref a :: rest)) rfl rfl hd t) G
theorem Wk.ldA (W : Wk p l e R s m args below meth c Z a0 EL n0 own vm0 T h L k n ss) {a : Addr} {kA : ClassId} {ty : FieldType} {z j : Int32} {vs : List Value} {dv v : Value} (F : Arv Z h a kA ty z vs dv) (hty : ty.isReference = true) (q : ¬ j < 0 ∧ j < z) (hv : vs.getD j.toNatClampNeg dv = v) (hd : decode c.code pc = .ok (.aaload, 1)) (G : Go p e below P (T.setTop (mkF m (pc + 1) Ls (v :: rest)))) : Go p e below P (T.setTop (mkF m pc Ls (.int j :: .ref a :: rest))) := by
  obtain ⟨cl, A, q1, S, N, H, Gs⟩ := F
  exact Go.st (fun t => W.X.aaload W.ex (by rw [W.hp]; exact A.1) (State.isArrayOf_alike W.hZ.alike A.2.1) hty A.2.2 (inb S q) (H.at (inb S q) hv) (g := mkF m pc Ls (.int j :: .ref a :: rest)) rfl rfl hd t) G
theorem Wk.stC (W : Wk p l e R s m args below meth c Z a0 EL n0 own vm0 T h L k n ss) {a : Addr} {kA : ClassId} {z j x : Int32} {vs : List Value} {dv : Value} (F : Arv Z h a kA .char z vs dv) (q : ¬ j < 0 ∧ j < z) (i : Nat) (hi : j.toNatClampNeg = i) (hl : i < vs.length) (hs : a ∈ ss) (ha : n0 ≤ a) (hd : decode c.code pc = .ok (.castore, 1))
    (K : ∀ T' h' L', Wk p l e R s m args below meth c Z a0 EL n0 own vm0 T' h' L' k n ss → Wr h h' a j.toNatClampNeg (.int (nar .char x)) → Arv Z h' a kA .char z (vs.set i (.int (nar .char x))) dv → Go p e below P (T'.setTop (mkF m (pc + 1) Ls rest))) : Go p e below P (T.setTop (mkF m pc Ls (.int x :: .int j :: .ref a :: rest))) := by
  obtain ⟨cl, A, q1, S, N, H, Gs⟩ := F
  obtain ⟨T', h', X', e', w', st⟩ := RoadKit.stC W.X W.ex W.hZ W.hp A (inb S q) (g := mkF m pc Ls (.int x :: .int j :: .ref a :: rest)) rfl rfl hd
  exact Go.st st (K T' h' _ (W.stepW X' e' w' hs ha) w' (Arv.set A q1 S N H Gs (fits_nar_char _) w' i hi hl))
theorem Wk.stB (W : Wk p l e R s m args below meth c Z a0 EL n0 own vm0 T h L k n ss) {a : Addr} {kA : ClassId} {z j x : Int32} {vs : List Value} {dv : Value} (F : Arv Z h a kA .byte z vs dv) (q : ¬ j < 0 ∧ j < z) (i : Nat) (hi : j.toNatClampNeg = i) (hl : i < vs.length) (hs : a ∈ ss) (ha : n0 ≤ a) (hd : decode c.code pc = .ok (.bastore, 1))
    (K : ∀ T' h' L', Wk p l e R s m args below meth c Z a0 EL n0 own vm0 T' h' L' k n ss → Wr h h' a j.toNatClampNeg (.int (nar .byte x)) → Arv Z h' a kA .byte z (vs.set i (.int (nar .byte x))) dv → Go p e below P (T'.setTop (mkF m (pc + 1) Ls rest))) : Go p e below P (T.setTop (mkF m pc Ls (.int x :: .int j :: .ref a :: rest))) := by
  obtain ⟨cl, A, q1, S, N, H, Gs⟩ := F
  obtain ⟨T', h', X', e', w', st⟩ := RoadKit.stB W.X W.ex W.hZ W.hp A (inb S q) (g := mkF m pc Ls (.int x :: .int j :: .ref a :: rest)) rfl rfl hd
  exact Go.st st (K T' h' _ (W.stepW X' e' w' hs ha) w' (Arv.set A q1 S N H Gs (fits_nar_byte _) w' i hi hl))
theorem Wk.castY (W : Wk p l e R s m args below meth c Z a0 EL n0 own vm0 T h L k n ss) {C : String} {index : Nat} (w : (Cond.classLink own index C).before a0 Z = true) {a : Addr} (F : Ins Z h a C true) (hd : decode c.code pc = .ok (.checkcast index, 3))
    (K : ∀ T', Wk p l e R s m args below meth c Z a0 EL n0 own vm0 T' h L k n ss → Go p e below P (T'.setTop (mkF m (pc + 3) Ls (.ref a :: rest)))) : Go p e below P (T.setTop (mkF m pc Ls (.ref a :: rest))) := by
  obtain ⟨T', X', e', st⟩ := RoadKit.castY W.X W.ex W.hZ W.ho w W.hp F (g := mkF m pc Ls (.ref a :: rest)) rfl rfl hd
  exact Go.st st (K T' (W.same X' e'))
theorem Wk.instY (W : Wk p l e R s m args below meth c Z a0 EL n0 own vm0 T h L k n ss) {C : String} {index : Nat} (w : (Cond.classLink own index C).before a0 Z = true) {a : Addr} (F : Ins Z h a C true) (hd : decode c.code pc = .ok (.instanceof index, 3))
    (K : ∀ T', Wk p l e R s m args below meth c Z a0 EL n0 own vm0 T' h L k n ss → Go p e below P (T'.setTop (mkF m (pc + 3) Ls (.int 1 :: rest)))) : Go p e below P (T.setTop (mkF m pc Ls (.ref a :: rest))) := by
  obtain ⟨T', X', e', st⟩ := RoadKit.instY W.X W.ex W.hZ W.ho w W.hp F (g := mkF m pc Ls (.ref a :: rest)) rfl rfl hd
  exact Go.st st (K T' (W.same X' e'))
theorem Wk.instN (W : Wk p l e R s m args below meth c Z a0 EL n0 own vm0 T h L k n ss) {C D : String} {index : Nat} (w : (Cond.classLink own index C).before a0 Z = true) {a : Addr} (E : Exa Z h a D) (F : ∃ c t, Z.vm.findClass D = some c ∧ Z.vm.findClass C = some t ∧ Z.vm.assignable c t = false) (hd : decode c.code pc = .ok (.instanceof index, 3))
    (K : ∀ T', Wk p l e R s m args below meth c Z a0 EL n0 own vm0 T' h L k n ss → Go p e below P (T'.setTop (mkF m (pc + 3) Ls (.int 0 :: rest)))) : Go p e below P (T.setTop (mkF m pc Ls (.ref a :: rest))) := by
  obtain ⟨T', X', e', st⟩ := RoadKit.instNo W.X W.ex W.hZ W.ho w W.hp E F (g := mkF m pc Ls (.ref a :: rest)) rfl rfl hd
  exact Go.st st (K T' (W.same X' e'))
theorem Wk.initO (W : Wk p l e R s m args below meth c Z a0 EL n0 own vm0 T h L k n ss) {index : Nat} (w1 : (Cond.methodLink own index Lib.objectInit).before a0 Z = true) (w2 : (Cond.instanceMethod Lib.objectInit).before a0 Z = true) (w3 : (Cond.code Lib.objectInit ⟨#[0xb1]⟩ 1 none).before a0 Z = true) (hsz : Ls.size = c.maxLocals) {a : Addr} (hd : decode c.code pc = .ok (.invokespecial index, 3)) (hf : 1 ≤ R.frames) {Wd : Nat} (hW : (rest.map fun v => v.category).sum ≤ Wd) (hl : Wd + 12 ≤ R.locals)
    (K : ∀ T', Wk p l e R s m args below meth c Z a0 EL n0 own vm0 T' h L k n ss → Go p e below P (T'.setTop (mkF m (pc + 3) Ls rest))) : Go p e below P (T.setTop (mkF m pc Ls (.ref a :: rest))) := by
  obtain ⟨T', X', e', st⟩ := RoadKit.initO W.X W.ex W.hZ W.ho w1 w2 w3 W.hp (g := mkF m pc Ls (.ref a :: rest)) rfl hsz rfl hd hf (W := Wd) (by show 2 * 0 + _ ≤ _; omega) hl
  exact Go.st st (K T' (W.same X' e'))
/-- an array's clone() -/
theorem Wk.clone (W : Wk p l e R s m args below meth c Z a0 EL n0 own vm0 T h L k n ss) {index : Nat} {ad : String} (w1 : (Cond.methodLink own index ⟨ad, "clone", "()Ljava/lang/Object;"⟩).before a0 Z = true) (w2 : (Cond.sameMethod ad "java/lang/Object" "clone" "()Ljava/lang/Object;").before a0 Z = true) (w3 : (Cond.native ⟨"java/lang/Object", "clone", "()Ljava/lang/Object;"⟩).before a0 Z = true)
    (w4 : (Cond.instanceMethod ⟨"java/lang/Object", "clone", "()Ljava/lang/Object;"⟩).before a0 Z = true) (w5 : (Cond.selects ad ⟨ad, "clone", "()Ljava/lang/Object;"⟩ ⟨"java/lang/Object", "clone", "()Ljava/lang/Object;"⟩).before a0 Z = true) (w6 : (Cond.castable ad "java/lang/Cloneable").before a0 Z = true)
    {a : Addr} {kA : ClassId} {ty : FieldType} {z : Int32} {vs : List Value} {dv : Value} (F : Arv Z h a kA ty z vs dv) (E : Exa Z h a ad) (hsz : Ls.size = c.maxLocals) (hd : decode c.code pc = .ok (.invokevirtual index, 3)) (hf : 1 ≤ R.frames) {Wd cap : Nat} (hW : (rest.map fun v => v.category).sum ≤ Wd) (hl : Wd + 14 ≤ R.locals) (hcap : z.toNatClampNeg ≤ cap) (hk : k + 1 = k') (hn : n + cap = n') (hc : k' ≤ R.cells) (hs : n' ≤ R.slots)
    (K : ∀ T' h' b, b = h.size → n0 ≤ b → Wk p l e R s m args below meth c Z a0 EL n0 own vm0 T' h' L k' n' (b :: ss) → Ext h h' → Arv Z h' b kA ty z vs dv → Exa Z h' b ad → Go p e below P (T'.setTop (mkF m (pc + 3) Ls (.ref b :: rest)))) : Go p e below P (T.setTop (mkF m pc Ls (.ref a :: rest))) := by
  subst hk hn
  obtain ⟨T', h', X', e', ex, A, E', st⟩ := RoadKit.cloneH W.X W.ex W.hZ W.ho w1 w2 w3 w4 w5 w6 W.hp F.arh E (g := mkF m pc Ls (.ref a :: rest)) rfl hsz rfl hd hf (W := Wd) (by show 2 * 0 + _ ≤ _; omega) hl hcap hc hs
  have W' := W.stepE X' e' ex
  exact Go.st st (K T' h' _ rfl W.n0le (W'.cons ((Safe.new (Nat.le_refl _)).ext ex W.cv) A.lt) ex A E')
/-- 'ldc' of a String constant of EL, read -/
theorem Wk.ldc (W : Wk p l e R s m args below meth c Z a0 EL n0 own vm0 T h L k n ss) {text : String} {index : Nat} (w : (Cond.stringLink own index text).before a0 Z = true) (wS : ∀ a ∈ Bundle.stringAtoms, a.before a0 Z = true) (hmem : (own, index) ∈ EL) {vs : List Value} {z : Int32} (ht : (∀ c ∈ text.toList, c.toNat < 256) ∧ text.toList.map (fun c => Value.int (Jvm.Lit.byteI c.toNat.toUInt16)) = vs) (hz : ¬ z < 0) (hlz : z.toNatClampNeg = vs.length)
    (hd : decode c.code pc = .ok (.ldc index, 2)) {j : Nat} (hj : 4 * text.toList.length ≤ j) (hbig : j ≤ 536870912) (hk : k + 2 = k') (hn : n + (j + 4) = n') (hc : k' ≤ R.cells) (hl : n' ≤ R.slots)
    (K : ∀ vm1 T' h' a b kA, Wk p l e R s m args below meth c Z a0 EL n0 own vm1 T' h' L k' n' ss → Ext h h' → Exa Z h' a "java/lang/String" → Fld Z h' a "java/lang/String" "coder" "B" (.int 0) → Fld Z h' a "java/lang/String" "value" "[B" (.ref b) → Arv Z h' b kA .byte z vs (.int 0) → (∀ x ∈ ss, x ≠ a ∧ x ≠ b) → Go p e below P (T'.setTop (mkF m (pc + 2) Ls (.ref a :: rest)))) : Go p e below P (T.setTop (mkF m pc Ls rest)) := by
  subst hk hn
  obtain ⟨j0, S, hj0⟩ := W.sc
  obtain ⟨a, T', h', k1, b, kA, X', e', E, S', hk1, hZ', ho', EA, FC, FV, AV, la, lb, A, -, ne, st⟩ := RoadKit.ldcCH W.X W.ex W.hZ W.ho w wS W.hp S hj0 W.ew hmem W.cv ht hz hlz (g := mkF m pc Ls rest) rfl hd hj hbig hc hl
  have W' := W.step X' e' ⟨k1, S', hk1⟩ hZ' ho' A W.fr (W.old.ext E)
  exact Go.st st (K T'.vm T' h' a b kA W' E EA FC FV AV fun x hx => ne x (W'.sf x hx).1)
end K
section C
variable {p : Program} {l : Launch} {e : Env} {R : Room} {s : State} {m : MethodId} {args : Array Value} {below : List Frame} {meth : Method} {c : Code} {Z : State} {a0 : Array Value} {EL : List (String × Nat)} {n0 : Nat} {own : String} {vm0 vm1 : Vm} {T T' : State} {h h' : Heap} {L L' : List Loc} {k n k' n' : Nat} {ss ss' : List Addr} {P : Outcome → State → Prop} {U V : State} {pc : Nat} {Ls : Array Slot} {rest : List Value}
/-- the end that a body owes -/
def Pst (Z : State) (EL : List (String × Nat)) (n0 : Nat) (s : State) (ck cn : Nat) (Q : Option Value → Vm → Heap → Prop) (o : Outcome) (U : State) : Prop :=
  ∃ v L, o = .returned v ∧ (Q v U.vm U.heap ∧ Fr n0 L ∧ Old Z n0 U.heap) ∧ CHr Z EL s.vm s.heap U.vm U.heap ∧ ReturnedEndW s o U L ck cn
/-- a body's contract: called with as' at the heap h, the cells ss no literal's, it returns with Q -/
def Ct (l : Launch) (Z : State) (EL : List (String × Nat)) (n0 : Nat) (ws : List Cond) (y : MethodName) (bytes : ByteArray) (maxL : Nat) (ret : Option FieldType) (rm : Room) (as' : Array Value) (ss : List Addr) (h : Heap) (Q : Option Value → Vm → Heap → Prop) : Prop :=
  MetFree l y (head1 (Cond.code y bytes maxL ret :: ws) rm) (fun a U => a = as' ∧ Z.Warmed39 U.vm ∧ U.heap = h ∧ CHv Z EL U.vm h ∧ Saf Z EL U.vm h ss) (fun _ _ _ _ _ => True) (fun _ U o U' => Pst Z EL n0 U rm.cells rm.slots Q o U')
theorem Ct.intro {ws : List Cond} {y : MethodName} {bytes : ByteArray} {maxL : Nat} {ret : Option FieldType} {rm : Room} {as' : Array Value} {Q : Option Value → Vm → Heap → Prop} (hx : plainFor y = true) (O : Old Z n0 h) (hew : EW Z a0 EL)
    (body : ∀ (p : Program) (e : Env) (s : State) (m : MethodId) (below : List Frame) (meth : Method) (c : Code) (s₁ : State), Wk p l e rm s m as' below meth c Z a0 EL n0 y.cls s.vm s₁ h [] 0 0 ss → c.code = bytes → c.maxLocals = maxL → meth.sig.returnType = ret → meth.name = y.name → Go p e below (Pst Z EL n0 s rm.cells rm.slots Q) (s₁.setTop (entryFrame m as' maxL))) :
    Ct l Z EL n0 ws y bytes maxL ret rm as' ss h Q := by
  refine MetFree.of_bodySF hx hisR ?_
  intro p e s m args below meth c s₁ Bd hml0 hP hK
  obtain ⟨rfl, hZ, hh, hcv, hsf⟩ := hP
  subst hh
  have X0 : Stand p l e rm s m args below meth c s₁ [] 0 0 := Stand.of_body Bd
  have e0 : s₁.heap = s.heap := by rw [Bd.state]; rfl
  exact body p e s m below meth c s₁ ⟨X0, e0, ⟨_, (State.WarmedH.refl s).since s.heap.size, Nat.le_refl _⟩, hZ, findClass_of_methodNamed Bd.named, CHr.refl hcv, Fr.nil n0, O, hsf, Bd.exec, hew, Bd.notSynchronized⟩ Bd.bytes hml0 Bd.returns (name_of_methodNamed Bd.named Bd.method).1
theorem Ct.mono {ws : List Cond} {y : MethodName} {bytes : ByteArray} {maxL : Nat} {ret : Option FieldType} {rm : Room} {as' : Array Value} {Q Q' : Option Value → Vm → Heap → Prop} (C : Ct l Z EL n0 ws y bytes maxL ret rm as' ss h Q) (q : ∀ v vm h', Q v vm h' → Q' v vm h') : Ct l Z EL n0 ws y bytes maxL ret rm as' ss h Q' := by
  intro p e ha hc hk s m args below hf happ hP hK
  obtain ⟨n, o, h1, h2, h3, v, L, h4, ⟨h5, h6⟩, h7⟩ := C p e ha hc hk s m args below hf happ hP hK
  exact ⟨n, o, h1, h2, h3, v, L, h4, ⟨q _ _ _ h5, h6⟩, h7⟩
theorem Wk.ret {v : Option Value} {ck cn : Nat} {Q : Option Value → Vm → Heap → Prop} {g : JFrame} (W : Wk p l e R s m args below meth c Z a0 EL n0 own vm0 T h L k n ss) (hv : meth.sig.returnType = none → v = none) (hk : k ≤ ck) (hn : n ≤ cn)
    (st : ∀ fs, (∀ (f : JFrame) (acts : List Action), f.method = m → f.locked = none → f.entered = [] → (doReturn e (T.setTop f) acts v).1 = T.setFrames fs) → Steps p.tables e below (T.setTop g) (T.setFrames fs)) (q : ∀ vm1, CHr Z EL vm0 h vm1 h → Q v vm1 h) : Go p e below (Pst Z EL n0 s ck cn Q) (T.setTop g) := by
  obtain ⟨j, S, hj⟩ := W.sc
  have hj' : j ≤ T.heap.size := by rw [W.hp]; exact hj
  obtain ⟨fs, hr, hrun, hend, r1, r2, r3, r4⟩ := W.X.leaveW S hj' (v := v) hv W.nl
  have A := CHv.at W.X W.hZ W.ew W.cv
  have e1 : (T.setFrames fs).heap = h := W.hp
  refine ⟨_, _, st fs hr, hrun, hend, v, L, rfl, ⟨?_, W.fr, ?_⟩, ?_, r1, r2, r3, r4.mono hk hn⟩
  · rw [e1]; exact q _ A
  · rw [e1]; exact W.old
  · rw [e1]; exact W.cr.trans A
theorem Wk.retV {ck cn : Nat} {Q : Option Value → Vm → Heap → Prop} (W : Wk p l e R s m args below meth c Z a0 EL n0 own vm0 T h L k n ss) (hret : meth.sig.returnType = none) (hd : decode c.code pc = .ok (.return_, 1)) (hk : k ≤ ck) (hn : n ≤ cn) (q : ∀ vm1, CHr Z EL vm0 h vm1 h → Q none vm1 h) : Go p e below (Pst Z EL n0 s ck cn Q) (T.setTop (mkF m pc Ls [])) :=
  W.ret (fun _ => rfl) hk hn (fun fs hr => W.X.returnOut W.ex hret hd hr) q
theorem Wk.retA {ck cn : Nat} {Q : Option Value → Vm → Heap → Prop} {v : Value} {t : FieldType} (W : Wk p l e R s m args below meth c Z a0 EL n0 own vm0 T h L k n ss) (hret : meth.sig.returnType = some t) (ht : t.isReference = true) (hv : v.isRef = true) (hd : decode c.code pc = .ok (.areturn, 1)) (hk : k ≤ ck) (hn : n ≤ cn) (q : ∀ vm1, CHr Z EL vm0 h vm1 h → Q (some v) vm1 h) : Go p e below (Pst Z EL n0 s ck cn Q) (T.setTop (mkF m pc Ls (v :: rest))) :=
  W.ret (fun h => by rw [hret] at h; cases h) hk hn (fun fs hr => retOut W.X W.ex hret (by rcases ref_cases hv with rfl | ⟨z, rfl⟩ <;> cases t <;> first | rfl | cases ht) (Or.inr (Or.inr (Or.inr (Or.inr ⟨rfl, ht, hv⟩)))) hd hr) q
theorem Wk.retI {ck cn : Nat} {Q : Option Value → Vm → Heap → Prop} {z : Int32} (W : Wk p l e R s m args below meth c Z a0 EL n0 own vm0 T h L k n ss) (hret : meth.sig.returnType = some .int) (hd : decode c.code pc = .ok (.ireturn, 1)) (hk : k ≤ ck) (hn : n ≤ cn) (q : ∀ vm1, CHr Z EL vm0 h vm1 h → Q (some (.int z)) vm1 h) : Go p e below (Pst Z EL n0 s ck cn Q) (T.setTop (mkF m pc Ls (.int z :: rest))) :=
  W.ret (fun h => by rw [hret] at h; cases h) hk hn (fun fs hr => retOut W.X W.ex hret rfl (Or.inl ⟨rfl, Or.inl rfl, z, rfl⟩) hd hr) q
theorem Wk.retN {ck cn : Nat} {Q : Option Value → Vm → Heap → Prop} {z : Int32} {t : FieldType} (W : Wk p l e R s m args below meth c Z a0 EL n0 own vm0 T h L k n ss) (hret : meth.sig.returnType = some t) (ht : t = .boolean ∨ t = .byte ∨ t = .char ∨ t = .short) (hd : decode c.code pc = .ok (.ireturn, 1)) (hk : k ≤ ck) (hn : n ≤ cn) (q : ∀ vm1, CHr Z EL vm0 h vm1 h → Q (some (.int (nar t z))) vm1 h) : Go p e below (Pst Z EL n0 s ck cn Q) (T.setTop (mkF m pc Ls (.int z :: rest))) :=
  W.ret (fun h => by rw [hret] at h; cases h) hk hn (fun fs hr => RoadKit.retN W.X W.ex hret ht hd hr) q
/-- a contract pays a call -/
theorem Ct.back {y : MethodName} {bytes : ByteArray} {maxL : Nat} {ret : Option FieldType} {rm : Room} {as' : Array Value} {Q : Option Value → Vm → Heap → Prop} {len Wd : Nat} (C : Ct l Z EL n0 [] y bytes maxL ret rm as' ss' h Q) (W : Wk p l e R s m args below meth c Z a0 EL n0 own vm0 T h L k n ss) (wc : (Cond.code y bytes maxL ret).before a0 Z = true) (wz : (Cond.initialized y.cls).before a0 Z = true) (hss : ∀ x ∈ ss', x ∈ ss) (hf : rm.frames + 1 ≤ R.frames) (hl : Wd + (maxL + 11) + rm.locals ≤ R.locals) :
    BackS l R p e below (s.setVm vm0) args y len Wd (fun A a => a = as' ∧ A.U.heap = h ∧ A.cells + rm.cells ≤ R.cells ∧ A.slots + rm.slots ≤ R.slots)
      (fun A _ v B => ∃ L', (Q v B.U.vm B.U.heap ∧ Fr n0 L' ∧ Old Z n0 B.U.heap) ∧ B.locs = A.locs ++ L' ∧ B.cells = A.cells + rm.cells ∧ B.slots = A.slots + rm.slots ∧ CHr Z EL vm0 h B.U.vm B.U.heap) :=
  BackS.of_freeW (bytes := bytes) (maxL := maxL) (ret := ret) (E := fun _ first o t L' k' n' => k' = rm.cells ∧ n' = rm.slots ∧ (∃ v, o = .returned v ∧ (Q v t.vm t.heap ∧ Fr n0 L' ∧ Old Z n0 t.heap)) ∧ CHr Z EL first.vm first.heap t.vm t.heap) C hf hl
    (fun m' meth' c' A a Y hp => by
      have hU : Z.Warmed39 A.U.vm := wtrans (s := s.setVm vm0) W.hZ Y.warmed
      exact ⟨by show (Cond.and _ .tt).before a A.U = true; rw [Cond.before_and, mv hU wc]; rfl, mv hU wc, mv hU wz, hp.2.2.1, hp.2.2.2⟩)
    (fun m' meth' c' A a g mk Y hp => by
      have A0 : CHr Z EL vm0 h A.U.vm h := CHv.at Y W.hZ W.ew W.cv
      have A1 : Saf Z EL vm0 h ss' := fun x hx => W.sf x (hss x hx)
      exact ⟨hp.1, wtrans (s := s.setVm vm0) W.hZ Y.warmed, hp.2.1, A0.1, A1.chr A0⟩) (fun _ _ _ _ _ _ _ _ _ => trivial)
    (fun _ _ _ _ ⟨v, L', h1, h2, h3, h4⟩ => ⟨L', _, _, h4, rfl, rfl, ⟨v, h1, h2⟩, h3⟩)
    (fun m' meth' c' A a g mk v t L' k' n' Y hp _ _ ⟨e1, e2, ⟨v', e3, e4⟩, e5⟩ => by
      cases e3; subst e1 e2
      refine ⟨L', e4, rfl, rfl, rfl, (CHv.at Y W.hZ W.ew W.cv).trans ?_⟩
      rw [← hp.2.1]; exact e5)
/-- behind a call that may have interned -/
theorem Wk.behind {B : Pt} {n1 : Nat} (W : Wk p l e R s m args below meth c Z a0 EL n0 own vm0 T h L k n ss) (X : Stand p l e R ((s.setVm vm0).setVm B.U.vm) m args below meth c B.U B.locs B.cells B.slots) (S : (s.setVm vm0).Since B.U.vm B.U.heap.size) (g : T.heap.size ≤ B.U.heap.size) (hl : B.locs = L ++ L') (F : Fr n0 L') (O : Old Z n0 B.U.heap) (A : CHr Z EL vm0 h B.U.vm B.U.heap) (hk : B.cells = k') (hn : B.slots = n') : Wk p l e R s m args below meth c Z a0 EL n0 own B.U.vm B.U B.U.heap (L ++ L') k' n' ss := by
  obtain ⟨j, S0, hj⟩ := W.sc
  obtain ⟨X', S', hZ', ho'⟩ := rebS (n1 := T.heap.size) S0 (by rw [W.hp]; exact hj) X S g W.hZ W.ho
  subst hk hn
  rw [← hl]
  exact W.step X' rfl ⟨_, S', Nat.le_refl _⟩ hZ' ho' A (by rw [hl]; exact W.fr.app F) O
theorem Wk.callS (W : Wk p l e R s m args below meth c Z a0 EL n0 own vm0 T h L k n ss) {index : Nat} {y : MethodName} {bytes : ByteArray} {maxL : Nat} {ret : Option FieldType} {rm : Room} {as' : Array Value} {Q : Option Value → Vm → Heap → Prop} {Wd : Nat} {st argsL : List Value} (w1 : (Cond.methodLink own index y).before a0 Z = true) (w2 : (Cond.static y).before a0 Z = true) (w3 : (Cond.initialized y.cls).before a0 Z = true) (w4 : (Cond.code y bytes maxL ret).before a0 Z = true) (hy : y.cls ≠ "java/lang/invoke/MethodHandle" ∧ y.cls ≠ "java/lang/invoke/VarHandle")
    (C : Ct l Z EL n0 [] y bytes maxL ret rm as' ss' h Q) (hss : ∀ x ∈ ss', x ∈ ss) (hf : rm.frames + 1 ≤ R.frames) (hl : Wd + (maxL + 11) + rm.locals ≤ R.locals) (hk : k + rm.cells = k') (hn : n + rm.slots = n') (hc : k' ≤ R.cells) (hs : n' ≤ R.slots) (hsz : Ls.size = c.maxLocals) (ha : argsL.toArray = as') (hlen : ∀ sig, parseMethodDescriptor y.desc = some sig → argsL.length = sig.parameters.length) (hst : st = argsL.reverse ++ rest) (hW : (rest.map fun v => v.category).sum ≤ Wd) (hd : decode c.code pc = .ok (.invokestatic index, 3))
    (K : ∀ v vm1 T' h' L', Wk p l e R s m args below meth c Z a0 EL n0 own vm1 T' h' L' k' n' ss → Q v vm1 h' → Go p e below P (T'.setTop (mkF m (pc + 3) Ls (v.toList ++ rest)))) : Go p e below P (T.setTop (mkF m pc Ls st)) := by
  subst hk hn ha hst
  obtain ⟨v, vm₁, B, -, X', S', g', ⟨L', ⟨q1, q2, q3⟩, q4, q5, q6, q7⟩, stp⟩ := RoadKit.callSS W.X W.ex W.ho (mvT W.hZ w1) (mvT W.hZ w2) (mvT W.hZ w3) (mvT W.hZ w4) hy (C.back (len := 3) (Wd := Wd) W w4 w3 hss hf hl) (g := mkF m pc Ls (argsL.reverse ++ rest)) rfl hsz (argsL := argsL) (rest := rest) hlen rfl (by show 2 * 0 + _ ≤ _; omega) hd (fun _ _ => ⟨rfl, W.hp, hc, hs⟩)
  exact Go.tr stp (K v _ _ _ _ (W.behind (n1 := 0) X' S' g' q4 q2 q3 q7 q5 q6) q1)
theorem Wk.callI (W : Wk p l e R s m args below meth c Z a0 EL n0 own vm0 T h L k n ss) {index : Nat} {y : MethodName} {bytes : ByteArray} {maxL : Nat} {rm : Room} {as' : Array Value} {Q : Option Value → Vm → Heap → Prop} {Wd : Nat} {st argsL : List Value} {a : Addr} (hy1 : y.name = "<init>") (w1 : (Cond.methodLink own index y).before a0 Z = true) (w2 : (Cond.instanceMethod y).before a0 Z = true) (w3 : (Cond.initialized y.cls).before a0 Z = true) (w4 : (Cond.code y bytes maxL none).before a0 Z = true) (hy : y.cls ≠ "java/lang/invoke/MethodHandle" ∧ y.cls ≠ "java/lang/invoke/VarHandle")
    (C : Ct l Z EL n0 [] y bytes maxL none rm as' ss' h Q) (hss : ∀ x ∈ ss', x ∈ ss) (hf : rm.frames + 1 ≤ R.frames) (hl : Wd + (maxL + 11) + rm.locals ≤ R.locals) (hk : k + rm.cells = k') (hn : n + rm.slots = n') (hc : k' ≤ R.cells) (hs : n' ≤ R.slots) (hsz : Ls.size = c.maxLocals) (ha : (Value.ref a :: argsL).toArray = as') (hlen : ∀ sig, parseMethodDescriptor y.desc = some sig → argsL.length = sig.parameters.length) (hst : st = argsL.reverse ++ .ref a :: rest) (hW : (rest.map fun v => v.category).sum ≤ Wd) (hd : decode c.code pc = .ok (.invokespecial index, 3))
    (K : ∀ v vm1 T' h' L', Wk p l e R s m args below meth c Z a0 EL n0 own vm1 T' h' L' k' n' ss → Q v vm1 h' → Go p e below P (T'.setTop (mkF m (pc + 3) Ls (v.toList ++ rest)))) : Go p e below P (T.setTop (mkF m pc Ls st)) := by
  subst hk hn ha hst
  obtain ⟨v, vm₁, B, -, X', S', g', ⟨L', ⟨q1, q2, q3⟩, q4, q5, q6, q7⟩, stp⟩ := W.X.specialBackS W.ex hy1 W.ho (mvT W.hZ w1) (mvT W.hZ w2) (mvT W.hZ w4) hy (C.back (len := 3) (Wd := Wd) W w4 w3 hss hf hl) (g := mkF m pc Ls (argsL.reverse ++ .ref a :: rest)) rfl hsz (Steps.refl _) (argsL := argsL) (rest := rest) hlen rfl (by show 2 * 0 + _ ≤ _; omega) hd (fun _ _ => ⟨rfl, W.hp, hc, hs⟩)
  exact Go.tr stp (K v _ _ _ _ (W.behind (n1 := 0) X' S' g' q4 q2 q3 q7 q5 q6) q1)
theorem Wk.callV (W : Wk p l e R s m args below meth c Z a0 EL n0 own vm0 T h L k n ss) {D : String} {index : Nat} {y z : MethodName} {bytes : ByteArray} {maxL : Nat} {ret : Option FieldType} {rm : Room} {as' : Array Value} {Q : Option Value → Vm → Heap → Prop} {Wd : Nat} {st argsL : List Value} {a : Addr} (w1 : (Cond.methodLink own index y).before a0 Z = true) (w2 : (Cond.declares y).before a0 Z = true) (w5 : (Cond.selects D y z).before a0 Z = true) (w6 : (Cond.instanceMethod z).before a0 Z = true) (w3 : (Cond.initialized z.cls).before a0 Z = true) (w4 : (Cond.code z bytes maxL ret).before a0 Z = true) (nf : NotFace (s.setVm vm0) y) (hy : y.cls ≠ "java/lang/invoke/MethodHandle" ∧ y.cls ≠ "java/lang/invoke/VarHandle")
    (E : Exa Z h a D) (C : Ct l Z EL n0 [] z bytes maxL ret rm as' ss' h Q) (hss : ∀ x ∈ ss', x ∈ ss) (hf : rm.frames + 1 ≤ R.frames) (hl : Wd + (maxL + 11) + rm.locals ≤ R.locals) (hk : k + rm.cells = k') (hn : n + rm.slots = n') (hc : k' ≤ R.cells) (hs : n' ≤ R.slots) (hsz : Ls.size = c.maxLocals) (ha : (Value.ref a :: argsL).toArray = as') (hlen : ∀ sig, parseMethodDescriptor y.desc = some sig → argsL.length = sig.parameters.length) (hst : st = argsL.reverse ++ .ref a :: rest) (hW : (rest.map fun v => v.category).sum ≤ Wd) (hd : decode c.code pc = .ok (.invokevirtual index, 3))
    (K : ∀ v vm1 T' h' L', Wk p l e R s m args below meth c Z a0 EL n0 own vm1 T' h' L' k' n' ss → Q v vm1 h' → Go p e below P (T'.setTop (mkF m (pc + 3) Ls (v.toList ++ rest)))) : Go p e below P (T.setTop (mkF m pc Ls st)) := by
  subst hk hn ha hst
  obtain ⟨cB, kB, i1, i2, i3⟩ := isOf W.hZ W.hp E
  obtain ⟨v, vm₁, B, -, X', S', g', ⟨L', ⟨q1, q2, q3⟩, q4, q5, q6, q7⟩, stp⟩ := W.X.virtualBackS W.ex W.ho (mvT W.hZ w1) (mvT W.hZ w2) nf (mvT W.hZ w5) (mvT W.hZ w6) hy (C.back (len := 3) (Wd := Wd) W w4 w3 hss hf hl) i1 i3 (g := mkF m pc Ls (argsL.reverse ++ .ref a :: rest)) rfl hsz (Steps.refl _) (argsL := argsL) (rest := rest) hlen rfl (by show 2 * 0 + _ ≤ _; omega) hd (fun _ _ => ⟨rfl, W.hp, hc, hs⟩)
  exact Go.tr stp (K v _ _ _ _ (W.behind (n1 := 0) X' S' g' q4 q2 q3 q7 q5 q6) q1)
theorem Wk.nf (W : Wk p l e R s m args below meth c Z a0 EL n0 own vm0 T h L k n ss) {D : String} {y : MethodName} (w5 : (Cond.selects D y y).before a0 Z = true) : NotFace (s.setVm vm0) y := notFace_of_selects (args := #[]) (mvT W.hZ w5)
/-- a law of the library's pays a call -/
theorem Wk.libI (W : Wk p l e R s m args below meth c Z a0 EL n0 own vm0 T h L k n ss) {index : Nat} {y : MethodName} {bytes : ByteArray} {maxL : Nat} {as' : Array Value} {Q : Option Value → Heap → List Loc → Prop} {ws : List Addr} {Wd ck cn : Nat} {st argsL : List Value} {a : Addr} (hy1 : y.name = "<init>") (w1 : (Cond.methodLink own index y).before a0 Z = true) (w2 : (Cond.instanceMethod y).before a0 Z = true) (w4 : (Cond.code y bytes maxL none).before a0 Z = true) (hy : y.cls ≠ "java/lang/invoke/MethodHandle" ∧ y.cls ≠ "java/lang/invoke/VarHandle")
    (hB : Back l R p e below (s.setVm vm0) args y 3 Wd (fun A a => a = as' ∧ A.U.heap = h ∧ A.cells + ck ≤ R.cells ∧ A.slots + cn ≤ R.slots) (fun A _ v B => ∃ L', Q v B.U.heap L' ∧ B.locs = A.locs ++ L' ∧ B.cells = A.cells + ck ∧ B.slots = A.slots + cn)) (hQ : ∀ v h' L', Q v h' L' → Fr n0 L' ∧ Keep h h' ws) (hws : ∀ x ∈ ws, x ∈ ss) (hwn : ∀ x ∈ ws, n0 ≤ x)
    (hk : k + ck = k') (hn : n + cn = n') (hc : k' ≤ R.cells) (hs : n' ≤ R.slots) (hsz : Ls.size = c.maxLocals) (ha : (Value.ref a :: argsL).toArray = as') (hlen : ∀ sig, parseMethodDescriptor y.desc = some sig → argsL.length = sig.parameters.length) (hst : st = argsL.reverse ++ .ref a :: rest) (hW : (rest.map fun v => v.category).sum ≤ Wd) (hd : decode c.code pc = .ok (.invokespecial index, 3))
    (K : ∀ v T' h' L0 L', Wk p l e R s m args below meth c Z a0 EL n0 own vm0 T' h' L' k' n' ss → Q v h' L0 → Go p e below P (T'.setTop (mkF m (pc + 3) Ls (v.toList ++ rest)))) : Go p e below P (T.setTop (mkF m pc Ls st)) := by
  subst hk hn ha hst
  obtain ⟨v, vm₁, B, -, X', ⟨L', q1, q4, q5, q6⟩, stp⟩ := W.X.specialBack W.ex hy1 W.ho (mvT W.hZ w1) (mvT W.hZ w2) (mvT W.hZ w4) hy hB (g := mkF m pc Ls (argsL.reverse ++ .ref a :: rest)) rfl hsz (Steps.refl _) (argsL := argsL) (rest := rest) hlen rfl (by show 2 * 0 + _ ≤ _; omega) hd (fun _ _ => ⟨rfl, W.hp, hc, hs⟩)
  obtain ⟨r1, r2⟩ := hQ _ _ _ q1
  have e4 : B.locs = L ++ L' := q4
  have e5 : B.cells = k + ck := q5
  have e6 : B.slots = n + cn := q6
  rw [e5, e6] at X'
  exact Go.tr stp (K v _ _ _ _ (W.stepK X' rfl r2 hws hwn (by rw [e4]; exact W.fr.app r1)) q1)
theorem Wk.libV (W : Wk p l e R s m args below meth c Z a0 EL n0 own vm0 T h L k n ss) {D : String} {index : Nat} {y z : MethodName} {as' : Array Value} {Q : Option Value → Heap → List Loc → Prop} {ws : List Addr} {Wd ck cn : Nat} {st argsL : List Value} {a : Addr} (w1 : (Cond.methodLink own index y).before a0 Z = true) (w2 : (Cond.declares y).before a0 Z = true) (w5 : (Cond.selects D y z).before a0 Z = true) (w6 : (Cond.instanceMethod z).before a0 Z = true) (nf : NotFace (s.setVm vm0) y) (hy : y.cls ≠ "java/lang/invoke/MethodHandle" ∧ y.cls ≠ "java/lang/invoke/VarHandle") (E : Exa Z h a D)
    (hB : Back l R p e below (s.setVm vm0) args z 3 Wd (fun A a => a = as' ∧ A.U.heap = h ∧ A.cells + ck ≤ R.cells ∧ A.slots + cn ≤ R.slots) (fun A _ v B => ∃ L', Q v B.U.heap L' ∧ B.locs = A.locs ++ L' ∧ B.cells = A.cells + ck ∧ B.slots = A.slots + cn)) (hQ : ∀ v h' L', Q v h' L' → Fr n0 L' ∧ Keep h h' ws) (hws : ∀ x ∈ ws, x ∈ ss) (hwn : ∀ x ∈ ws, n0 ≤ x)
    (hk : k + ck = k') (hn : n + cn = n') (hc : k' ≤ R.cells) (hs : n' ≤ R.slots) (hsz : Ls.size = c.maxLocals) (ha : (Value.ref a :: argsL).toArray = as') (hlen : ∀ sig, parseMethodDescriptor y.desc = some sig → argsL.length = sig.parameters.length) (hst : st = argsL.reverse ++ .ref a :: rest) (hW : (rest.map fun v => v.category).sum ≤ Wd) (hd : decode c.code pc = .ok (.invokevirtual index, 3))
    (K : ∀ v T' h' L0 L', Wk p l e R s m args below meth c Z a0 EL n0 own vm0 T' h' L' k' n' ss → Q v h' L0 → Go p e below P (T'.setTop (mkF m (pc + 3) Ls (v.toList ++ rest)))) : Go p e below P (T.setTop (mkF m pc Ls st)) := by
  subst hk hn ha hst
  obtain ⟨cB, kB, i1, i2, i3⟩ := isOf W.hZ W.hp E
  obtain ⟨v, vm₁, B, -, X', ⟨L', q1, q4, q5, q6⟩, stp⟩ := W.X.virtualBack W.ex W.ho (mvT W.hZ w1) (mvT W.hZ w2) nf (mvT W.hZ w5) (mvT W.hZ w6) hy hB i1 i3 (g := mkF m pc Ls (argsL.reverse ++ .ref a :: rest)) rfl hsz (Steps.refl _) (argsL := argsL) (rest := rest) hlen rfl (by show 2 * 0 + _ ≤ _; omega) hd (fun _ _ => ⟨rfl, W.hp, hc, hs⟩)
  obtain ⟨r1, r2⟩ := hQ _ _ _ q1
  have e4 : B.locs = L ++ L' := q4
  have e5 : B.cells = k + ck := q5
  have e6 : B.slots = n + cn := q6
  rw [e5, e6] at X'
  exact Go.tr stp (K v _ _ _ _ (W.stepK X' rfl r2 hws hwn (by rw [e4]; exact W.fr.app r1)) q1)
end C
end Jvm.OwnKit
namespace Jvm.OwnKit
open Sem ClassFile Op Lib Bundle Jvm.Stand Jvm.Free Jvm.LawKit Jvm.RoadKit
section St
variable {Z : State} {h h' : Heap} {a t : Addr} {cs : List Int32}
abbrev bsOf (cs : List Int32) : List Value := (cs.map fun c => c.toInt8.toInt32).map Value.int
def Ch8 (cs : List Int32) : Prop := ∀ c ∈ cs, ¬ c < 0 ∧ ¬ (255 : Int32) < c
/-- the object at a is a String whose bytes lie at t and spell cs -/
def StrAt (Z : State) (h : Heap) (a t : Addr) (cs : List Int32) : Prop := Exa Z h a "java/lang/String" ∧ Fld Z h a "java/lang/String" "coder" "B" (.int 0) ∧ Fld Z h a "java/lang/String" "value" "[B" (.ref t) ∧ (∃ kb, Arv Z h t kb .byte (Int32.ofNat cs.length) (bsOf cs) (.int 0)) ∧ Ch8 cs ∧ cs.length ≤ 4000
theorem StrAt.E (S : StrAt Z h a t cs) : Exa Z h a "java/lang/String" := S.1
theorem StrAt.ext (S : StrAt Z h a t cs) (E : Ext h h') : StrAt Z h' a t cs := by
  obtain ⟨s1, s2, s3, ⟨kb, s4⟩, s5⟩ := S
  exact ⟨s1.ext E, s2.ext E, s3.ext E, ⟨kb, s4.ext E⟩, s5⟩
theorem StrAt.keep {ws : List Addr} (S : StrAt Z h a t cs) (K : Keep h h' ws) (q1 : a ∉ ws) (q2 : t ∉ ws) : StrAt Z h' a t cs := by
  obtain ⟨s1, s2, s3, ⟨kb, s4⟩, s5⟩ := S
  exact ⟨s1.keep K, s2.keep K q1, s3.keep K q1, ⟨kb, s4.keep K q2⟩, s5⟩
theorem StrAt.wr {b : Addr} {sl : Nat} {v : Value} (S : StrAt Z h a t cs) (W : Wr h h' b sl v) (q1 : a ≠ b) (q2 : t ≠ b) : StrAt Z h' a t cs := S.keep (Keep.of_wr W) (ninS q1 nin0) (ninS q2 nin0)
theorem StrAt.lt (S : StrAt Z h a t cs) : a < h.size := S.1.lt
theorem StrAt.ltt (S : StrAt Z h a t cs) : t < h.size := by obtain ⟨s1, s2, s3, ⟨kb, s4⟩, s5⟩ := S; exact s4.lt
theorem StrAt.neC {x : Addr} {C : String} (S : StrAt Z h a t cs) (E : Exa Z h x C) (hn : C ≠ "java/lang/String") : a ≠ x := fun q => (Exa.ne E S.1 hn) q.symm
theorem StrAt.neT {x : Addr} {C : String} {n : Nat} {a0 : Array Value} (S : StrAt Z h a t cs) (E : Exa Z h x C) (w : (Cond.instantiable C n).before a0 Z = true) : t ≠ x := by
  obtain ⟨s1, s2, s3, ⟨kb, s4⟩, s5⟩ := S
  exact fun q => (Exa.neArv E s4 w) q.symm
theorem StrAt.kb (S : StrAt Z h a t cs) : ∃ kb, Arv Z h t kb .byte (Int32.ofNat cs.length) (bsOf cs) (.int 0) := S.2.2.2.1
theorem StrAt.ch (S : StrAt Z h a t cs) : Ch8 cs := S.2.2.2.2.1
theorem StrAt.le (S : StrAt Z h a t cs) : cs.length ≤ 4000 := S.2.2.2.2.2
theorem Ch8.nil : Ch8 [] := fun _ q => nomatch q
theorem Ch8.cons {c : Int32} (h1 : ¬ c < 0 ∧ ¬ (255 : Int32) < c) (h2 : Ch8 cs) : Ch8 (c :: cs) := fun x hx => by
  rcases List.mem_cons.mp hx with rfl | hx
  · exact h1
  · exact h2 x hx
theorem Ch8.up (C : Ch8 cs) : ∀ c ∈ cs, ¬ c < 0 ∧ ¬ (65535 : Int32) < c := fun c hc => ⟨(C c hc).1, fun q => (C c hc).2 (by rw [Int32.lt_iff_toInt_lt] at q ⊢; have e1 : (65535 : Int32).toInt = 65535 := rfl; have e2 : (255 : Int32).toInt = 255 := rfl; omega)⟩
theorem Ch8.getD (C : Ch8 cs) (i : Nat) : ¬ cs.getD i 0 < 0 ∧ ¬ (255 : Int32) < cs.getD i 0 := by
  rw [List.getD_eq_getElem?_getD]
  cases h : cs[i]? with
  | none => exact ⟨by decide, by decide⟩
  | some x => exact C x (List.mem_of_getElem? h)
theorem Ch8.set {x : Int32} (C : Ch8 cs) (hx : ¬ x < 0 ∧ ¬ (255 : Int32) < x) (i : Nat) : Ch8 (cs.set i x) := fun c hc => by
  rcases List.mem_or_eq_of_mem_set hc with h | rfl
  · exact C c h
  · exact hx
theorem and255 (x : Int32) : ¬ (x &&& (255 : Int32)) < 0 ∧ ¬ (255 : Int32) < (x &&& (255 : Int32)) := by
  have q := c_and x 255 (by decide)
  have e1 : (255 : Int32).toInt = 255 := rfl
  have e0 : (0 : Int32).toInt = 0 := rfl
  rw [Int32.lt_iff_toInt_lt, Int32.lt_iff_toInt_lt, e0]
  omega
theorem nar_char {c : Int32} (h : ¬ c < 0 ∧ ¬ (255 : Int32) < c) : nar .char c = c := by
  have h1 := h.1
  have h2 := h.2
  rw [Int32.lt_iff_toInt_lt] at h1 h2
  have e1 : (255 : Int32).toInt = 255 := rfl
  have e0 : (0 : Int32).toInt = 0 := rfl
  have q := c_i2c c
  apply Int32.toInt_inj.mp
  show c.toUInt32.toUInt16.toUInt32.toInt32.toInt = c.toInt
  omega
theorem i2c_id {c : Int32} (h : ¬ c < 0 ∧ ¬ (255 : Int32) < c) : c.toUInt32.toUInt16.toUInt32.toInt32 = c := nar_char h
theorem nar_byte (c : Int32) : nar .byte c.toInt8.toInt32 = c.toInt8.toInt32 := by
  show c.toInt8.toInt32.toInt8.toInt32 = c.toInt8.toInt32
  simp
end St
end Jvm.OwnKit
namespace Jvm.OwnKit
open Sem ClassFile Op Lib Bundle Jvm.Stand Jvm.Free Jvm.LawKit Jvm.RoadKit
section En
variable {Z : State} {args : Array Value} {a b : Addr} {u : Term}
/-- the case's words on an array's elements, from place i on: ints -/
def Els (args : Array Value) (Z : State) (t : Term) : Nat → List Int32 → Prop
  | _, [] => True
  | i, x :: r => (Cond.eq (.elem t (.int (Int32.ofNat i))) (.int x)).value args Z none Z [] = some true ∧ Els args Z t (i + 1) r
theorem arrayAt_cell {cl : Cell} (h : Z.arrayAt? a = some cl) : Z.heap[a]? = some cl := by
  simp only [State.arrayAt?, Option.bind_eq_bind, Option.bind_eq_some_iff] at h
  obtain ⟨x, hx, h2⟩ := h
  split at h2
  · obtain ⟨k, -, h3⟩ := h2; cases h3
  · obtain ⟨k, hk, h3⟩ := h2
    split at h3
    · cases h3; exact hx
    · cases h3
theorem els_has {t : Term} {cl : Cell} (ev : t.eval args Z none [] Z = some (.ref b)) (ha : Z.arrayAt? b = some cl) (h31 : cl.slots.size < 2 ^ 31) : ∀ (bs : List Int32) (i : Nat), i + bs.length ≤ cl.slots.size → Els args Z t i bs → HasL cl i (bs.map Value.int)
  | [], _, _, _ => trivial
  | x :: r, i, hi, ⟨h1, h2⟩ => by
    have e1 := eqv_i (Term.int_eval x) h1
    have hlt : i < cl.slots.size := by simp only [List.length_cons] at hi; omega
    rw [SBG.elem_at (ix := .int (Int32.ofNat i)) ev ha hlt h31 rfl] at e1
    exact ⟨e1, els_has ev ha h31 r (i + 1) (by simp only [List.length_cons] at hi; omega) h2⟩
/-- a String that the case's words spell -/
theorem str_start (hf : Fit Z) {z : Int32} {cs : List Int32} (hE : (Cond.exactly u "java/lang/String").value args Z none Z [] = some true) (hC : (Cond.eq (.field u "java/lang/String" "coder" "B") (.int 0)).value args Z none Z [] = some true) (hA : (Cond.arrayOf (.field u "java/lang/String" "value" "[B") .byte).value args Z none Z [] = some true)
    (hL : (Cond.eq (.length (.field u "java/lang/String" "value" "[B")) (.int z)).value args Z none Z [] = some true) (hz : z = Int32.ofNat cs.length) (hle : cs.length ≤ 4000) (hels : Els args Z (.field u "java/lang/String" "value" "[B") 0 (cs.map fun c => c.toInt8.toInt32)) (hch : Ch8 cs) : ∃ a r, u.eval args Z none [] Z = some (.ref a) ∧ StrAt Z Z.heap a r cs := by
  obtain ⟨a, ea⟩ := exa_v hE
  have ec := eqv_i (Term.int_eval 0) hC
  have el := eqv_i (Term.int_eval z) hL
  obtain ⟨r, cl, er, hcl, hsz⟩ := Term.length_spec el
  have h31 := SBG.length_lt er hcl el
  have hc := arrayAt_cell hcl
  have A : Arr Z Z.heap r cl .byte := ⟨hc, Cond.arrayOf_spec (Cond.before_iff.mpr hA) er hc⟩
  have ez : cl.slots.size.toInt32 = z := by simpa using hsz.symm
  have hlen : (Int32.ofNat cs.length).toNatClampNeg = cs.length := by show (Int32.ofNat cs.length).toInt.toNat = _; rw [Int32.toInt_ofNat_small (by omega)]; rfl
  have hn0 : ¬ Int32.ofNat cs.length < 0 := Int32.ofNat_not_neg (show cs.length < 2 ^ 31 by omega)
  have hs : cl.slots.size = cs.length := by
    have q : (cl.slots.size.toInt32).toNatClampNeg = cl.slots.size := by show (Int32.ofNat cl.slots.size).toInt.toNat = _; rw [Int32.toInt_ofNat_small h31]; rfl
    rw [← q, ez, hz, hlen]
  subst hz
  refine ⟨a, r, ea, Exa.start ea hE, Fld.start (by simpa [Term.eval, ea] using ec), Fld.start (by simpa [Term.eval, ea] using er), ⟨cl.cls, ?_⟩, hch, hle⟩
  exact Arv.start hf A h31 ez hn0 (by rw [hlen]; simp) (els_has er hcl h31 _ 0 (by simp [hs]) hels)
/-- a field of an object that the case's words name -/
theorem fld_start {C nm d : String} {v : Value} (ea : u.eval args Z none [] Z = some (.ref a)) (ev : (Term.field u C nm d).eval args Z none [] Z = some v) : Fld Z Z.heap a C nm d v := Fld.start (by simpa [Term.eval, ea] using ev)
theorem eqv_r {X F : Term} {idx : List Nat} (hF : F.eval args Z none idx Z = some (.ref a)) (h : (Cond.eq X F).value args Z none Z idx = some true) : X.eval args Z none idx Z = some (.ref a) := by
  obtain ⟨x, y', e1, e2, k1, k2⟩ := cmp_v (Or.inl h)
  cases hF.symm.trans e2
  rw [e1]
  cases x with
  | ref q => simp only [Cond.value, e1, hF] at h; simpa using h
  | null => simp only [Cond.value, e1, hF] at h; simp at h
  | int q => obtain ⟨z, hz⟩ := k1; cases hz
  | long q => obtain ⟨z, hz⟩ := k1; cases hz
  | float q => obtain ⟨z, hz⟩ := k1; cases hz
  | double q => obtain ⟨z, hz⟩ := k1; cases hz
  | retAddr q => simp [Kin, Value.isRef] at k1
/-- the case's words on an array's elements, from place i on: objects -/
def Elr (args : Array Value) (Z : State) (t : Term) : Nat → List (Term × Addr) → Prop
  | _, [] => True
  | i, x :: r => ((Cond.eq (.elem t (.int (Int32.ofNat i))) x.1).value args Z none Z [] = some true ∧ x.1.eval args Z none [] Z = some (.ref x.2)) ∧ Elr args Z t (i + 1) r
theorem elr_has {t : Term} {cl : Cell} (ev : t.eval args Z none [] Z = some (.ref b)) (ha : Z.arrayAt? b = some cl) (h31 : cl.slots.size < 2 ^ 31) : ∀ (bs : List (Term × Addr)) (i : Nat), i + bs.length ≤ cl.slots.size → Elr args Z t i bs → HasL cl i (bs.map fun x => Value.ref x.2)
  | [], _, _, _ => trivial
  | x :: r, i, hi, ⟨⟨h1, h1'⟩, h2⟩ => by
    have e1 := eqv_r h1' h1
    have hlt : i < cl.slots.size := by simp only [List.length_cons] at hi; omega
    rw [SBG.elem_at (ix := .int (Int32.ofNat i)) ev ha hlt h31 rfl] at e1
    exact ⟨e1, elr_has ev ha h31 r (i + 1) (by simp only [List.length_cons] at hi; omega) h2⟩
/-- an array of objects that the case's words tell -/
theorem arr_start (hf : Fit Z) {z : Int32} {C ad : String} {bs : List (Term × Addr)} (hE : (Cond.exactly u ad).value args Z none Z [] = some true) (hA : (Cond.arrayOf u (.object C)).value args Z none Z [] = some true) (hL : (Cond.eq (.length u) (.int z)).value args Z none Z [] = some true) (hz : z = Int32.ofNat bs.length) (hle : bs.length ≤ 4000) (hels : Elr args Z u 0 bs) :
    ∃ a k, u.eval args Z none [] Z = some (.ref a) ∧ Exa Z Z.heap a ad ∧ Arv Z Z.heap a k (.object C) z (bs.map fun x => Value.ref x.2) .null := by
  have el := eqv_i (Term.int_eval z) hL
  obtain ⟨r, cl, er, hcl, hsz⟩ := Term.length_spec el
  have h31 := SBG.length_lt er hcl el
  have hc := arrayAt_cell hcl
  have A : Arr Z Z.heap r cl (.object C) := ⟨hc, Cond.arrayOf_spec (Cond.before_iff.mpr hA) er hc⟩
  have ez : cl.slots.size.toInt32 = z := by simpa using hsz.symm
  have hlen : (Int32.ofNat bs.length).toNatClampNeg = bs.length := by show (Int32.ofNat bs.length).toInt.toNat = _; rw [Int32.toInt_ofNat_small (by omega)]; rfl
  have hn0 : ¬ Int32.ofNat bs.length < 0 := Int32.ofNat_not_neg (show bs.length < 2 ^ 31 by omega)
  have hs : cl.slots.size = bs.length := by
    have q : (cl.slots.size.toInt32).toNatClampNeg = cl.slots.size := by show (Int32.ofNat cl.slots.size).toInt.toNat = _; rw [Int32.toInt_ofNat_small h31]; rfl
    rw [← q, ez, hz, hlen]
  subst hz
  exact ⟨r, cl.cls, er, Exa.start er hE, Arv.start hf A h31 ez hn0 (by rw [hlen]; simp) (elr_has er hcl h31 _ 0 (by simp [hs]) hels)⟩
end En
end Jvm.OwnKit
namespace Jvm.OwnKit
open Sem ClassFile Op Lib Bundle Jvm.Stand Jvm.Free Jvm.LawKit Jvm.RoadKit
theorem idxn (x n : Int32) (d : Int) (hd : n.toInt = d) (h0 : 0 < d) : ¬ ((x &&& (2147483647 : Int32)) % n) < 0 ∧ ((x &&& (2147483647 : Int32)) % n) < n := by
  have q := c_and x 2147483647 (by decide)
  have r := (c_irem (x &&& 2147483647) n d hd).1 q.1
  rw [Int32.lt_iff_toInt_lt, Int32.lt_iff_toInt_lt, r, hd]
  have e0 : (0 : Int32).toInt = 0 := rfl
  have l1 := Int.emod_nonneg (x &&& 2147483647).toInt (show d ≠ 0 by omega)
  have l2 := Int.emod_lt_of_pos (x &&& 2147483647).toInt h0
  omega
theorem natn {j n : Int32} {d : Nat} (hd : n.toInt = (d : Int)) (h : ¬ j < 0 ∧ j < n) : j.toNatClampNeg < d := by
  have h1 := h.1
  have h2 := h.2
  rw [Int32.lt_iff_toInt_lt] at h1 h2
  have e0 : (0 : Int32).toInt = 0 := rfl
  show j.toInt.toNat < d
  omega
theorem map_getD (cs : List Int32) (i : Nat) : (cs.map Value.int).getD i (.int 0) = .int (cs.getD i 0) := by
  simp only [List.getD_eq_getElem?_getD, List.getElem?_map]
  cases cs[i]? <;> rfl
theorem and3 (x : Int32) : (x &&& 3) = 0 ∨ (x &&& 3) = 1 ∨ (x &&& 3) = 2 ∨ (x &&& 3) = 3 := by
  have q := c_and x 3 (by decide)
  have e3 : (3 : Int32).toInt = 3 := rfl
  rw [e3] at q
  have e : (x &&& 3).toInt = 0 ∨ (x &&& 3).toInt = 1 ∨ (x &&& 3).toInt = 2 ∨ (x &&& 3).toInt = 3 := by omega
  rcases e with e | e | e | e
  · exact Or.inl (Int32.toInt_inj.mp (by rw [e]; rfl))
  · exact Or.inr (Or.inl (Int32.toInt_inj.mp (by rw [e]; rfl)))
  · exact Or.inr (Or.inr (Or.inl (Int32.toInt_inj.mp (by rw [e]; rfl))))
  · exact Or.inr (Or.inr (Or.inr (Int32.toInt_inj.mp (by rw [e]; rfl))))
/-- a small number is one of the first d -/
theorem below_lit {j n : Int32} {d : Nat} (hd : n.toInt = (d : Int)) (h : ¬ j < 0 ∧ j < n) : ∃ i, i < d ∧ j = Int32.ofNat i := by
  refine ⟨j.toNatClampNeg, natn hd h, ?_⟩
  have h1 := h.1
  rw [Int32.lt_iff_toInt_lt] at h1
  have e0 : (0 : Int32).toInt = 0 := rfl
  have hb := j.toInt_lt
  apply Int32.toInt_inj.mp
  show j.toInt = (Int32.ofNat j.toInt.toNat).toInt
  rw [Int32.toInt_ofNat_small (by omega)]
  omega
end Jvm.OwnKit
namespace Jvm.OwnKit
open Sem ClassFile Op Lib Bundle Jvm.Stand Jvm.Free Jvm.LawKit Jvm.RoadKit
section M
variable {p : Program} {l : Launch} {e : Env} {R : Room} {s : State} {m : MethodId} {args : Array Value} {below : List Frame} {meth : Method} {c : Code} {Z : State} {a0 : Array Value} {EL : List (String × Nat)} {n0 : Nat} {own : String} {vm0 vm1 : Vm} {T T' : State} {h h' : Heap} {L L' : List Loc} {k n k' n' : Nat} {ss ss' : List Addr} {P : Outcome → State → Prop} {U V : State} {pc : Nat} {Ls : Array Slot} {rest : List Value}
/-- anewarray -/
theorem Wk.newR (W : Wk p l e R s m args below meth c Z a0 EL n0 own vm0 T h L k n ss) {C : String} {index : Nat} (w1 : (Cond.classLink own index C).before a0 Z = true) (w2 : (Cond.arrayOver (.object C)).before a0 Z = true) (hd : decode c.code pc = .ok (.anewarray index, 3)) {z : Int32} (hz : ¬ z < 0) {cap : Nat} (hcap : z.toNatClampNeg ≤ cap) (hb : cap * 8 ≤ 536870912) (hk : k + 1 = k') (hn : n + cap = n') (hc : k' ≤ R.cells) (hl : n' ≤ R.slots)
    (K : ∀ T' h' b kA, b = h.size → n0 ≤ b → Wk p l e R s m args below meth c Z a0 EL n0 own vm0 T' h' L k' n' (b :: ss) → Ext h h' → Arv Z h' b kA (.object C) z (List.replicate cap .null) .null → Ovr Z kA C → Go p e below P (T'.setTop (mkF m (pc + 3) Ls (.ref b :: rest)))) : Go p e below P (T.setTop (mkF m pc Ls (.int z :: rest))) := by
  subst hk hn
  obtain ⟨T', h', cA, X', e', E, A, O, st⟩ := RoadKit.newR W.X W.ex W.hZ W.ho w1 w2 W.hp (g := mkF m pc Ls (.int z :: rest)) rfl hd rfl hz hcap hb hc hl
  have W' := W.stepE X' e' E
  exact Go.st st (K T' h' _ cA rfl W.n0le (W'.cons ((Safe.new (Nat.le_refl _)).ext E W.cv) A.lt) E ((Arv.new A hz).pad (pad_rep [] _ cap)) O)
/-- aastore -/
theorem Wk.stR (W : Wk p l e R s m args below meth c Z a0 EL n0 own vm0 T h L k n ss) {a y : Addr} {kA : ClassId} {C : String} {z j : Int32} {vs : List Value} {dv : Value} (F : Arv Z h a kA (.object C) z vs dv) (O : Ovr Z kA C) (I : Ins Z h y C true) (q : ¬ j < 0 ∧ j < z) (i : Nat) (hi : j.toNatClampNeg = i) (hl : i < vs.length) (hs : a ∈ ss) (ha : n0 ≤ a) (hd : decode c.code pc = .ok (.aastore, 1))
    (K : ∀ T' h' L', Wk p l e R s m args below meth c Z a0 EL n0 own vm0 T' h' L' k n ss → Wr h h' a j.toNatClampNeg (.ref y) → Arv Z h' a kA (.object C) z (vs.set i (.ref y)) dv → Go p e below P (T'.setTop (mkF m (pc + 1) Ls rest))) : Go p e below P (T.setTop (mkF m pc Ls (.ref y :: .int j :: .ref a :: rest))) := by
  obtain ⟨cl, A, q1, S, N, H, Gs⟩ := F
  obtain ⟨T', h', X', e', w', st⟩ := RoadKit.stR W.X W.ex W.hZ W.hp A (inb S q) rfl (Sto.ofV A q1 O I) (g := mkF m pc Ls (.ref y :: .int j :: .ref a :: rest)) rfl rfl hd
  exact Go.st st (K T' h' _ (W.stepW X' e' w' hs ha) w' (Arv.set A q1 S N H Gs rfl w' i hi hl))
/-- System.arraycopy of a primitive kind -/
theorem Wk.cpP (W : Wk p l e R s m args below meth c Z a0 EL n0 own vm0 T h L k n ss) {index : Nat} (w1 : (Cond.methodLink own index Jvm.Stand.acN).before a0 Z = true) (w2 : (Cond.native Jvm.Stand.acN).before a0 Z = true) (w3 : (Cond.static Jvm.Stand.acN).before a0 Z = true) (w4 : (Cond.initialized "java/lang/System").before a0 Z = true)
    {a b : Addr} {kA kB : ClassId} {ty : FieldType} {z z' sp dp nn : Int32} {vs vd us : List Value} {dv dd : Value} (A : Arv Z h a kA ty z vs dv) (B : Arv Z h b kB ty z' vd dd) (hty : refKind ty = false) (h1 : ¬ sp < 0) (h2 : ¬ dp < 0) (h3 : ¬ nn < 0) (h4 : sp.toNatClampNeg + nn.toNatClampNeg ≤ z.toNatClampNeg) (h5 : dp.toNatClampNeg + nn.toNatClampNeg ≤ z'.toNatClampNeg)
    (hus : us = (List.range nn.toNatClampNeg).map fun i => vs.getD (sp.toNatClampNeg + i) dv) (hlv : dp.toNatClampNeg + nn.toNatClampNeg ≤ vd.length) (hs : b ∈ ss) (ge : n0 ≤ b) (hsz : Ls.size = c.maxLocals) (hd : decode c.code pc = .ok (.invokestatic index, 3)) (hf : 1 ≤ R.frames) {Wd : Nat} (hW : (rest.map fun v => v.category).sum ≤ Wd) (hlo : Wd + (nativeFrameWords "java/lang/System" "arraycopy" 5 + 11) ≤ R.locals)
    (K : ∀ T' h' L', Wk p l e R s m args below meth c Z a0 EL n0 own vm0 T' h' L' k n ss → Keep h h' [b] → Arv Z h' b kB ty z' (vd.take dp.toNatClampNeg ++ us ++ vd.drop (dp.toNatClampNeg + nn.toNatClampNeg)) dd → Go p e below P (T'.setTop (mkF m (pc + 3) Ls rest))) : Go p e below P (T.setTop (mkF m pc Ls (.int nn :: .int dp :: .ref b :: .int sp :: .ref a :: rest))) := by
  obtain ⟨T', h', L', X', e', N', K', B', st⟩ := RoadKit.cpA W.X W.ex W.hZ W.ho w1 w2 w3 w4 W.hp A B (Or.inl ⟨rfl, hty⟩) h1 h2 h3 h4 h5 hus hlv W.fr ge (g := mkF m pc Ls (.int nn :: .int dp :: .ref b :: .int sp :: .ref a :: rest)) rfl hsz rfl hd hf (W := Wd) (by show 2 * 0 + _ ≤ _; omega) hlo
  exact Go.st st (K T' h' L' (W.stepK X' e' K' (allS hs all0) (allS ge all0) N') K' B')
/-- a private method, by invokevirtual -/
theorem Wk.callP (W : Wk p l e R s m args below meth c Z a0 EL n0 own vm0 T h L k n ss) {D : String} {index : Nat} {y : MethodName} {bytes : ByteArray} {maxL : Nat} {ret : Option FieldType} {rm : Room} {as' : Array Value} {Q : Option Value → Vm → Heap → Prop} {Wd : Nat} {st argsL : List Value} {a : Addr} (w1 : (Cond.methodLink own index y).before a0 Z = true) (w2 : (Cond.privateMethod y).before a0 Z = true) (w5 : (Cond.selects y.cls y y).before a0 Z = true) (w6 : (Cond.instanceMethod y).before a0 Z = true) (w3 : (Cond.initialized y.cls).before a0 Z = true) (w4 : (Cond.code y bytes maxL ret).before a0 Z = true) (hy : y.cls ≠ "java/lang/invoke/MethodHandle" ∧ y.cls ≠ "java/lang/invoke/VarHandle")
    (E : Exa Z h a D) (C : Ct l Z EL n0 [] y bytes maxL ret rm as' ss' h Q) (hss : ∀ x ∈ ss', x ∈ ss) (hf : rm.frames + 1 ≤ R.frames) (hl : Wd + (maxL + 11) + rm.locals ≤ R.locals) (hk : k + rm.cells = k') (hn : n + rm.slots = n') (hc : k' ≤ R.cells) (hs : n' ≤ R.slots) (hsz : Ls.size = c.maxLocals) (ha : (Value.ref a :: argsL).toArray = as') (hlen : ∀ sig, parseMethodDescriptor y.desc = some sig → argsL.length = sig.parameters.length) (hst : st = argsL.reverse ++ .ref a :: rest) (hW : (rest.map fun v => v.category).sum ≤ Wd) (hd : decode c.code pc = .ok (.invokevirtual index, 3))
    (K : ∀ v vm1 T' h' L', Wk p l e R s m args below meth c Z a0 EL n0 own vm1 T' h' L' k' n' ss → Q v vm1 h' → Go p e below P (T'.setTop (mkF m (pc + 3) Ls (v.toList ++ rest)))) : Go p e below P (T.setTop (mkF m pc Ls st)) := by
  subst hk hn ha hst
  obtain ⟨cell, c1, c2⟩ := E.cell
  obtain ⟨v, vm₁, B, -, X', S', g', ⟨L', ⟨q1, q2, q3⟩, q4, q5, q6, q7⟩, stp⟩ := W.X.privateBackS W.ex W.ho (mvT W.hZ w1) (mvT W.hZ w6) (mvT W.hZ w5) (Cond.privateMethod_at (mvP W.hZ w2 (args := #[]))) (mvT W.hZ w4) hy (C.back (len := 3) (Wd := Wd) W w4 w3 hss hf hl) (g := mkF m pc Ls (argsL.reverse ++ .ref a :: rest)) rfl hsz (Steps.refl _) (a := a) (cell := cell) (by rw [W.hp]; exact c1) c2 (argsL := argsL) (rest := rest) hlen rfl (by show 2 * 0 + _ ≤ _; omega) hd (fun _ _ => ⟨rfl, W.hp, hc, hs⟩)
  exact Go.tr stp (K v _ _ _ _ (W.behind (n1 := 0) X' S' g' q4 q2 q3 q7 q5 q6) q1)
/-- an interface's method -/
theorem Wk.callF (W : Wk p l e R s m args below meth c Z a0 EL n0 own vm0 T h L k n ss) {D : String} {index count : Nat} {x y : MethodName} {bytes : ByteArray} {maxL : Nat} {ret : Option FieldType} {rm : Room} {as' : Array Value} {Q : Option Value → Vm → Heap → Prop} {Wd : Nat} {st argsL : List Value} {a : Addr} (w1 : (Cond.methodLink own index x).before a0 Z = true) (w2 : (Cond.declares x).before a0 Z = true) (w7 : (Cond.interfaceMethod x.cls x.cls x.name x.desc).before args (s.setVm vm0) = true) (w5 : (Cond.selects D x y).before a0 Z = true) (w6 : (Cond.instanceMethod y).before a0 Z = true) (w8 : (Cond.publicMethod y).before a0 Z = true) (w9 : (Cond.unhidden D x.name x.desc).before a0 Z = true) (w10 : (Cond.castable D x.cls).before a0 Z = true) (w3 : (Cond.initialized y.cls).before a0 Z = true) (w4 : (Cond.code y bytes maxL ret).before a0 Z = true) (hy : x.cls ≠ "java/lang/invoke/MethodHandle" ∧ x.cls ≠ "java/lang/invoke/VarHandle")
    (E : Exa Z h a D) (C : Ct l Z EL n0 [] y bytes maxL ret rm as' ss' h Q) (hss : ∀ x ∈ ss', x ∈ ss) (hf : rm.frames + 1 ≤ R.frames) (hl : Wd + (maxL + 11) + rm.locals ≤ R.locals) (hk : k + rm.cells = k') (hn : n + rm.slots = n') (hc : k' ≤ R.cells) (hs : n' ≤ R.slots) (hsz : Ls.size = c.maxLocals) (ha : (Value.ref a :: argsL).toArray = as') (hlen : ∀ sig, parseMethodDescriptor x.desc = some sig → argsL.length = sig.parameters.length) (hst : st = argsL.reverse ++ .ref a :: rest) (hW : (rest.map fun v => v.category).sum ≤ Wd) (hd : decode c.code pc = .ok (.invokeinterface index count, 5))
    (K : ∀ v vm1 T' h' L', Wk p l e R s m args below meth c Z a0 EL n0 own vm1 T' h' L' k' n' ss → Q v vm1 h' → Go p e below P (T'.setTop (mkF m (pc + 5) Ls (v.toList ++ rest)))) : Go p e below P (T.setTop (mkF m pc Ls st)) := by
  subst hk hn ha hst
  obtain ⟨cB, kB, i1, i2, i3⟩ := isOf W.hZ W.hp E
  obtain ⟨v, vm₁, B, -, X', S', g', ⟨L', ⟨q1, q2, q3⟩, q4, q5, q6, q7⟩, stp⟩ := W.X.interfaceBackS W.ex W.ho (mvT W.hZ w1) (mvT W.hZ w2) w7 (mvT W.hZ w5) (mvT W.hZ w6) (mvT W.hZ w8) (mvT W.hZ w9) (mvT W.hZ w10) hy (C.back (len := 5) (Wd := Wd) W w4 w3 hss hf hl) i1 i2 i3 (g := mkF m pc Ls (argsL.reverse ++ .ref a :: rest)) rfl hsz (Steps.refl _) (argsL := argsL) (rest := rest) hlen rfl (by show 2 * 0 + _ ≤ _; omega) hd (fun _ _ => ⟨rfl, W.hp, hc, hs⟩)
  exact Go.tr stp (K v _ _ _ _ (W.behind (n1 := 0) X' S' g' q4 q2 q3 q7 q5 q6) q1)
end M
end Jvm.OwnKit
namespace Jvm.OwnKit
open Sem ClassFile Op Lib Bundle Jvm.Stand Jvm.Free Jvm.LawKit Jvm.RoadKit
section U
variable {p : Program} {l : Launch} {e : Env} {R : Room} {s : State} {m : MethodId} {args : Array Value} {below : List Frame} {meth : Method} {c : Code} {Z : State} {a0 : Array Value} {EL : List (String × Nat)} {n0 : Nat} {own : String} {vm0 vm1 : Vm} {T T' : State} {h h' : Heap} {L L' : List Loc} {k n k' n' : Nat} {ss ss' : List Addr} {P : Outcome → State → Prop} {U V : State} {pc : Nat} {Ls : Array Slot} {rest : List Value}
theorem declares_of {y : MethodName} {bytes : ByteArray} {maxL : Nat} {ret : Option FieldType} (w6 : (Cond.instanceMethod y).before a0 Z = true) (w4 : (Cond.code y bytes maxL ret).before a0 Z = true) : (Cond.declares y).before a0 Z = true := by
  obtain ⟨m, meth, h1, h2, h3, -⟩ := Cond.instanceMethod_spec w6
  obtain ⟨meth', c, q1, -, -, -, -, -, -, hsig⟩ := Cond.code_spec h1 w4
  cases h2.symm.trans q1
  simp [Cond.before, Cond.holds, Cond.value, h1, h2, h3, hsig]
theorem nface {D : String} {y y' : MethodName} (w : (Cond.selects D y' y').before args s = true) (hc : y.cls = y'.cls) : NotFace s y := fun r0 hr => by
  obtain ⟨c2, r2, m2, q1, q2, q3, -, -⟩ := Cond.selects_spec w
  obtain ⟨kr, h1, h2⟩ := notFace_of_selects w m2 q3
  have e1 := findClass_of_methodNamed hr
  have e2 := findClass_of_methodNamed q3
  rw [hc] at e1
  have e3 : m2.cls = r0.cls := Option.some.inj (e2.symm.trans e1)
  exact ⟨kr, by rw [← e3]; exact h1, h2⟩
theorem Wk.nfc (W : Wk p l e R s m args below meth c Z a0 EL n0 own vm0 T h L k n ss) {D : String} {y y' : MethodName} (w5 : (Cond.selects D y' y').before a0 Z = true) (hc : y.cls = y'.cls) : NotFace (s.setVm vm0) y := nface (args := #[]) (mvT W.hZ w5) hc
theorem same_of {D : String} {y y' : MethodName} {bytes : ByteArray} {maxL : Nat} {ret : Option FieldType} (w4 : (Cond.code y bytes maxL ret).before a0 Z = true) (w5 : (Cond.selects D y' y').before a0 Z = true) (hc : y.cls = y'.cls) (hy : y.cls ≠ "java/lang/invoke/MethodHandle" ∧ y.cls ≠ "java/lang/invoke/VarHandle") : (Cond.sameMethod y.cls y.cls y.name y.desc).before a0 Z = true := by
  obtain ⟨mk, hn⟩ := Cond.code_named w4
  obtain ⟨kr, h1, h2⟩ := nface w5 hc mk hn
  have e1 := findClass_of_methodNamed hn
  have e2 := State.methodFound?_of_named hn hy
  have e3 : Z.methodNamed? ⟨y.cls, y.name, y.desc⟩ = some mk := hn
  simp [Cond.before, Cond.holds, Cond.value, e1, e2, e3, h1, h2]
/-- super.m(..) -/
theorem Wk.callU (W : Wk p l e R s m args below meth c Z a0 EL n0 own vm0 T h L k n ss) {D D' : String} {index : Nat} {y y' : MethodName} {bytes : ByteArray} {maxL : Nat} {ret : Option FieldType} {rm : Room} {as' : Array Value} {Q : Option Value → Vm → Heap → Prop} {Wd : Nat} {st argsL : List Value} {a : Addr} (w1 : (Cond.methodLink own index y).before a0 Z = true) (w2 : (Cond.selects D' y' y').before a0 Z = true) (hyy : y.cls = y'.cls) (w5 : (Cond.superclass own y.cls).before a0 Z = true) (w6 : (Cond.instanceMethod y).before a0 Z = true) (w3 : (Cond.initialized y.cls).before a0 Z = true) (w4 : (Cond.code y bytes maxL ret).before a0 Z = true) (hy : y.cls ≠ "java/lang/invoke/MethodHandle" ∧ y.cls ≠ "java/lang/invoke/VarHandle") (hni : y.name ≠ "<init>")
    (I : Ins Z h a D true) (C : Ct l Z EL n0 [] y bytes maxL ret rm as' ss' h Q) (hss : ∀ x ∈ ss', x ∈ ss) (hf : rm.frames + 1 ≤ R.frames) (hl : Wd + (maxL + 11) + rm.locals ≤ R.locals) (hk : k + rm.cells = k') (hn : n + rm.slots = n') (hc : k' ≤ R.cells) (hs : n' ≤ R.slots) (hsz : Ls.size = c.maxLocals) (ha : (Value.ref a :: argsL).toArray = as') (hlen : ∀ sig, parseMethodDescriptor y.desc = some sig → argsL.length = sig.parameters.length) (hst : st = argsL.reverse ++ .ref a :: rest) (hW : (rest.map fun v => v.category).sum ≤ Wd) (hd : decode c.code pc = .ok (.invokespecial index, 3))
    (K : ∀ v vm1 T' h' L', Wk p l e R s m args below meth c Z a0 EL n0 own vm1 T' h' L' k' n' ss → Q v vm1 h' → Go p e below P (T'.setTop (mkF m (pc + 3) Ls (v.toList ++ rest)))) : Go p e below P (T.setTop (mkF m pc Ls st)) := by
  subst hk hn ha hst
  obtain ⟨v, vm₁, B, -, X', S', g', ⟨L', ⟨q1, q2, q3⟩, q4, q5, q6, q7⟩, stp⟩ := RoadKit.superBackS W.X W.ex W.hZ W.ho w1 (same_of w4 w2 hyy hy) w6 w5 hni (C.back (len := 3) (Wd := Wd) W w4 w3 hss hf hl) W.hp I (g := mkF m pc Ls (argsL.reverse ++ .ref a :: rest)) rfl hsz w4 (argsL := argsL) (rest := rest) hlen rfl (by show 2 * 0 + _ ≤ _; omega) hd (fun _ _ => ⟨rfl, W.hp, hc, hs⟩)
  exact Go.tr stp (K v _ _ _ _ (W.behind (n1 := 0) X' S' g' q4 q2 q3 q7 q5 q6) q1)
theorem len1 {d : String} {ps : List FieldType} {r : Option FieldType} (hd : parseMethodDescriptor d = some ⟨ps, r⟩) {j : Nat} (hl : ps.length = j) : ∀ sig, parseMethodDescriptor d = some sig → sig.parameters.length = j := fun sig q => by
  cases hd.symm.trans q; exact hl
/-- Object.equals of two objects, the receiver a plain Object: its own eleven bytes, walked (Object need not be said initialised) -/
theorem Wk.objEq (W : Wk p l e R s m args below meth c Z a0 EL n0 own vm0 T h L k n ss) {index : Nat} {y : MethodName} {bytes : ByteArray} (w1 : (Cond.methodLink own index y).before a0 Z = true) (w2 : (Cond.declares y).before a0 Z = true) (w5 : (Cond.selects "java/lang/Object" y y).before a0 Z = true) (w6 : (Cond.instanceMethod y).before a0 Z = true) (w4 : (Cond.code y bytes 2 (some .boolean)).before a0 Z = true) (hy : y.cls ≠ "java/lang/invoke/MethodHandle" ∧ y.cls ≠ "java/lang/invoke/VarHandle") (hpl : plainFor y = true)
    {a b : Addr} (E : Exa Z h a "java/lang/Object") (hne : a ≠ b) (d0 : decode bytes 0 = .ok (.aload_n 0, 1)) (d1 : decode bytes 1 = .ok (.aload_n 1, 1)) (d2 : decode bytes 2 = .ok (.if_acmp .ne 7, 3)) (d9 : decode bytes 9 = .ok (.iconst 0, 1)) (d10 : decode bytes 10 = .ok (.ireturn, 1))
    (hlen : ∀ sig, parseMethodDescriptor y.desc = some sig → sig.parameters.length = 1) (hsz : Ls.size = c.maxLocals) (hd : decode c.code pc = .ok (.invokevirtual index, 3)) (hf : 1 ≤ R.frames) {Wd : Nat} (hW : (rest.map fun v => v.category).sum ≤ Wd) (hl : Wd + 13 ≤ R.locals) (hc : k ≤ R.cells) (hs : n ≤ R.slots)
    (K : ∀ T', Wk p l e R s m args below meth c Z a0 EL n0 own vm0 T' h L k n ss → Go p e below P (T'.setTop (mkF m (pc + 3) Ls (.int 0 :: rest)))) : Go p e below P (T.setTop (mkF m pc Ls (.ref b :: .ref a :: rest))) := by
  have X := W.X
  have hexec := W.ex
  obtain ⟨cB, kB, hcB, hkB, cellB, hcellT, hclsB, hstatB⟩ := isOf (s := s.setVm vm0) W.hZ W.hp E
  obtain ⟨r0, r, hn, hrm, hstR, hsigR⟩ := Cond.declares_spec (mvT W.hZ w2 (args := args))
  obtain ⟨mk, methM, hnamed, hmethM, -, habM⟩ := Cond.instanceMethod_spec (mvT W.hZ w6 (args := args))
  obtain ⟨c2, r2, m2, q1, q2, q3, q4, kP, hkP, hkPi⟩ := Cond.selects_spec (mvT W.hZ w5 (args := args))
  cases hcB.symm.trans q1
  cases (State.methodFound?_of_named hn hy).symm.trans q2
  cases hnamed.symm.trans q3
  obtain ⟨methM', cM, hmM', hcM, hbytes, hmlM, hretM, hlkM, -, -⟩ := Cond.code_spec hnamed (mvT W.hZ w4 (args := args))
  cases hmethM.symm.trans hmM'
  have hselP : selectMethod e.platform (s.setVm vm0).vm cellB.cls r0 = .method mk := by rw [Launch.admits_selectMethod X.admits, hclsB]; exact q4
  obtain ⟨kr, hkr, hni⟩ := nface (y := y) (mvT W.hZ w5 (args := args)) rfl r0 hn
  obtain ⟨vm₁, X₁, hstep₁⟩ := X.invokevirtual hexec W.ho (mvT W.hZ w1 (args := args)) hn hrm hstR hkr hni hy (a := a) (cell := cellB) hcellT
    (fun q e' => by rw [e'] at hstatB; cases hstatB) hselP hmethM habM hkP hkPi (g := mkF m pc Ls (.ref b :: .ref a :: rest)) rfl (argsL := [.ref b]) (rest := rest) (hlen _ hsigR).symm rfl hd
  have al := X₁.warmed.alike
  have hmk₁ : (T.setVm vm₁).vm.method? mk = some methM := by show vm₁.method? mk = _; rw [show vm₁ = (T.setVm vm₁).vm from rfl, al.method?]; exact hmethM
  have hpk : (T.setVm vm₁).plainMethod mk := State.plainMethod.of_named hpl (X₁.named hnamed) hmk₁
  obtain ⟨Y₀, hin⟩ := X₁.into (g := mkF m pc Ls rest) rfl hsz hd (#[.ref a, .ref b]) (R' := { frames := 0, cells := 0, slots := 0, locals := 0 }) hmk₁ hcM hlkM hpk hf (by rw [hmlM]; show 2 * 0 + (rest.map fun v => v.category).sum + (2 + 11) + 0 ≤ R.locals; omega) hc hs
  have hent : entryFrame mk #[.ref a, .ref b] 2 = mkF mk 0 #[.val (.ref a), .val (.ref b)] [] := rfl
  rw [hmlM, hent] at Y₀ hin
  generalize hU : ((T.setVm vm₁).setTop (mkF m pc Ls rest)).pushFrame (.java (mkF mk 0 #[.val (.ref a), .val (.ref b)] [])) = U at Y₀ hin
  have hst : Steps p.tables e (.java (mkF m pc Ls rest) :: below) (U.setTop (mkF mk 0 #[.val (.ref a), .val (.ref b)] [])) (U.setTop (mkF mk 10 #[.val (.ref a), .val (.ref b)] [.int 0])) := by
    refine XS.aloadN Y₀.here hexec rfl (by rw [hbytes]; exact d0) rfl rfl ?_
    refine XS.aloadN Y₀.here hexec rfl (by rw [hbytes]; exact d1) rfl rfl ?_
    refine RoadKit.acmp (g := mkF mk 2 #[.val (.ref a), .val (.ref b)] [.ref b, .ref a]) Y₀ hexec rfl rfl rfl (pc0 := 2) (pc' := 9) (same := false) rfl (by rw [hbytes]; exact d2) rfl (decide_eq_false fun q => hne (Value.ref.inj q)) (by decide) (by decide) ?_
    exact XS.iconst Y₀.here hexec rfl (by rw [hbytes]; exact d9) (Steps.refl _)
  obtain ⟨fs, hleave, -, hended, hWe, hsame⟩ := Y₀.leave (v := some (.int 0)) (fun q => by rw [hretM] at q; cases q) hlkM
  have hfin := Y₀.ireturnOut hexec (pc := 10) (Ls := #[.val (.ref a), .val (.ref b)]) hretM rfl (Or.inr (Or.inl rfl)) (by rw [hbytes]; exact d10) hleave
  obtain ⟨T', X', -, hB, ht⟩ := X₁.outOf (g := mkF m pc Ls rest) rfl hd hended hWe hsame
  have hstep : Steps p.tables e below (T.setTop (mkF m pc Ls (.ref b :: .ref a :: rest))) (T'.setTop (mkF m (pc + 3) Ls (.int 0 :: rest))) := by
    refine hstep₁ _ fun acts => ?_
    show Steps p.tables e below (doInvoke e ((T.setVm vm₁).setTop (mkF m pc Ls rest)) acts mk #[.ref a, .ref b]).1 _
    rw [hin acts]
    have et' : T'.setTop (mkF m (pc + 3) Ls (.int 0 :: rest)) = U.setFrames fs := ht.symm
    rw [et']
    exact Steps.weaken (mid := [.java (mkF m pc Ls rest)]) (hst.trans hfin)
  have eh : T'.heap = h := by
    have q : (U.setFrames fs).heap = (T'.setTop { (mkF m pc Ls rest) with pc := pc + 3, stack := (some (Value.int 0)).toList ++ rest }).heap := congrArg State.heap ht
    rw [← W.hp, show T'.heap = U.heap from q.symm, ← hU]; rfl
  exact Go.tr hstep (K T' (W.same (by simpa using X') eh))
end U
end Jvm.OwnKit
namespace Jvm.OwnKit
open Sem ClassFile Op Lib Bundle Jvm.Stand Jvm.Free Jvm.LawKit Jvm.RoadKit
/-- a made class stays made where literals have been interned too -/
theorem isMade39 {s : State} {vm' : Vm} (hW : s.Warmed39 vm') {d c : ClassId} {σ : Lambda.Shape} (h : Lambda.isMade { classPath := fun _ => none } s.vm d σ c = true) : Lambda.isMade { classPath := fun _ => none } vm' d σ c = true := by
  have hA := hW.alike
  simp only [Lambda.isMade, Option.bind_eq_bind, Option.pure_def, Option.getD_eq_iff, Option.bind_eq_some_iff, Bool.false_eq_true, and_false, or_false] at h ⊢
  obtain ⟨dk, h2, k, h3, file, h4, cf, h5, object, ho, iface, hi, ok, h6, lay, h7, methods, h8, t, ht, tk, htk, h⟩ := h
  obtain ⟨dk', h2', e2⟩ := hA.2.2 _ _ h2
  obtain ⟨k', h3', e3, -, hres, -⟩ := hW.2.2.2 _ _ h3
  obtain ⟨ok', h6', e6⟩ := hA.2.2 _ _ h6
  obtain ⟨tk', htk', e7⟩ := hA.2.2 _ _ htk
  have n2 : dk'.name = dk.name := by rw [e2]
  have n6 : ok'.instanceTypes = ok.instanceTypes := by rw [e6]
  have n7 : tk'.isInterface = tk.isInterface := by rw [e7]; rfl
  refine ⟨dk', h2', k', h3', file, by rw [e3]; exact h4, cf, by rw [n2]; exact h5, object, by rw [hA.findClass]; exact ho, iface, by rw [hA.findClass]; exact hi, ok', h6', lay, by rw [n6]; exact h7, methods, h8,
    t, by rw [hA.findClass]; exact ht, tk', htk', ?_⟩
  rw [n7, Lambda.methodIn_ask_alike hA, Lambda.methodIn_ask_alike hA]
  cases hg : ((methodIn t σ.implName σ.implDesc.toString tk.isInterface none).ask { classPath := fun _ => none } s.vm).1 with
  | error x => simp [hg] at h
  | ok target =>
    cases hf : ((methodIn iface σ.name σ.sam.toString true none).ask { classPath := fun _ => none } s.vm).1 with
    | error x => simp [hg, hf] at h
    | ok found =>
      simp only [hg, hf, Option.some.injEq, Bool.and_eq_true] at h ⊢
      obtain ⟨⟨⟨⟨⟨⟨⟨⟨⟨⟨⟨⟨⟨⟨b1, b2⟩, b3⟩, b4⟩, b5a⟩, b5b⟩, b6⟩, b7⟩, b8⟩, b9⟩, b10⟩, b11⟩, b12⟩, b13⟩, b14⟩ := h
      have q1 : k'.name = k.name := by rw [e3]
      have q2 : k'.kind = k.kind := by rw [e3]
      have q3 : k'.accessFlags = k.accessFlags := by rw [e3]
      have q4 : k'.super = k.super := by rw [e3]
      have q5 : k'.interfaces = k.interfaces := by rw [e3]
      have q6 : k'.init = k.init := by rw [e3]
      have q7 : k'.loader = k.loader := by rw [e3]
      have q8 : k'.hidden = k.hidden := by rw [e3]
      have q9 : k'.linked = k.linked := by rw [e3]
      have q10 : k'.callSites = k.callSites := by rw [e3]
      have q11 : k'.invokers = k.invokers := by rw [e3]
      have q12 : k'.methods = k.methods := by rw [e3]
      have q13 : k'.fields = k.fields := by rw [e3]
      have q14 : k'.instanceTypes = k.instanceTypes := by rw [e3]
      have q15 : k'.staticTypes = k.staticTypes := by rw [e3]
      rw [q1, q2, q3, q4, q5, q6, q7, q8, q9, q10, q11, q12, q13, q14, q15, n2, n6, Lambda.resolvedOf_alike hA, hA.selectMethod]
      refine ⟨⟨⟨⟨⟨⟨⟨⟨⟨⟨⟨⟨⟨⟨b1, b2⟩, b3⟩, b4⟩, b5a⟩, b5b⟩, b6⟩, b7⟩, b8⟩, b9⟩, b10⟩, b11⟩, b12⟩, ?_⟩, b14⟩
      rw [List.all_eq_true] at b13 ⊢
      intro y hy
      have := b13 y hy
      obtain ⟨x, i⟩ := y
      cases x with
      | none => rfl
      | some r =>
        simp only [Option.isNone_some, Bool.false_or, decide_eq_true_eq] at this ⊢
        rcases hres i with h1 | ⟨h1, -⟩
        · rw [h1]; exact this
        · rw [this] at h1; cases h1
theorem made39 {Z s : State} {host : String} {σ : Lambda.Shape} {cK : ClassId} (hZ : Z.Warmed39 s.vm) (M : LamKit.Made Z host σ cK) : LamKit.Made s host σ cK := by
  obtain ⟨d, dk, h1, h2, h3, h4⟩ := M
  obtain ⟨dk', h1', e⟩ := hZ.alike.2.2 _ _ h1
  refine ⟨d, dk', h1', by rw [e]; exact h2, isMade39 hZ h3, ?_⟩
  have hA := hZ.alike
  simp only [State.lambdaCallable, hA.findClass, hA.assignable, hA.superclasses, hA.declaredIn] at h4 ⊢
  exact h4
/-- a function object: of the made class cK, it holds v -/
def FnC (h : Heap) (b : Addr) (cK : ClassId) (v : Value) : Prop := ∃ cell : Cell, h[b]? = some cell ∧ cell.cls = cK ∧ cell.vm = .none ∧ cell.slots = #[v]
theorem FnC.ext {h h' : Heap} {b : Addr} {cK : ClassId} {v : Value} (F : FnC h b cK v) (E : Ext h h') : FnC h' b cK v := by
  obtain ⟨c, h1, h2⟩ := F
  exact ⟨c, E.2 _ _ h1, h2⟩
theorem FnC.keep {h h' : Heap} {b : Addr} {cK : ClassId} {v : Value} {ws : List Addr} (F : FnC h b cK v) (K : Keep h h' ws) (q : b ∉ ws) : FnC h' b cK v := by
  obtain ⟨c, h1, h2⟩ := F
  exact ⟨c, K.2.1 _ _ h1 q, h2⟩
theorem FnC.other {h h' : Heap} {a b : Addr} {cK : ClassId} {v w : Value} {sl : Nat} (F : FnC h b cK v) (W : Wr h h' a sl w) (q : b ≠ a) : FnC h' b cK v := F.keep (Keep.of_wr W) (ninS q nin0)
theorem FnC.lt {h : Heap} {b : Addr} {cK : ClassId} {v : Value} (F : FnC h b cK v) : b < h.size := by
  obtain ⟨c, h1, -⟩ := F
  exact (Array.getElem?_eq_some_iff.mp h1).1
/-- the entry cc of the made class names the class D -/
def clsOK (σ : Lambda.Shape) (host : String) (cc : Nat) (D : String) : Bool :=
  match σ.file host with
  | none => false
  | some F => match F.constantPool[cc]? with
    | some (.class_ n) => decide (F.constantPool.string? n = some D) && decide (cc ≠ F.thisClass)
    | _ => false
theorem made_cls {st : Setting} {vm : Vm} {d c : ClassId} {dk : Class} {σ : Lambda.Shape} {host D : String} {cc : Nat} (hok : clsOK σ host cc D = true) (hd : vm.classes[d]? = some dk) (hname : dk.name = host) (h : Lambda.isMade st vm d σ c = true) {x : ClassId} (hf : vm.findClass D = some x) : vm.classReady c cc x := by
  obtain ⟨dk', k, ok, tk, file, cf, object, iface, toy, lay, methods, target, found, hd', hk, hfile, hcf, -, -, -, -, hms, ht, htk, hg, -, hrec, -, -, -, -, hpool, hmeth, -, -, hres, -⟩ := Lambda.isMade_spec h
  cases hd.symm.trans hd'
  rw [hname] at hcf
  unfold clsOK at hok
  rw [hcf] at hok
  dsimp only at hok
  split at hok
  · rename_i n hn
    simp only [Bool.and_eq_true, decide_eq_true_eq] at hok
    exact ⟨k, hk, hres cc _ (Lambda.resolvedOf_class hn hok.2 hok.1 hf)⟩
  · cases hok
section N
variable {p : Program} {l : Launch} {e : Env} {R : Room} {s : State} {m : MethodId} {args : Array Value} {below : List Frame} {meth : Method} {c : Code} {Z : State} {a0 : Array Value} {EL : List (String × Nat)} {n0 : Nat} {own : String} {vm0 vm1 : Vm} {T T' : State} {h h' : Heap} {L L' : List Loc} {k n k' n' : Nat} {ss ss' : List Addr} {P : Outcome → State → Prop} {U V : State} {pc : Nat} {Ls : Array Slot} {rest : List Value} {locs : List Loc} {cells slots : Nat}
/-- the inner walk of a call has ended; it may have interned -/
theorem outOfW (X : Stand p l e R s m args below meth c T locs cells slots) {g : JFrame} (hg : g.method = m) {ig : Instr} {len : Nat} (hdg : decode c.code g.pc = .ok (ig, len)) {mk : MethodId} {a : Array Value} {t : State} {v : Option Value} {L : List Loc} {k n : Nat} (hend : Ended t (.java g :: below) (.returned v)) (hfe : ReturnedEndW (T.calling g mk a) (.returned v) t L k n) :
    ∃ T', Stand p l e R (s.setVm T'.vm) m args below meth c T' (locs ++ L) (cells + k) (slots + n) ∧ s.Since T'.vm T'.heap.size ∧ T.heap.size ≤ T'.heap.size ∧ T'.heap = t.heap ∧ T'.vm = t.vm ∧ t = T'.setTop { g with pc := g.pc + len, stack := v.toList ++ g.stack } := by
  subst hg
  have htop := X.here.top
  obtain ⟨-, hW', hB₂, e2, q2, q3, q4, q5, q6⟩ := hfe
  have e3 : t = ({ (T.calling g mk a).setFrames t.frames with heap := t.heap, slotsUsed := t.slotsUsed } : State).setVm t.vm := by
    have : t = ({ t with vm := (T.calling g mk a).vm } : State).setVm t.vm := rfl
    rw [e2] at this
    exact this
  obtain ⟨c₂, i₂, len₂, hc₂, hd₂, hf₂⟩ := hend
  have hW : T.Warmed39 t.vm := hW'
  have hcc : c₂ = c := by
    have h1 : t.code? g.method = T.code? g.method := by rw [State.code?_eq, State.code?_eq, hW.alike.method?]
    exact Option.some.inj (hc₂.symm.trans (h1.trans X.here.code))
  subst hcc
  have hlen : len₂ = len := by rw [hdg] at hd₂; cases hd₂; rfl
  subst hlen
  obtain ⟨g₀, hr⟩ := X.frames_eq
  have ht : t = (({ T with heap := t.heap, slotsUsed := t.slotsUsed } : State).setVm t.vm).setTop { g with pc := g.pc + len₂, stack := v.toList ++ g.stack } := by
    have hr' : (({ T with heap := t.heap, slotsUsed := t.slotsUsed } : State).setVm t.vm).frames = .java g₀ :: below := hr
    refine e3.trans ?_
    rw [hf₂, State.calling_eq htop, State.setFrames_setFrames, State.setTop_of_frames _ hr']
    rfl
  have hB : T.sameButNew ({ T with heap := t.heap, slotsUsed := t.slotsUsed } : State) L k n := by
    refine ⟨?_, q2, q3, q4, q5, q6⟩
    obtain ⟨th, hth, -⟩ := State.frames_cons hr
    show ({ T with heap := t.heap, slotsUsed := t.slotsUsed } : State) = { T.setFrames T.frames with heap := t.heap, slotsUsed := t.slotsUsed }
    rw [State.setFrames_self hth]
  obtain ⟨X', hS⟩ := X.movedW (T₂ := (({ T with heap := t.heap, slotsUsed := t.slotsUsed } : State).setVm t.vm)) ((X.here.setHeapUsed t.heap t.slotsUsed).setVm hW.alike) X.tail rfl rfl hW hB₂ hB
  exact ⟨_, X', hS, hB.2.1, rfl, rfl, ht⟩
/-- Ct.back, of the bare facts -/
theorem Ct.back0 {y : MethodName} {bytes : ByteArray} {maxL : Nat} {ret : Option FieldType} {rm : Room} {as' : Array Value} {Q : Option Value → Vm → Heap → Prop} {len Wd : Nat} (C : Ct l Z EL n0 [] y bytes maxL ret rm as' ss' h Q) (hZ : Z.Warmed39 vm0) (ew : EW Z a0 EL) (cv : CHv Z EL vm0 h) (sf : Saf Z EL vm0 h ss') (wc : (Cond.code y bytes maxL ret).before a0 Z = true) (wz : (Cond.initialized y.cls).before a0 Z = true) (hf : rm.frames + 1 ≤ R.frames) (hl : Wd + (maxL + 11) + rm.locals ≤ R.locals) :
    BackS l R p e below (s.setVm vm0) args y len Wd (fun A a => a = as' ∧ A.U.heap = h ∧ A.cells + rm.cells ≤ R.cells ∧ A.slots + rm.slots ≤ R.slots)
      (fun A _ v B => ∃ L', (Q v B.U.vm B.U.heap ∧ Fr n0 L' ∧ Old Z n0 B.U.heap) ∧ B.locs = A.locs ++ L' ∧ B.cells = A.cells + rm.cells ∧ B.slots = A.slots + rm.slots ∧ CHr Z EL vm0 h B.U.vm B.U.heap) :=
  BackS.of_freeW (bytes := bytes) (maxL := maxL) (ret := ret) (E := fun _ first o t L' k' n' => k' = rm.cells ∧ n' = rm.slots ∧ (∃ v, o = .returned v ∧ (Q v t.vm t.heap ∧ Fr n0 L' ∧ Old Z n0 t.heap)) ∧ CHr Z EL first.vm first.heap t.vm t.heap) C hf hl
    (fun m' meth' c' A a Y hp => by
      have hU : Z.Warmed39 A.U.vm := wtrans (s := s.setVm vm0) hZ Y.warmed
      exact ⟨by show (Cond.and _ .tt).before a A.U = true; rw [Cond.before_and, mv hU wc]; rfl, mv hU wc, mv hU wz, hp.2.2.1, hp.2.2.2⟩)
    (fun m' meth' c' A a g mk Y hp => by
      have A0 : CHr Z EL vm0 h A.U.vm h := CHv.at Y hZ ew cv
      exact ⟨hp.1, wtrans (s := s.setVm vm0) hZ Y.warmed, hp.2.1, A0.1, sf.chr A0⟩) (fun _ _ _ _ _ _ _ _ _ => trivial)
    (fun _ _ _ _ ⟨v, L', h1, h2, h3, h4⟩ => ⟨L', _, _, h4, rfl, rfl, ⟨v, h1, h2⟩, h3⟩)
    (fun m' meth' c' A a g mk v t L' k' n' Y hp _ _ ⟨e1, e2, ⟨v', e3, e4⟩, e5⟩ => by
      cases e3; subst e1 e2
      refine ⟨L', e4, rfl, rfl, rfl, (CHv.at Y hZ ew cv).trans ?_⟩
      rw [← hp.2.1]; exact e5)
/-- Ct.intro, with the method's own place -/
theorem Ct.introN {ws : List Cond} {y : MethodName} {bytes : ByteArray} {maxL : Nat} {ret : Option FieldType} {rm : Room} {as' : Array Value} {Q : Option Value → Vm → Heap → Prop} (hx : plainFor y = true) (O : Old Z n0 h) (hew : EW Z a0 EL)
    (body : ∀ (p : Program) (e : Env) (s : State) (m : MethodId) (below : List Frame) (meth : Method) (c : Code) (s₁ : State), Wk p l e rm s m as' below meth c Z a0 EL n0 y.cls s.vm s₁ h [] 0 0 ss → c.code = bytes → c.maxLocals = maxL → meth.sig.returnType = ret → meth.name = y.name → Z.methodNamed? y = some m → Go p e below (Pst Z EL n0 s rm.cells rm.slots Q) (s₁.setTop (entryFrame m as' maxL))) :
    Ct l Z EL n0 ws y bytes maxL ret rm as' ss h Q := by
  refine MetFree.of_bodySF hx hisR ?_
  intro p e s m args below meth c s₁ Bd hml0 hP hK
  obtain ⟨rfl, hZ, hh, hcv, hsf⟩ := hP
  subst hh
  have X0 : Stand p l e rm s m args below meth c s₁ [] 0 0 := Stand.of_body Bd
  have e0 : s₁.heap = s.heap := by rw [Bd.state]; rfl
  have hN : Z.methodNamed? y = some m := by
    rw [← State.methodNamed?_setVm hZ.alike]
    exact Bd.named
  exact body p e s m below meth c s₁ ⟨X0, e0, ⟨_, (State.WarmedH.refl s).since s.heap.size, Nat.le_refl _⟩, hZ, findClass_of_methodNamed Bd.named, CHr.refl hcv, Fr.nil n0, O, hsf, Bd.exec, hew, Bd.notSynchronized⟩ Bd.bytes hml0 Bd.returns (name_of_methodNamed Bd.named Bd.method).1 hN
/-- 'invokedynamic' at a lambda's site that captures one reference -/
theorem Wk.site (W : Wk p l e R s m args below meth c Z a0 EL n0 own vm0 T h L k n ss) {x : MethodName} {index fi : Nat} {σ : Lambda.Shape} {D0 : String} (hN : Z.methodNamed? x = some m) (w : (Cond.lambdaSite x pc index σ).before a0 Z = true) (hcap : σ.captured = [.object D0]) (hok : LamKit.capOK σ x.cls fi 0 = true) (wO : (Cond.instantiable "java/lang/Object" 0).before a0 Z = true) (hsz : Ls.size = c.maxLocals) (hd : decode c.code pc = .ok (.invokedynamic index, 5)) {a : Addr} {Wd : Nat} (hW : (rest.map fun v => v.category).sum ≤ Wd) (hl : Wd + 1 + 3072 ≤ R.locals) (hk : k + 1 = k') (hn : n + 1 = n') (hc : k' ≤ R.cells) (hs : n' ≤ R.slots)
    (K : ∀ T' h' b cK, b = h.size → n0 ≤ b → Wk p l e R s m args below meth c Z a0 EL n0 own vm0 T' h' L k' n' (b :: ss) → Ext h h' → LamKit.Made Z x.cls σ cK → FnC h' b cK (.ref a) → Go p e below P (T'.setTop (mkF m (pc + 5) Ls (.ref b :: rest)))) : Go p e below P (T.setTop (mkF m pc Ls (.ref a :: rest))) := by
  subst hk hn
  have X := W.X
  have hZ : Z.Warmed39 vm0 := W.hZ
  obtain ⟨cK, one, hat⟩ := Cond.lambdaSite_spec w
  obtain ⟨mD, kD, cfD, i0, p0, lk, hmD, hkD, hcfD, hsh, -, hfind, hmade, hcan, hl'⟩ := State.lambdaAt?_spec hat
  cases hN.symm.trans hmD
  obtain ⟨kD', hkD', hnameD⟩ := className_of_methodNamed hN
  cases hkD.symm.trans hkD'
  rcases hl' with ⟨_, _, -, -, hc0, -⟩ | ⟨rfl, -, -⟩
  · rw [hcap] at hc0; cases hc0
  · obtain ⟨b, nt, desc, site, h1, h2, h3, h4⟩ := Lambda.shapeOf?_site hsh
    obtain ⟨k1, hk1, e1⟩ := hZ.alike.2.2 _ _ hkD
    have hO : ∀ o ok, vm0.findClass "java/lang/Object" = some o → vm0.classes[o]? = some ok → ok.instanceTypes.size = 0 := by
      obtain ⟨cc, kk, g1, g2, -, -, -, g3⟩ := Cond.instantiable_spec wO
      intro o ok ho hok'
      rw [hZ.alike.findClass, g1] at ho
      cases ho
      obtain ⟨k', hk', he⟩ := hZ.alike.2.2 _ _ g2
      cases hok'.symm.trans hk'
      rw [he]; exact g3
    obtain ⟨kc, f, hkc, hkind, hty, -⟩ := LamKit.made_cap (vm := vm0) hok hk1 (by rw [e1]; exact hnameD) (isMade39 hZ hmade) hO
    have hz : ((kc.instanceTypes.toList.zip [Value.ref a]).map fun (t, v) => narrow t v) = [Value.ref a] := by rw [hty, hcap]; rfl
    have hw : e.platform.lambdaLinkWords = 3072 := by rw [X.admits.platform]
    have q := X.lambdaMakes W.ex (g := mkF m pc Ls (.ref a :: rest)) rfl hsz hd (vals := [.ref a]) (rest := rest) (k := k1) (kc := kc) (cf := cfD) (cK := cK) (i0 := i0) (p0 := p0) hk1 (by rw [e1]; exact hfind) (by rw [e1]; exact hcfD) h1 h2 (parseLong_of_parse h3) (by rw [h4, hcap]; rfl) rfl hkc (by rw [hw]; show 2 * 0 + (1 + (rest.map fun v => v.category).sum) + 3072 ≤ R.locals; omega) hc (by rw [hz]; exact hs)
      (fun i v hv => by
        rw [hz] at hv
        match i, hv with
        | 0, hv =>
          have : v = .ref a := (Option.some.inj hv).symm
          subst this
          simp [State.fitsSlot, State.slotType?, hkc, hkind, hty, hcap, fits]
        | i + 1, hv => simp at hv)
    rw [hz] at q
    have eh : (T.pushCell { cls := cK, slots := [Value.ref a].toArray, vm := .none }).heap = h.push { cls := cK, slots := [Value.ref a].toArray, vm := .none } := by rw [← W.hp]; rfl
    have E : Ext h (h.push { cls := cK, slots := [Value.ref a].toArray, vm := .none }) := ⟨by simp, fun a c q => by rw [Array.getElem?_push_lt (Array.getElem?_eq_some_iff.mp q).1]; exact (Array.getElem?_eq_getElem _).symm.trans q⟩
    have F : FnC (h.push { cls := cK, slots := [Value.ref a].toArray, vm := .none }) h.size cK (.ref a) := ⟨{ cls := cK, slots := [Value.ref a].toArray, vm := .none }, by simp, rfl, rfl, rfl⟩
    have W' := W.stepE (k' := k + 1) (n' := n + 1) (by simpa using q.1) eh E
    have q2 := q.2
    rw [W.hp] at q2
    exact Go.st q2 (K _ _ h.size cK rfl W.n0le (W'.cons ((Safe.new (Nat.le_refl _)).ext E W.cv) F.lt) E ⟨_, kD, hkD, hnameD, hmade, hcan⟩ F)
/-- invokestatic through a resolved entry, of a callee that may intern -/
theorem staticRS (Y : Stand p l e R s m args below meth c T locs cells slots) (hexec : p.tables.exec = Jvm.exec) {g : JFrame} (hg : g.method = m) (hsize : g.locals.size = c.maxLocals) {index : Nat} {y : MethodName} {t : MethodId} {kt : Class} {metht : Method}
    {argsL rest : List Value} (href : plainRef T e m.cls index) (hr : T.vm.methodReady m.cls index t) (hkt : T.vm.classes[t.cls]? = some kt) (hmt : T.vm.method? t = some metht) (hpoly : signaturePolymorphic kt metht = false)
    (hstatic : metht.isStatic = true) (hinit : kt.init = .initialized) (hlen : argsL.length = metht.sig.parameters.length) (hstack : g.stack = argsL.reverse ++ rest) (hnamed : T.methodNamed? y = some t)
    {W : Nat} {Pre : Pt → Array Value → Prop} {Post : Pt → Array Value → Option Value → Pt → Prop} (hK : BackS l R p e below s args y 3 W Pre Post) (hW : 2 * g.monitorRoom + (rest.map fun v => v.category).sum ≤ W)
    (hpre : Pre ⟨T, locs, cells, slots⟩ argsL.toArray) (hdg : decode c.code g.pc = .ok (.invokestatic index, 3)) {s₀ : State} (come : Steps p.tables e below s₀ (T.setTop g)) :
    ∃ (v : Option Value) (B : Pt), Stand p l e R (s.setVm B.U.vm) m args below meth c B.U B.locs B.cells B.slots ∧ s.Since B.U.vm B.U.heap.size ∧ T.heap.size ≤ B.U.heap.size ∧ Post ⟨T, locs, cells, slots⟩ argsL.toArray v B ∧ Steps p.tables e below s₀ (B.U.setTop { g with pc := g.pc + 3, stack := v.toList ++ rest }) := by
  subst hg
  obtain ⟨v, B, Y', hS, hgr, hpost, hsteps⟩ := hK g.method meth c ⟨T, locs, cells, slots⟩ { g with stack := rest } (.invokestatic index) t argsL.toArray Y rfl hsize hdg hW hnamed hpre
  refine ⟨v, B, Y', hS, hgr, hpost, (come.trans ?_).trans hsteps⟩
  jvm_step Y.here [hexec, hdg, invokestatic.wp_ready (e := e) (s := T) (m := t) (k := kt) (meth := metht) (args := argsL) (rest := rest) (f := g) Y.here.top href hr hkt hmt hpoly hstatic hinit hlen hstack]
  intro acts
  rw [doInvoke_state]
  exact Steps.refl _
/-- 'invokeinterface' on a lambda's object that holds one reference; the forwarder casts the one argument to D and calls the static target -/
theorem Wk.callLam (W : Wk p l e R s m args below meth c Z a0 EL n0 own vm0 T h L k n ss) {index count : Nat} {xi y : MethodName} {σ : Lambda.Shape} {host D : String} {bytes : ByteArray} {maxL : Nat} {ret : Option FieldType} {rm : Room} {Q : Option Value → Vm → Heap → Prop} {Wd : Nat}
    (w1 : (Cond.methodLink own index xi).before a0 Z = true) (w2 : (Cond.declares xi).before a0 Z = true) (w7 : (Cond.interfaceMethod xi.cls xi.cls xi.name xi.desc).before args (s.setVm vm0) = true) (w3 : (Cond.initialized y.cls).before a0 Z = true) (w4 : (Cond.code y bytes maxL ret).before a0 Z = true) (w5 : (Cond.static y).before a0 Z = true) (wO : (Cond.instantiable "java/lang/Object" 0).before a0 Z = true) (wD : (Cond.castable D D).before a0 Z = true)
    (hxi : xi.cls = σ.iface ∧ xi.name = σ.name ∧ xi.desc = σ.sam.toString) (hy : y.cls = σ.implClass ∧ y.name = σ.implName ∧ y.desc = σ.implDesc.toString) (hpoly : (xi.cls ≠ "java/lang/invoke/MethodHandle" ∧ xi.cls ≠ "java/lang/invoke/VarHandle") ∧ y.cls ≠ "java/lang/invoke/MethodHandle" ∧ y.cls ≠ "java/lang/invoke/VarHandle")
    {a x : Addr} {cK : ClassId} (hmd : LamKit.Made Z host σ cK) (hfn : FnC h a cK (.ref x)) {fcode : ByteArray} {idx ci fi cc : Nat} (hok : LamKit.fwdOK σ host fcode 2 (some .boolean) idx ci = true) (hcap : LamKit.capOK σ host fi 0 = true) (hcls : clsOK σ host cc D = true)
    (d0 : decode fcode 0 = .ok (.aload_n 0, 1)) (d1 : decode fcode 1 = .ok (.getfield fi, 3)) (d4 : decode fcode 4 = .ok (.aload_n 1, 1)) (d5 : decode fcode 5 = .ok (.checkcast cc, 3)) (d8 : decode fcode 8 = .ok (.invokestatic idx, 3)) (d11 : decode fcode 11 = .ok (.ireturn, 1))
    {v1 : Value} (hv1 : v1 = .null ∨ ∃ o, v1 = .ref o ∧ Exa Z h o D) (C : Ct l Z EL n0 [] y bytes maxL ret rm #[.ref x, v1] ss' h Q) (hss : ∀ z ∈ ss', z ∈ ss) (hQ : ∀ v vm h', Q v vm h' → ∃ w, v = some (.int w) ∧ narrow .boolean (.int w) = .int w)
    (hf : rm.frames + 2 ≤ R.frames) (hl : Wd + 13 + ((maxL + 11) + rm.locals) ≤ R.locals) (hk : k + rm.cells = k') (hn : n + rm.slots = n') (hc : k' ≤ R.cells) (hs : n' ≤ R.slots) (hsz : Ls.size = c.maxLocals) (hlen : ∀ sig, parseMethodDescriptor xi.desc = some sig → sig.parameters.length = 1) (hlenT : ∀ sig, parseMethodDescriptor y.desc = some sig → sig.parameters.length = 2) (hW : (rest.map fun v => v.category).sum ≤ Wd) (hd : decode c.code pc = .ok (.invokeinterface index count, 5))
    (K : ∀ v vm1 T' h' L', Wk p l e R s m args below meth c Z a0 EL n0 own vm1 T' h' L' k' n' ss → Q v vm1 h' → Go p e below P (T'.setTop (mkF m (pc + 5) Ls (v.toList ++ rest)))) : Go p e below P (T.setTop (mkF m pc Ls (v1 :: .ref a :: rest))) := by
  subst hk hn
  have X := W.X
  have hZ : Z.Warmed39 vm0 := W.hZ
  have hexec := W.ex
  obtain ⟨cell, hcell, hcc, hvmc, hslc⟩ := hfn
  have hcellT : T.heap[a]? = some cell := by rw [W.hp]; exact hcell
  subst hcc
  have hv1r : v1.isRef = true := by rcases hv1 with rfl | ⟨o, rfl, -⟩ <;> rfl
  -- the object's class, at this start
  have hmdS : LamKit.Made (s.setVm vm0) host σ cell.cls := made39 (s := s.setVm vm0) W.hZ hmd
  obtain ⟨kK, methk, hkK, hmk, hpub, habs, hsel⟩ := LamKit.madeSelects hmdS hok w7 hxi
  obtain ⟨r0, r, hrn, hrm, hstR, hsigR⟩ := Cond.declares_spec (mvT W.hZ w2 (args := args))
  obtain ⟨cL, kL, r1, hcL, hkL, hiL, -, -⟩ := Cond.interfaceMethod_spec w7
  have hr0cls : r0.cls = cL := Option.some.inj ((findClass_of_methodNamed hrn).symm.trans hcL)
  obtain ⟨hasg, hsel', hway⟩ := hsel r0 r hrn hrm
  obtain ⟨vm₁, X₁, hstep₁⟩ := X.invokeinterface hexec W.ho (mvT W.hZ w1 (args := args)) hrn hrm hstR (by rw [hr0cls]; exact hkL) hiL hpoly.1 (a := a) (cell := cell) (kcell := kK) hcellT (fun z q => by rw [hvmc] at q; cases q) hkK hasg
    (m' := ⟨cell.cls, 1⟩) (meth' := methk) (by rw [Launch.admits_selectMethod X.admits]; exact hsel') hmk hway hpub habs (g := mkF m pc Ls (v1 :: .ref a :: rest)) rfl (argsL := [v1]) (rest := rest) (hlen _ hsigR).symm rfl hd
  -- the forwarder, at the tables vm₁
  have hZ₁ : Z.Warmed39 vm₁ := wtrans (s := s.setVm vm0) W.hZ X₁.warmed
  have A1 : CHr Z EL vm0 h vm₁ h := CHv.at X₁ W.hZ W.ew W.cv
  obtain ⟨d, dk, hdZ, hdn, hmade, -⟩ := hmd
  obtain ⟨dk₁, hd₁, e₁⟩ := hZ₁.alike.2.2 _ _ hdZ
  have hdn₁ : dk₁.name = host := by rw [e₁]; exact hdn
  have hmade₁ := isMade39 hZ₁ hmade
  obtain ⟨kK₁, tk₁, file₁, methk₁, ck₁, toy₁, t₁, nt, hkK₁, hpn₁, hfile₁, hidx₁, hnt₁, hmk₁, hck₁, hbytes₁, hml₁, hlk₁, -, hretk₁, htoy₁, htk₁, hlook₁, hready₁, hclsR₁⟩ := LamKit.made_static hok hd₁ hdn₁ hmade₁
  have hO : ∀ o ok, vm₁.findClass "java/lang/Object" = some o → vm₁.classes[o]? = some ok → ok.instanceTypes.size = 0 := by
    obtain ⟨c2, kk, g1, g2, -, -, -, g3⟩ := Cond.instantiable_spec wO
    intro o ok ho hok'
    rw [hZ₁.alike.findClass, g1] at ho
    cases ho
    obtain ⟨k', hk', he⟩ := hZ₁.alike.2.2 _ _ g2
    cases hok'.symm.trans hk'
    rw [he]; exact g3
  obtain ⟨kc, f, -, -, -, hfready, hfst, hfsl⟩ := LamKit.made_cap (vm := vm₁) hcap hd₁ hdn₁ hmade₁ hO
  obtain ⟨cD, tD, hcD, htD, hasD⟩ := Cond.castable_spec (mv hZ₁ wD (s := s.setVm vm₁) (args := args))
  have hDready := made_cls (vm := vm₁) hcls hd₁ hdn₁ hmade₁ hcD
  -- the target
  obtain ⟨mT, hmT⟩ := Cond.code_named w4
  obtain ⟨methT, cT, hmethT, hcT, -, hlocT, -, -, -, hsigT⟩ := Cond.code_spec hmT w4
  have hstaticT : methT.isStatic = true := Cond.static_spec hmT hmethT w5
  obtain ⟨kT, hkT, hnameT⟩ := className_of_methodNamed hmT
  have hfT : Z.vm.findClass y.cls = some mT.cls := findClass_of_methodNamed hmT
  have hinitK : kT.init = .initialized := Cond.initialized_spec hfT hkT w3
  have hfT₁ : vm₁.findClass σ.implClass = some mT.cls := by rw [hZ₁.alike.findClass, ← hy.1]; exact hfT
  cases htoy₁.symm.trans hfT₁
  have ht₁ : t₁ = mT := by
    have h1 : (Z.setVm vm₁).methodFound? y.cls y.name y.desc = some mT := by rw [State.methodFound?_setVm hZ₁.alike]; exact State.methodFound?_of_named hmT hpoly.2
    rw [hy.1, hy.2.1, hy.2.2] at h1
    simp only [State.methodFound?, State.vm_setVm, hfT₁, htk₁, Option.bind_eq_bind, Option.bind_some] at h1
    rw [hlook₁] at h1
    exact Option.some.inj h1
  subst ht₁
  have hmethT₁ : vm₁.method? t₁ = some methT := by rw [hZ₁.alike.method?]; exact hmethT
  obtain ⟨kT₁, hkT₁, heT₁⟩ := hZ₁.alike.2.2 _ _ hkT
  cases htk₁.symm.trans hkT₁
  have hsp : ∀ z : Method, signaturePolymorphic tk₁ z = false := fun z => by
    have hn' : tk₁.name = y.cls := by rw [heT₁]; exact hnameT
    simp [signaturePolymorphic, hn', hpoly.2.1, hpoly.2.2]
  obtain ⟨b, hmem⟩ := memberRef_ask' (e := e) (vm := vm₁) (d := cell.cls) (index := idx) hkK₁ hfile₁ (Or.inl hidx₁) hnt₁
  have hpk : (T.setVm vm₁).plainMethod ⟨cell.cls, 1⟩ := State.plainMethod.of_name (fun k' hk' => by cases hkK₁.symm.trans hk'; exact hpn₁)
  -- in
  obtain ⟨Y₀, hin⟩ := X₁.into (g := mkF m pc Ls rest) rfl hsz hd (#[.ref a, v1]) (R' := { frames := rm.frames + 1, cells := rm.cells, slots := rm.slots, locals := (maxL + 11) + rm.locals }) hmk₁ hck₁ hlk₁ hpk hf (by rw [hml₁]; show 2 * 0 + (rest.map fun v => v.category).sum + (2 + 11) + ((maxL + 11) + rm.locals) ≤ R.locals; omega) hc hs
  have hent : entryFrame ⟨cell.cls, 1⟩ #[.ref a, v1] 2 = mkF ⟨cell.cls, 1⟩ 0 #[.val (.ref a), .val v1] [] := by
    rcases hv1 with rfl | ⟨o, rfl, -⟩ <;> rfl
  rw [hml₁, hent] at Y₀ hin
  generalize hU : ((T.setVm vm₁).setTop (mkF m pc Ls rest)).pushFrame (.java (mkF ⟨cell.cls, 1⟩ 0 #[.val (.ref a), .val v1] [])) = U at Y₀ hin
  have hvmU : U.vm = vm₁ := by rw [← hU]; rfl
  have hheapU : U.heap = h := by rw [← hU, ← W.hp]; rfl
  generalize hs' : (T.setVm vm₁).calling (mkF m pc Ls rest) ⟨cell.cls, 1⟩ #[.ref a, v1] = s' at Y₀
  have hvm' : s'.vm = vm₁ := by rw [← hs']; rfl
  have Y₀' : Stand p l e { frames := rm.frames + 1, cells := rm.cells, slots := rm.slots, locals := (maxL + 11) + rm.locals } (s'.setVm vm₁) ⟨cell.cls, 1⟩ #[.ref a, v1] (.java (mkF m pc Ls rest) :: below) methk₁ ck₁ U [] 0 0 := by
    have : s'.setVm vm₁ = s' := by rw [← hvm']; rfl
    rw [this]; exact Y₀
  have sf1 : Saf Z EL vm0 h ss' := fun z hz => W.sf z (hss z hz)
  have hK := C.back0 (R := { frames := rm.frames + 1, cells := rm.cells, slots := rm.slots, locals := (maxL + 11) + rm.locals }) (p := p) (e := e) (below := .java (mkF m pc Ls rest) :: below) (s := s') (args := #[.ref a, v1]) (len := 3) (Wd := 0) hZ₁ W.ew A1.1 (sf1.chr A1) w4 w3 (Nat.le_refl _) (by show 0 + (maxL + 11) + rm.locals ≤ (maxL + 11) + rm.locals; omega)
  have hnamedU : U.methodNamed? y = some t₁ := by
    have q : (Z.setVm vm₁).methodNamed? y = some t₁ := by rw [State.methodNamed?_setVm hZ₁.alike]; exact hmT
    rw [← hU]; exact q
  -- the loads
  have L0 : Steps p.tables e (.java (mkF m pc Ls rest) :: below) (U.setTop (mkF ⟨cell.cls, 1⟩ 0 #[.val (.ref a), .val v1] [])) (U.setTop (mkF ⟨cell.cls, 1⟩ 8 #[.val (.ref a), .val v1] [v1, .ref x])) := by
    refine XS.aloadN Y₀.here hexec rfl (by rw [hbytes₁]; exact d0) rfl rfl ?_
    refine (Y₀.getfieldR hexec (g := mkF ⟨cell.cls, 1⟩ 1 #[.val (.ref a), .val v1] [.ref a]) rfl (index := fi) (cF := cell.cls) (a := a) (field := f) (cell := cell) (v := .ref x) (rest := []) (by rw [hvmU]; exact hfready) hfst rfl (by rw [hheapU]; exact hcell) (by rw [hvmc]; decide) (by rw [hfsl, hslc]; rfl) (by rw [hbytes₁]; exact d1) (Steps.refl _)).trans ?_
    refine XS.aloadN Y₀.here hexec rfl (by rw [hbytes₁]; exact d4) rfl hv1r ?_
    refine Y₀.checkcastR hexec (g := mkF ⟨cell.cls, 1⟩ 5 #[.val (.ref a), .val v1] [v1, .ref x]) rfl (index := cc) (cT := cD) (x := v1) (rest := [.ref x]) (by rw [hvmU]; exact hDready) rfl ?_ (by rw [hbytes₁]; exact d5) (Steps.refl _)
    rcases hv1 with rfl | ⟨o, rfl, E⟩
    · exact Or.inl rfl
    · refine Or.inr ?_
      obtain ⟨cB, kB, i1, i2, cellB, i3, i4, i5⟩ := isOf (s := s.setVm vm₁) (T := U) hZ₁ hheapU E
      have eD : cB = cD := Option.some.inj (i1.symm.trans hcD)
      subst eD
      refine ⟨o, cellB, kB, kB, rfl, i3, (fun q hq => by rw [hq] at i5; cases i5), by rw [hvmU, i4]; exact i2, by rw [hvmU]; exact i2, ?_⟩
      rw [hvmU, i4]
      have : tD = cB := Option.some.inj (htD.symm.trans hcD)
      subst this
      exact hasD
  obtain ⟨v, B, Y₁, hS, hgr, ⟨L', ⟨q1, q2, q3⟩, q4, q5, q6, q7⟩, hst⟩ := staticRS Y₀' hexec (g := mkF ⟨cell.cls, 1⟩ 8 #[.val (.ref a), .val v1] [v1, .ref x]) rfl (by rw [hml₁]; rfl) (index := idx) (y := y) (t := t₁) (kt := tk₁) (metht := methT) (argsL := [.ref x, v1]) (rest := []) ⟨ci, _, _, b, t₁.cls, tk₁, by rw [hvmU]; exact hmem, by rw [hvmU]; exact hclsR₁, by rw [hvmU]; exact htk₁, by simp [hsp]⟩ (by rw [hvmU]; exact hready₁) (by rw [hvmU]; exact htk₁) (by rw [hvmU]; exact hmethT₁) (hsp _) hstaticT (by rw [heT₁]; exact hinitK) (hlenT _ hsigT).symm rfl hnamedU hK (by show 2 * 0 + 0 ≤ 0; omega) ⟨rfl, hheapU, by show 0 + rm.cells ≤ rm.cells; omega, by show 0 + rm.slots ≤ rm.slots; omega⟩ (by rw [hbytes₁]; exact d8) L0
  obtain ⟨w, rfl, hnw⟩ := hQ _ _ _ q1
  obtain ⟨fs, hleave, -, hended, hfe⟩ := Y₁.leaveW (s := s'.setVm vm₁) hS (Nat.le_refl _) (v := some (.int w)) (fun q => by rw [hretk₁] at q; cases q) hlk₁
  have hro : LamKit.RetOK (some .boolean) .ireturn (some (.int w)) := Or.inl ⟨.boolean, w, rfl, by simp, hnw, rfl, rfl⟩
  have hfin := LamKit.retOut Y₁ hexec (pc := 11) (Ls := #[.val (.ref a), .val v1]) hretk₁ hro (by rw [hbytes₁]; exact d11) hleave
  have hfe' : ReturnedEndW ((T.setVm vm₁).calling (mkF m pc Ls rest) ⟨cell.cls, 1⟩ #[.ref a, v1]) (.returned (some (.int w))) (B.U.setFrames fs) B.locs B.cells B.slots := by
    have : s'.setVm vm₁ = s' := by rw [← hvm']; rfl
    rw [hs', ← this]; exact hfe
  obtain ⟨T', X', S', g', eh, ev, et⟩ := outOfW X₁ (g := mkF m pc Ls rest) rfl hd hended hfe'
  have hstep : Steps p.tables e below (T.setTop (mkF m pc Ls (v1 :: .ref a :: rest))) (T'.setTop (mkF m (pc + 5) Ls (.int w :: rest))) := by
    refine hstep₁ _ fun acts => ?_
    show Steps p.tables e below (doInvoke e ((T.setVm vm₁).setTop (mkF m pc Ls rest)) acts ⟨cell.cls, 1⟩ #[.ref a, v1]).1 _
    rw [hin acts]
    have et' : T'.setTop (mkF m (pc + 5) Ls (.int w :: rest)) = B.U.setFrames fs := et.symm
    rw [et']
    exact Steps.weaken (mid := [.java (mkF m pc Ls rest)]) (hst.trans hfin)
  have eh' : T'.heap = B.U.heap := eh
  have ev' : T'.vm = B.U.vm := ev
  refine Go.tr hstep (K (some (.int w)) T'.vm T' T'.heap (L ++ L') (W.behind (B := ⟨T', L ++ B.locs, k + B.cells, n + B.slots⟩) (n1 := 0) X' S' (by show T.heap.size ≤ T'.heap.size; exact g') (by show L ++ B.locs = L ++ L'; rw [q4]; rfl) q2 (by show Old Z n0 T'.heap; rw [eh']; exact q3) (by show CHr Z EL vm0 h T'.vm T'.heap; rw [eh', ev']; exact A1.trans q7) (by show k + B.cells = _; rw [q5]; show k + (0 + rm.cells) = _; omega) (by show n + B.slots = _; rw [q6]; show n + (0 + rm.slots) = _; omega)) ?_)
  rw [eh', ev']; exact q1
/-- getstatic of a nest mate's field -/
theorem Wk.getSN (W : Wk p l e R s m args below meth c Z a0 EL n0 own vm0 T h L k n ss) {R0 O nm d host : String} {index : Nat} (w : (Cond.fieldLinkNest own index R0 nm d host).before a0 Z = true) (via : Via Z R0 O nm d) {v : Value} (F : Sta Z h O nm d v) (hd : decode c.code pc = .ok (.getstatic index, 3))
    (K : ∀ T', Wk p l e R s m args below meth c Z a0 EL n0 own vm0 T' h L k n ss → Go p e below P (T'.setTop (mkF m (pc + 3) Ls (v :: rest)))) : Go p e below P (T.setTop (mkF m pc Ls rest)) := by
  obtain ⟨T', X', e', st⟩ := RoadKit.getS2 W.X W.ex W.hZ W.ho (host := host) (Or.inr w) via W.hp F (g := mkF m pc Ls rest) rfl hd
  exact Go.st st (K T' (W.same X' e'))
end N
end Jvm.OwnKit
namespace Jvm.Pilot.@@N@@
open Jvm Jvm.ClassFile Sem Op Lib Jvm.Free Jvm.Stand Jvm.LawKit Jvm.RoadKit Jvm.OwnKit Bundle Jvm.Pilot.@@N@@.Jvm.D
set_option maxRecDepth 65536
set_option maxHeartbeats 4000000
def Ctx (Z : State) (a0 : Array Value) (n0 : Nat) (g1 : Int32) (gf : Value) (em : Addr) (es : Addr) : Prop := (∀ d ∈ tables_1, d.before a0 Z = true) ∧ EW Z a0 consts_1 ∧ Sta Z Z.heap "java/lang/String" "COMPACT_STRINGS" "Z" (.int g1) ∧ ¬ g1 = 0 ∧ Sta Z Z.heap "jdk/internal/util/Preconditions" "SIOOBE_FORMATTER" "Ljava/util/function/BiFunction;" gf ∧ gf.isRef = true ∧ (Sta Z Z.heap "java/util/ImmutableCollections" "EMPTY" "Ljava/lang/Object;" (.ref em)) ∧ (Exa Z Z.heap em "java/lang/Object") ∧ (Sta Z Z.heap "java/util/ImmutableCollections" "EMPTY_SET" "Ljava/util/ImmutableCollections$SetN;" (.ref es)) ∧ (Exa Z Z.heap es "java/util/ImmutableCollections$SetN") ∧ (Fld Z Z.heap es "java/util/ImmutableCollections$SetN" "size" "I" (.int 0)) ∧ True
theorem Ctx.words {Z : State} {a0 : Array Value} {n0 : Nat} {g1 : Int32} {gf : Value} {em : Addr} {es : Addr} (cx : Ctx Z a0 n0 g1 gf em es) : (∀ d ∈ tables_1, d.before a0 Z = true) := cx.1
theorem Ctx.ew {Z : State} {a0 : Array Value} {n0 : Nat} {g1 : Int32} {gf : Value} {em : Addr} {es : Addr} (cx : Ctx Z a0 n0 g1 gf em es) : EW Z a0 consts_1 := cx.2.1
theorem Ctx.cmp {Z : State} {a0 : Array Value} {n0 : Nat} {g1 : Int32} {gf : Value} {em : Addr} {es : Addr} (cx : Ctx Z a0 n0 g1 gf em es) : Sta Z Z.heap "java/lang/String" "COMPACT_STRINGS" "Z" (.int g1) := cx.2.2.1
theorem Ctx.g1 {Z : State} {a0 : Array Value} {n0 : Nat} {g1 : Int32} {gf : Value} {em : Addr} {es : Addr} (cx : Ctx Z a0 n0 g1 gf em es) : ¬ g1 = 0 := cx.2.2.2.1
theorem Ctx.fmt {Z : State} {a0 : Array Value} {n0 : Nat} {g1 : Int32} {gf : Value} {em : Addr} {es : Addr} (cx : Ctx Z a0 n0 g1 gf em es) : Sta Z Z.heap "jdk/internal/util/Preconditions" "SIOOBE_FORMATTER" "Ljava/util/function/BiFunction;" gf := cx.2.2.2.2.1
theorem Ctx.fref {Z : State} {a0 : Array Value} {n0 : Nat} {g1 : Int32} {gf : Value} {em : Addr} {es : Addr} (cx : Ctx Z a0 n0 g1 gf em es) : gf.isRef = true := cx.2.2.2.2.2.1
theorem Ctx.stem {Z : State} {a0 : Array Value} {n0 : Nat} {g1 : Int32} {gf : Value} {em : Addr} {es : Addr} (cx : Ctx Z a0 n0 g1 gf em es) : (Sta Z Z.heap "java/util/ImmutableCollections" "EMPTY" "Ljava/lang/Object;" (.ref em)) := cx.2.2.2.2.2.2.1
theorem Ctx.exem {Z : State} {a0 : Array Value} {n0 : Nat} {g1 : Int32} {gf : Value} {em : Addr} {es : Addr} (cx : Ctx Z a0 n0 g1 gf em es) : (Exa Z Z.heap em "java/lang/Object") := cx.2.2.2.2.2.2.2.1
theorem Ctx.stes {Z : State} {a0 : Array Value} {n0 : Nat} {g1 : Int32} {gf : Value} {em : Addr} {es : Addr} (cx : Ctx Z a0 n0 g1 gf em es) : (Sta Z Z.heap "java/util/ImmutableCollections" "EMPTY_SET" "Ljava/util/ImmutableCollections$SetN;" (.ref es)) := cx.2.2.2.2.2.2.2.2.1
theorem Ctx.exes {Z : State} {a0 : Array Value} {n0 : Nat} {g1 : Int32} {gf : Value} {em : Addr} {es : Addr} (cx : Ctx Z a0 n0 g1 gf em es) : (Exa Z Z.heap es "java/util/ImmutableCollections$SetN") := cx.2.2.2.2.2.2.2.2.2.1
theorem Ctx.fes {Z : State} {a0 : Array Value} {n0 : Nat} {g1 : Int32} {gf : Value} {em : Addr} {es : Addr} (cx : Ctx Z a0 n0 g1 gf em es) : (Fld Z Z.heap es "java/util/ImmutableCollections$SetN" "size" "I" (.int 0)) := cx.2.2.2.2.2.2.2.2.2.2.1
theorem Ctx.w {Z : State} {a0 : Array Value} {n0 : Nat} {g1 : Int32} {gf : Value} {em : Addr} {es : Addr} (cx : Ctx Z a0 n0 g1 gf em es) (k : Nat) {d : Jvm.Cond} (hd : tables_1[k]? = some d) : d.before a0 Z = true := cx.1 _ (List.mem_of_getElem? hd)
theorem Ctx.str {Z : State} {a0 : Array Value} {n0 : Nat} {g1 : Int32} {gf : Value} {em : Addr} {es : Addr} (cx : Ctx Z a0 n0 g1 gf em es) : ∀ a ∈ Bundle.stringAtoms, a.before a0 Z = true := fun d hd => cx.1 d ((by decide +kernel : ∀ d ∈ Bundle.stringAtoms, d ∈ tables_1) d hd)
theorem Ctx.vw {Z : State} {a0 : Array Value} {n0 : Nat} {g1 : Int32} {gf : Value} {em : Addr} {es : Addr} (cx : Ctx Z a0 n0 g1 gf em es) : ∀ d ∈ StrChars.Road.words, d.before a0 Z = true := fun d hd => cx.1 d ((by decide +kernel : ∀ d ∈ StrChars.Road.words, d ∈ tables_1) d hd)
theorem Ctx.lw {Z : State} {a0 : Array Value} {n0 : Nat} {g1 : Int32} {gf : Value} {em : Addr} {es : Addr} (cx : Ctx Z a0 n0 g1 gf em es) : ∀ d ∈ StrChars.Road.wordsLen, d.before a0 Z = true := fun d hd => cx.1 d ((by decide +kernel : ∀ d ∈ StrChars.Road.wordsLen, d ∈ tables_1) d hd)
theorem Ctx.hw {Z : State} {a0 : Array Value} {n0 : Nat} {g1 : Int32} {gf : Value} {em : Addr} {es : Addr} (cx : Ctx Z a0 n0 g1 gf em es) : ∀ d ∈ StrChars.Road.wordsChN, d.before a0 Z = true := fun d hd => cx.1 d ((by decide +kernel : ∀ d ∈ StrChars.Road.wordsChN, d ∈ tables_1) d hd)
theorem Ctx.qw {Z : State} {a0 : Array Value} {n0 : Nat} {g1 : Int32} {gf : Value} {em : Addr} {es : Addr} (cx : Ctx Z a0 n0 g1 gf em es) : ∀ d ∈ StrChars.Road.wordsEq, d.before a0 Z = true := fun d hd => cx.1 d ((by decide +kernel : ∀ d ∈ StrChars.Road.wordsEq, d ∈ tables_1) d hd)
def litV (k : Nat) : List Value := match tables_1[k]? with | some (.stringLink _ _ t) => t.toList.map (fun c => Value.int (Jvm.Lit.byteI c.toNat.toUInt16)) | _ => []
def litC (k : Nat) : List Int32 := match tables_1[k]? with | some (.stringLink _ _ t) => t.toList.map (fun c => Int32.ofNat c.toNat) | _ => []
def sgR : Lambda.Shape := (Jvm.Lambda.Shape.mk "java/util/function/Predicate" "test" (Jvm.ClassFile.MethodDescriptor.mk ([(Jvm.ClassFile.FieldType.object "java/lang/Object")] : List Jvm.ClassFile.FieldType) (Option.some Jvm.ClassFile.FieldType.boolean)) ([(Jvm.ClassFile.FieldType.object "java/lang/String")] : List Jvm.ClassFile.FieldType) (6 : Nat) "com/example/elegua/elegua/authorization/Access" "lambda$role$1" (Jvm.ClassFile.MethodDescriptor.mk ([(Jvm.ClassFile.FieldType.object "java/lang/String"), (Jvm.ClassFile.FieldType.object "com/example/elegua/elegua/context/Identity")] : List Jvm.ClassFile.FieldType) (Option.some Jvm.ClassFile.FieldType.boolean)) false (Jvm.ClassFile.MethodDescriptor.mk ([(Jvm.ClassFile.FieldType.object "com/example/elegua/elegua/context/Identity")] : List Jvm.ClassFile.FieldType) (Option.some Jvm.ClassFile.FieldType.boolean)))
def fwR : ByteArray := ⟨#[42, 180, 0, 15, 43, 192, 0, 19, 184, 0, 25, 172]⟩
theorem own_list3 {cs : List Int32} (hl : cs.length ≤ 3) : cs = [] ∨ (∃ a, cs = [a]) ∨ (∃ a b, cs = [a, b]) ∨ (∃ a b c, cs = [a, b, c]) := by
  cases cs with
  | nil => exact Or.inl rfl
  | cons a r =>
    cases r with
    | nil => exact Or.inr (Or.inl ⟨a, rfl⟩)
    | cons b r =>
      cases r with
      | nil => exact Or.inr (Or.inr (Or.inl ⟨a, b, rfl⟩))
      | cons c r =>
        cases r with
        | nil => exact Or.inr (Or.inr (Or.inr ⟨a, b, c, rfl⟩))
        | cons d r => exact absurd hl (by simp only [List.length_cons]; omega)
abbrev Y0 : MethodName := ⟨"com/example/elegua/elegua/authorization/Access", "<init>", "(Ljava/lang/String;Ljava/util/function/Predicate;)V"⟩
abbrev Y1 : MethodName := ⟨"com/example/elegua/elegua/authorization/Access", "allows", "(Lcom/example/elegua/elegua/context/Identity;)Z"⟩
abbrev Y2 : MethodName := ⟨"com/example/elegua/elegua/authorization/Access", "lambda$role$1", "(Ljava/lang/String;Lcom/example/elegua/elegua/context/Identity;)Z"⟩
abbrev Y3 : MethodName := ⟨"com/example/elegua/elegua/authorization/Access", "role", "(Ljava/lang/String;)Lcom/example/elegua/elegua/authorization/Access;"⟩
abbrev Y4 : MethodName := ⟨"com/example/elegua/elegua/authorization/Access", "toString", "()Ljava/lang/String;"⟩
abbrev Y5 : MethodName := ⟨"com/example/elegua/elegua/authorization/AccessRolePinLaw", "mk", "(I)Ljava/lang/String;"⟩
abbrev Y6 : MethodName := ⟨"com/example/elegua/elegua/context/Identity", "<init>", "(Ljava/lang/String;Ljava/util/Set;)V"⟩
abbrev Y7 : MethodName := ⟨"com/example/elegua/elegua/context/Identity", "hasRole", "(Ljava/lang/String;)Z"⟩
abbrev Y9 : MethodName := ⟨"java/lang/AbstractStringBuilder", "append", "(Ljava/lang/String;)Ljava/lang/AbstractStringBuilder;"⟩
abbrev Y10 : MethodName := ⟨"java/lang/AbstractStringBuilder", "ensureCapacityInternal", "(I)V"⟩
abbrev Y11 : MethodName := ⟨"java/lang/AbstractStringBuilder", "getValue", "()[B"⟩
abbrev Y12 : MethodName := ⟨"java/lang/AbstractStringBuilder", "inflateIfNeededFor", "(Ljava/lang/String;)V"⟩
abbrev Y13 : MethodName := ⟨"java/lang/AbstractStringBuilder", "isLatin1", "()Z"⟩
abbrev Y14 : MethodName := ⟨"java/lang/AbstractStringBuilder", "length", "()I"⟩
abbrev Y15 : MethodName := ⟨"java/lang/AbstractStringBuilder", "putStringAt", "(ILjava/lang/String;)V"⟩
abbrev Y16 : MethodName := ⟨"java/lang/Math", "min", "(II)I"⟩
abbrev Y17 : MethodName := ⟨"java/lang/Object", "equals", "(Ljava/lang/Object;)Z"⟩
abbrev Y18 : MethodName := ⟨"java/lang/Record", "<init>", "()V"⟩
abbrev Y19 : MethodName := ⟨"java/lang/String", "<init>", "(Ljava/lang/AbstractStringBuilder;Ljava/lang/Void;)V"⟩
abbrev Y20 : MethodName := ⟨"java/lang/String", "<init>", "(Ljava/lang/StringBuilder;)V"⟩
abbrev Y21 : MethodName := ⟨"java/lang/String", "<init>", "([C)V"⟩
abbrev Y23 : MethodName := ⟨"java/lang/String", "charAt", "(I)C"⟩
abbrev Y24 : MethodName := ⟨"java/lang/String", "coder", "()B"⟩
abbrev Y25 : MethodName := ⟨"java/lang/String", "equals", "(Ljava/lang/Object;)Z"⟩
abbrev Y26 : MethodName := ⟨"java/lang/String", "getBytes", "([BIB)V"⟩
abbrev Y27 : MethodName := ⟨"java/lang/String", "length", "()I"⟩
abbrev Y29 : MethodName := ⟨"java/lang/StringBuilder", "append", "(Ljava/lang/String;)Ljava/lang/StringBuilder;"⟩
abbrev Y30 : MethodName := ⟨"java/lang/StringBuilder", "length", "()I"⟩
abbrev Y31 : MethodName := ⟨"java/lang/StringBuilder", "toString", "()Ljava/lang/String;"⟩
abbrev Y33 : MethodName := ⟨"java/util/Arrays", "checkLength", "(II)V"⟩
abbrev Y34 : MethodName := ⟨"java/util/Arrays", "copyOfRange", "([BII)[B"⟩
abbrev Y35 : MethodName := ⟨"java/util/Arrays", "copyOfRangeByte", "([BII)[B"⟩
abbrev Y41 : MethodName := ⟨"java/util/Objects", "requireNonNull", "(Ljava/lang/Object;)Ljava/lang/Object;"⟩
abbrev Y42 : MethodName := ⟨"java/util/Objects", "requireNonNull", "(Ljava/lang/Object;Ljava/lang/String;)Ljava/lang/Object;"⟩
abbrev Y44 : MethodName := ⟨"java/util/Set", "copyOf", "(Ljava/util/Collection;)Ljava/util/Set;"⟩
abbrev Y46 : MethodName := ⟨"java/util/Set", "of", "(Ljava/lang/Object;)Ljava/util/Set;"⟩
abbrev Y47 : MethodName := ⟨"java/util/function/Predicate", "test", "(Ljava/lang/Object;)Z"⟩
theorem d1_0 : decode method_2_code 0 = .ok (.iload_n 0, 1) := by decide +kernel
theorem d1_1 : decode method_2_code 1 = .ok (.sipush 255, 3) := by decide +kernel
theorem d1_4 : decode method_2_code 4 = .ok (.iand, 1) := by decide +kernel
theorem d1_5 : decode method_2_code 5 = .ok (.i2c, 1) := by decide +kernel
theorem d1_6 : decode method_2_code 6 = .ok (.istore_n 1, 1) := by decide +kernel
theorem d1_7 : decode method_2_code 7 = .ok (.iload_n 0, 1) := by decide +kernel
theorem d1_8 : decode method_2_code 8 = .ok (.bipush 8, 2) := by decide +kernel
theorem d1_10 : decode method_2_code 10 = .ok (.iushr, 1) := by decide +kernel
theorem d1_11 : decode method_2_code 11 = .ok (.sipush 255, 3) := by decide +kernel
theorem d1_14 : decode method_2_code 14 = .ok (.iand, 1) := by decide +kernel
theorem d1_15 : decode method_2_code 15 = .ok (.i2c, 1) := by decide +kernel
theorem d1_16 : decode method_2_code 16 = .ok (.istore_n 2, 1) := by decide +kernel
theorem d1_17 : decode method_2_code 17 = .ok (.iload_n 0, 1) := by decide +kernel
theorem d1_18 : decode method_2_code 18 = .ok (.bipush 16, 2) := by decide +kernel
theorem d1_20 : decode method_2_code 20 = .ok (.iushr, 1) := by decide +kernel
theorem d1_21 : decode method_2_code 21 = .ok (.sipush 255, 3) := by decide +kernel
theorem d1_24 : decode method_2_code 24 = .ok (.iand, 1) := by decide +kernel
theorem d1_25 : decode method_2_code 25 = .ok (.i2c, 1) := by decide +kernel
theorem d1_26 : decode method_2_code 26 = .ok (.istore_n 3, 1) := by decide +kernel
theorem d1_27 : decode method_2_code 27 = .ok (.iload_n 0, 1) := by decide +kernel
theorem d1_28 : decode method_2_code 28 = .ok (.bipush 24, 2) := by decide +kernel
theorem d1_30 : decode method_2_code 30 = .ok (.iushr, 1) := by decide +kernel
theorem d1_31 : decode method_2_code 31 = .ok (.iconst 3, 1) := by decide +kernel
theorem d1_32 : decode method_2_code 32 = .ok (.iand, 1) := by decide +kernel
theorem d1_33 : decode method_2_code 33 = .ok (.istore 4, 2) := by decide +kernel
theorem d1_35 : decode method_2_code 35 = .ok (.iload 4, 2) := by decide +kernel
theorem d1_37 : decode method_2_code 37 = .ok (.ifCond .ne 14, 3) := by decide +kernel
theorem d1_40 : decode method_2_code 40 = .ok (.new 7, 3) := by decide +kernel
theorem d1_43 : decode method_2_code 43 = .ok (.dup, 1) := by decide +kernel
theorem d1_44 : decode method_2_code 44 = .ok (.iconst 0, 1) := by decide +kernel
theorem d1_45 : decode method_2_code 45 = .ok (.newarray .char, 2) := by decide +kernel
theorem d1_47 : decode method_2_code 47 = .ok (.invokespecial 9, 3) := by decide +kernel
theorem d1_50 : decode method_2_code 50 = .ok (.areturn, 1) := by decide +kernel
theorem d1_51 : decode method_2_code 51 = .ok (.iload 4, 2) := by decide +kernel
theorem d1_53 : decode method_2_code 53 = .ok (.iconst 1, 1) := by decide +kernel
theorem d1_54 : decode method_2_code 54 = .ok (.if_icmp .ne 18, 3) := by decide +kernel
theorem d1_57 : decode method_2_code 57 = .ok (.new 7, 3) := by decide +kernel
theorem d1_60 : decode method_2_code 60 = .ok (.dup, 1) := by decide +kernel
theorem d1_61 : decode method_2_code 61 = .ok (.iconst 1, 1) := by decide +kernel
theorem d1_62 : decode method_2_code 62 = .ok (.newarray .char, 2) := by decide +kernel
theorem d1_64 : decode method_2_code 64 = .ok (.dup, 1) := by decide +kernel
theorem d1_65 : decode method_2_code 65 = .ok (.iconst 0, 1) := by decide +kernel
theorem d1_66 : decode method_2_code 66 = .ok (.iload_n 1, 1) := by decide +kernel
theorem d1_67 : decode method_2_code 67 = .ok (.castore, 1) := by decide +kernel
theorem d1_68 : decode method_2_code 68 = .ok (.invokespecial 9, 3) := by decide +kernel
theorem d1_71 : decode method_2_code 71 = .ok (.areturn, 1) := by decide +kernel
theorem d1_72 : decode method_2_code 72 = .ok (.iload 4, 2) := by decide +kernel
theorem d1_74 : decode method_2_code 74 = .ok (.iconst 2, 1) := by decide +kernel
theorem d1_75 : decode method_2_code 75 = .ok (.if_icmp .ne 22, 3) := by decide +kernel
theorem d1_78 : decode method_2_code 78 = .ok (.new 7, 3) := by decide +kernel
theorem d1_81 : decode method_2_code 81 = .ok (.dup, 1) := by decide +kernel
theorem d1_82 : decode method_2_code 82 = .ok (.iconst 2, 1) := by decide +kernel
theorem d1_83 : decode method_2_code 83 = .ok (.newarray .char, 2) := by decide +kernel
theorem d1_85 : decode method_2_code 85 = .ok (.dup, 1) := by decide +kernel
theorem d1_86 : decode method_2_code 86 = .ok (.iconst 0, 1) := by decide +kernel
theorem d1_87 : decode method_2_code 87 = .ok (.iload_n 1, 1) := by decide +kernel
theorem d1_88 : decode method_2_code 88 = .ok (.castore, 1) := by decide +kernel
theorem d1_89 : decode method_2_code 89 = .ok (.dup, 1) := by decide +kernel
theorem d1_90 : decode method_2_code 90 = .ok (.iconst 1, 1) := by decide +kernel
theorem d1_91 : decode method_2_code 91 = .ok (.iload_n 2, 1) := by decide +kernel
theorem d1_92 : decode method_2_code 92 = .ok (.castore, 1) := by decide +kernel
theorem d1_93 : decode method_2_code 93 = .ok (.invokespecial 9, 3) := by decide +kernel
theorem d1_96 : decode method_2_code 96 = .ok (.areturn, 1) := by decide +kernel
theorem d1_97 : decode method_2_code 97 = .ok (.new 7, 3) := by decide +kernel
theorem d1_100 : decode method_2_code 100 = .ok (.dup, 1) := by decide +kernel
theorem d1_101 : decode method_2_code 101 = .ok (.iconst 3, 1) := by decide +kernel
theorem d1_102 : decode method_2_code 102 = .ok (.newarray .char, 2) := by decide +kernel
theorem d1_104 : decode method_2_code 104 = .ok (.dup, 1) := by decide +kernel
theorem d1_105 : decode method_2_code 105 = .ok (.iconst 0, 1) := by decide +kernel
theorem d1_106 : decode method_2_code 106 = .ok (.iload_n 1, 1) := by decide +kernel
theorem d1_107 : decode method_2_code 107 = .ok (.castore, 1) := by decide +kernel
theorem d1_108 : decode method_2_code 108 = .ok (.dup, 1) := by decide +kernel
theorem d1_109 : decode method_2_code 109 = .ok (.iconst 1, 1) := by decide +kernel
theorem d1_110 : decode method_2_code 110 = .ok (.iload_n 2, 1) := by decide +kernel
theorem d1_111 : decode method_2_code 111 = .ok (.castore, 1) := by decide +kernel
theorem d1_112 : decode method_2_code 112 = .ok (.dup, 1) := by decide +kernel
theorem d1_113 : decode method_2_code 113 = .ok (.iconst 2, 1) := by decide +kernel
theorem d1_114 : decode method_2_code 114 = .ok (.iload_n 3, 1) := by decide +kernel
theorem d1_115 : decode method_2_code 115 = .ok (.castore, 1) := by decide +kernel
theorem d1_116 : decode method_2_code 116 = .ok (.invokespecial 9, 3) := by decide +kernel
theorem d1_119 : decode method_2_code 119 = .ok (.areturn, 1) := by decide +kernel
theorem d2_0 : decode jdk_42_method_3_code 0 = .ok (.aload_n 0, 1) := by decide +kernel
theorem d2_1 : decode jdk_42_method_3_code 1 = .ok (.aload_n 1, 1) := by decide +kernel
theorem d2_2 : decode jdk_42_method_3_code 2 = .ok (.iconst 0, 1) := by decide +kernel
theorem d2_3 : decode jdk_42_method_3_code 3 = .ok (.aload_n 1, 1) := by decide +kernel
theorem d2_4 : decode jdk_42_method_3_code 4 = .ok (.arraylength, 1) := by decide +kernel
theorem d2_5 : decode jdk_42_method_3_code 5 = .ok (.aconst_null, 1) := by decide +kernel
theorem d2_6 : decode jdk_42_method_3_code 6 = .ok (.invokespecial 27, 3) := by decide +kernel
theorem d2_9 : decode jdk_42_method_3_code 9 = .ok (.return_, 1) := by decide +kernel
theorem d3_0 : decode jdk_42_method_149_code 0 = .ok (.aload_n 0, 1) := by decide +kernel
theorem d3_1 : decode jdk_42_method_149_code 1 = .ok (.invokespecial 1, 3) := by decide +kernel
theorem d3_4 : decode jdk_42_method_149_code 4 = .ok (.iload_n 3, 1) := by decide +kernel
theorem d3_5 : decode jdk_42_method_149_code 5 = .ok (.ifCond .ne 22, 3) := by decide +kernel
theorem d3_8 : decode jdk_42_method_149_code 8 = .ok (.aload_n 0, 1) := by decide +kernel
theorem d3_9 : decode jdk_42_method_149_code 9 = .ok (.ldc 7, 2) := by decide +kernel
theorem d3_11 : decode jdk_42_method_149_code 11 = .ok (.getfield 9, 3) := by decide +kernel
theorem d3_14 : decode jdk_42_method_149_code 14 = .ok (.putfield 9, 3) := by decide +kernel
theorem d3_17 : decode jdk_42_method_149_code 17 = .ok (.aload_n 0, 1) := by decide +kernel
theorem d3_18 : decode jdk_42_method_149_code 18 = .ok (.ldc 7, 2) := by decide +kernel
theorem d3_20 : decode jdk_42_method_149_code 20 = .ok (.getfield 15, 3) := by decide +kernel
theorem d3_23 : decode jdk_42_method_149_code 23 = .ok (.putfield 15, 3) := by decide +kernel
theorem d3_26 : decode jdk_42_method_149_code 26 = .ok (.return_, 1) := by decide +kernel
theorem d5_0 : decode jdk_96_method_18_code 0 = .ok (.new 15, 3) := by decide +kernel
theorem d5_3 : decode jdk_96_method_18_code 3 = .ok (.dup, 1) := by decide +kernel
theorem d5_4 : decode jdk_96_method_18_code 4 = .ok (.aload_n 0, 1) := by decide +kernel
theorem d5_5 : decode jdk_96_method_18_code 5 = .ok (.invokespecial 17, 3) := by decide +kernel
theorem d5_8 : decode jdk_96_method_18_code 8 = .ok (.areturn, 1) := by decide +kernel
theorem d6_0 : decode jdk_101_method_1_code 0 = .ok (.aload_n 0, 1) := by decide +kernel
theorem d6_1 : decode jdk_101_method_1_code 1 = .ok (.invokespecial 1, 3) := by decide +kernel
theorem d6_4 : decode jdk_101_method_1_code 4 = .ok (.aload_n 0, 1) := by decide +kernel
theorem d6_5 : decode jdk_101_method_1_code 5 = .ok (.aload_n 1, 1) := by decide +kernel
theorem d6_6 : decode jdk_101_method_1_code 6 = .ok (.invokestatic 7, 3) := by decide +kernel
theorem d6_9 : decode jdk_101_method_1_code 9 = .ok (.putfield 13, 3) := by decide +kernel
theorem d6_12 : decode jdk_101_method_1_code 12 = .ok (.aload_n 0, 1) := by decide +kernel
theorem d6_13 : decode jdk_101_method_1_code 13 = .ok (.getstatic 19, 3) := by decide +kernel
theorem d6_16 : decode jdk_101_method_1_code 16 = .ok (.putfield 24, 3) := by decide +kernel
theorem d6_19 : decode jdk_101_method_1_code 19 = .ok (.return_, 1) := by decide +kernel
theorem d7_0 : decode jdk_100_method_1_code 0 = .ok (.aload_n 0, 1) := by decide +kernel
theorem d7_1 : decode jdk_100_method_1_code 1 = .ok (.invokespecial 1, 3) := by decide +kernel
theorem d7_4 : decode jdk_100_method_1_code 4 = .ok (.return_, 1) := by decide +kernel
theorem d8_0 : decode jdk_47_method_1_code 0 = .ok (.aload_n 0, 1) := by decide +kernel
theorem d8_1 : decode jdk_47_method_1_code 1 = .ok (.invokespecial 1, 3) := by decide +kernel
theorem d8_4 : decode jdk_47_method_1_code 4 = .ok (.return_, 1) := by decide +kernel
theorem d9_0 : decode jdk_22_method_1_code 0 = .ok (.aload_n 0, 1) := by decide +kernel
theorem d9_1 : decode jdk_22_method_1_code 1 = .ok (.invokespecial 1, 3) := by decide +kernel
theorem d9_4 : decode jdk_22_method_1_code 4 = .ok (.return_, 1) := by decide +kernel
theorem d10_0 : decode jdk_31_method_10_code 0 = .ok (.aload_n 0, 1) := by decide +kernel
theorem d10_1 : decode jdk_31_method_10_code 1 = .ok (.ifnonnull 11, 3) := by decide +kernel
theorem d10_12 : decode jdk_31_method_10_code 12 = .ok (.aload_n 0, 1) := by decide +kernel
theorem d10_13 : decode jdk_31_method_10_code 13 = .ok (.areturn, 1) := by decide +kernel
theorem d11_0 : decode prog_6_method_1_code 0 = .ok (.aload_n 0, 1) := by decide +kernel
theorem d11_1 : decode prog_6_method_1_code 1 = .ok (.invokespecial 1, 3) := by decide +kernel
theorem d11_4 : decode prog_6_method_1_code 4 = .ok (.aload_n 1, 1) := by decide +kernel
theorem d11_5 : decode prog_6_method_1_code 5 = .ok (.ldc 7, 2) := by decide +kernel
theorem d11_7 : decode prog_6_method_1_code 7 = .ok (.invokestatic 9, 3) := by decide +kernel
theorem d11_10 : decode prog_6_method_1_code 10 = .ok (.pop, 1) := by decide +kernel
theorem d11_11 : decode prog_6_method_1_code 11 = .ok (.aload_n 2, 1) := by decide +kernel
theorem d11_12 : decode prog_6_method_1_code 12 = .ok (.invokestatic 15, 3) := by decide +kernel
theorem d11_15 : decode prog_6_method_1_code 15 = .ok (.astore_n 2, 1) := by decide +kernel
theorem d11_16 : decode prog_6_method_1_code 16 = .ok (.aload_n 0, 1) := by decide +kernel
theorem d11_17 : decode prog_6_method_1_code 17 = .ok (.aload_n 1, 1) := by decide +kernel
theorem d11_18 : decode prog_6_method_1_code 18 = .ok (.putfield 21, 3) := by decide +kernel
theorem d11_21 : decode prog_6_method_1_code 21 = .ok (.aload_n 0, 1) := by decide +kernel
theorem d11_22 : decode prog_6_method_1_code 22 = .ok (.aload_n 2, 1) := by decide +kernel
theorem d11_23 : decode prog_6_method_1_code 23 = .ok (.putfield 26, 3) := by decide +kernel
theorem d11_26 : decode prog_6_method_1_code 26 = .ok (.return_, 1) := by decide +kernel
theorem d12_0 : decode jdk_30_method_1_code 0 = .ok (.aload_n 0, 1) := by decide +kernel
theorem d12_1 : decode jdk_30_method_1_code 1 = .ok (.invokespecial 1, 3) := by decide +kernel
theorem d12_4 : decode jdk_30_method_1_code 4 = .ok (.return_, 1) := by decide +kernel
theorem d13_0 : decode jdk_31_method_11_code 0 = .ok (.aload_n 0, 1) := by decide +kernel
theorem d13_1 : decode jdk_31_method_11_code 1 = .ok (.ifnonnull 12, 3) := by decide +kernel
theorem d13_13 : decode jdk_31_method_11_code 13 = .ok (.aload_n 0, 1) := by decide +kernel
theorem d13_14 : decode jdk_31_method_11_code 14 = .ok (.areturn, 1) := by decide +kernel
theorem d14_0 : decode jdk_96_method_29_code 0 = .ok (.aload_n 0, 1) := by decide +kernel
theorem d14_1 : decode jdk_96_method_29_code 1 = .ok (.instanceof 31, 3) := by decide +kernel
theorem d14_4 : decode jdk_96_method_29_code 4 = .ok (.ifCond .eq 8, 3) := by decide +kernel
theorem d14_7 : decode jdk_96_method_29_code 7 = .ok (.aload_n 0, 1) := by decide +kernel
theorem d14_8 : decode jdk_96_method_29_code 8 = .ok (.checkcast 33, 3) := by decide +kernel
theorem d14_11 : decode jdk_96_method_29_code 11 = .ok (.areturn, 1) := by decide +kernel
theorem d15_0 : decode prog_2_method_4_code 0 = .ok (.aload_n 0, 1) := by decide +kernel
theorem d15_1 : decode prog_2_method_4_code 1 = .ok (.ldc 24, 2) := by decide +kernel
theorem d15_3 : decode prog_2_method_4_code 3 = .ok (.invokestatic 26, 3) := by decide +kernel
theorem d15_6 : decode prog_2_method_4_code 6 = .ok (.pop, 1) := by decide +kernel
theorem d15_7 : decode prog_2_method_4_code 7 = .ok (.new 8, 3) := by decide +kernel
theorem d15_10 : decode prog_2_method_4_code 10 = .ok (.dup, 1) := by decide +kernel
theorem d15_11 : decode prog_2_method_4_code 11 = .ok (.new 32, 3) := by decide +kernel
theorem d15_14 : decode prog_2_method_4_code 14 = .ok (.dup, 1) := by decide +kernel
theorem d15_15 : decode prog_2_method_4_code 15 = .ok (.invokespecial 34, 3) := by decide +kernel
theorem d15_18 : decode prog_2_method_4_code 18 = .ok (.ldc 35, 2) := by decide +kernel
theorem d15_20 : decode prog_2_method_4_code 20 = .ok (.invokevirtual 37, 3) := by decide +kernel
theorem d15_23 : decode prog_2_method_4_code 23 = .ok (.aload_n 0, 1) := by decide +kernel
theorem d15_24 : decode prog_2_method_4_code 24 = .ok (.invokevirtual 37, 3) := by decide +kernel
theorem d15_27 : decode prog_2_method_4_code 27 = .ok (.invokevirtual 41, 3) := by decide +kernel
theorem d15_30 : decode prog_2_method_4_code 30 = .ok (.aload_n 0, 1) := by decide +kernel
theorem d15_31 : decode prog_2_method_4_code 31 = .ok (.invokedynamic 45, 5) := by decide +kernel
theorem d15_36 : decode prog_2_method_4_code 36 = .ok (.invokespecial 48, 3) := by decide +kernel
theorem d15_39 : decode prog_2_method_4_code 39 = .ok (.areturn, 1) := by decide +kernel
theorem d16_0 : decode jdk_67_method_1_code 0 = .ok (.aload_n 0, 1) := by decide +kernel
theorem d16_1 : decode jdk_67_method_1_code 1 = .ok (.bipush 16, 2) := by decide +kernel
theorem d16_3 : decode jdk_67_method_1_code 3 = .ok (.invokespecial 1, 3) := by decide +kernel
theorem d16_6 : decode jdk_67_method_1_code 6 = .ok (.return_, 1) := by decide +kernel
theorem d17_0 : decode jdk_68_method_2_code 0 = .ok (.aload_n 0, 1) := by decide +kernel
theorem d17_1 : decode jdk_68_method_2_code 1 = .ok (.invokespecial 3, 3) := by decide +kernel
theorem d17_4 : decode jdk_68_method_2_code 4 = .ok (.getstatic 18, 3) := by decide +kernel
theorem d17_7 : decode jdk_68_method_2_code 7 = .ok (.ifCond .eq 18, 3) := by decide +kernel
theorem d17_10 : decode jdk_68_method_2_code 10 = .ok (.aload_n 0, 1) := by decide +kernel
theorem d17_11 : decode jdk_68_method_2_code 11 = .ok (.iload_n 1, 1) := by decide +kernel
theorem d17_12 : decode jdk_68_method_2_code 12 = .ok (.newarray .byte, 2) := by decide +kernel
theorem d17_14 : decode jdk_68_method_2_code 14 = .ok (.putfield 15, 3) := by decide +kernel
theorem d17_17 : decode jdk_68_method_2_code 17 = .ok (.aload_n 0, 1) := by decide +kernel
theorem d17_18 : decode jdk_68_method_2_code 18 = .ok (.iconst 0, 1) := by decide +kernel
theorem d17_19 : decode jdk_68_method_2_code 19 = .ok (.putfield 22, 3) := by decide +kernel
theorem d17_22 : decode jdk_68_method_2_code 22 = .ok (.goto 16, 3) := by decide +kernel
theorem d17_38 : decode jdk_68_method_2_code 38 = .ok (.return_, 1) := by decide +kernel
theorem d18_0 : decode jdk_67_method_7_code 0 = .ok (.aload_n 0, 1) := by decide +kernel
theorem d18_1 : decode jdk_67_method_7_code 1 = .ok (.aload_n 1, 1) := by decide +kernel
theorem d18_2 : decode jdk_67_method_7_code 2 = .ok (.invokespecial 29, 3) := by decide +kernel
theorem d18_5 : decode jdk_67_method_7_code 5 = .ok (.pop, 1) := by decide +kernel
theorem d18_6 : decode jdk_67_method_7_code 6 = .ok (.aload_n 0, 1) := by decide +kernel
theorem d18_7 : decode jdk_67_method_7_code 7 = .ok (.areturn, 1) := by decide +kernel
theorem d19_0 : decode jdk_68_method_22_code 0 = .ok (.aload_n 1, 1) := by decide +kernel
theorem d19_1 : decode jdk_68_method_22_code 1 = .ok (.ifnonnull 8, 3) := by decide +kernel
theorem d19_9 : decode jdk_68_method_22_code 9 = .ok (.aload_n 1, 1) := by decide +kernel
theorem d19_10 : decode jdk_68_method_22_code 10 = .ok (.invokevirtual 32, 3) := by decide +kernel
theorem d19_13 : decode jdk_68_method_22_code 13 = .ok (.istore_n 2, 1) := by decide +kernel
theorem d19_14 : decode jdk_68_method_22_code 14 = .ok (.aload_n 0, 1) := by decide +kernel
theorem d19_15 : decode jdk_68_method_22_code 15 = .ok (.aload_n 0, 1) := by decide +kernel
theorem d19_16 : decode jdk_68_method_22_code 16 = .ok (.getfield 79, 3) := by decide +kernel
theorem d19_19 : decode jdk_68_method_22_code 19 = .ok (.iload_n 2, 1) := by decide +kernel
theorem d19_20 : decode jdk_68_method_22_code 20 = .ok (.iadd, 1) := by decide +kernel
theorem d19_21 : decode jdk_68_method_22_code 21 = .ok (.invokevirtual 100, 3) := by decide +kernel
theorem d19_24 : decode jdk_68_method_22_code 24 = .ok (.aload_n 0, 1) := by decide +kernel
theorem d19_25 : decode jdk_68_method_22_code 25 = .ok (.aload_n 0, 1) := by decide +kernel
theorem d19_26 : decode jdk_68_method_22_code 26 = .ok (.getfield 79, 3) := by decide +kernel
theorem d19_29 : decode jdk_68_method_22_code 29 = .ok (.aload_n 1, 1) := by decide +kernel
theorem d19_30 : decode jdk_68_method_22_code 30 = .ok (.invokevirtual 208, 3) := by decide +kernel
theorem d19_33 : decode jdk_68_method_22_code 33 = .ok (.aload_n 0, 1) := by decide +kernel
theorem d19_34 : decode jdk_68_method_22_code 34 = .ok (.dup, 1) := by decide +kernel
theorem d19_35 : decode jdk_68_method_22_code 35 = .ok (.getfield 79, 3) := by decide +kernel
theorem d19_38 : decode jdk_68_method_22_code 38 = .ok (.iload_n 2, 1) := by decide +kernel
theorem d19_39 : decode jdk_68_method_22_code 39 = .ok (.iadd, 1) := by decide +kernel
theorem d19_40 : decode jdk_68_method_22_code 40 = .ok (.putfield 79, 3) := by decide +kernel
theorem d19_43 : decode jdk_68_method_22_code 43 = .ok (.aload_n 0, 1) := by decide +kernel
theorem d19_44 : decode jdk_68_method_22_code 44 = .ok (.areturn, 1) := by decide +kernel
theorem d21_0 : decode jdk_42_method_152_code 0 = .ok (.getstatic 38, 3) := by decide +kernel
theorem d21_3 : decode jdk_42_method_152_code 3 = .ok (.ifCond .eq 10, 3) := by decide +kernel
theorem d21_6 : decode jdk_42_method_152_code 6 = .ok (.aload_n 0, 1) := by decide +kernel
theorem d21_7 : decode jdk_42_method_152_code 7 = .ok (.getfield 15, 3) := by decide +kernel
theorem d21_10 : decode jdk_42_method_152_code 10 = .ok (.goto 4, 3) := by decide +kernel
theorem d21_14 : decode jdk_42_method_152_code 14 = .ok (.ireturn, 1) := by decide +kernel
theorem d22_0 : decode jdk_68_method_9_code 0 = .ok (.aload_n 0, 1) := by decide +kernel
theorem d22_1 : decode jdk_68_method_9_code 1 = .ok (.getfield 15, 3) := by decide +kernel
theorem d22_4 : decode jdk_68_method_9_code 4 = .ok (.arraylength, 1) := by decide +kernel
theorem d22_5 : decode jdk_68_method_9_code 5 = .ok (.aload_n 0, 1) := by decide +kernel
theorem d22_6 : decode jdk_68_method_9_code 6 = .ok (.getfield 22, 3) := by decide +kernel
theorem d22_9 : decode jdk_68_method_9_code 9 = .ok (.ishr, 1) := by decide +kernel
theorem d22_10 : decode jdk_68_method_9_code 10 = .ok (.istore_n 2, 1) := by decide +kernel
theorem d22_11 : decode jdk_68_method_9_code 11 = .ok (.iload_n 1, 1) := by decide +kernel
theorem d22_12 : decode jdk_68_method_9_code 12 = .ok (.iload_n 2, 1) := by decide +kernel
theorem d22_13 : decode jdk_68_method_9_code 13 = .ok (.isub, 1) := by decide +kernel
theorem d22_14 : decode jdk_68_method_9_code 14 = .ok (.ifCond .le 24, 3) := by decide +kernel
theorem d22_38 : decode jdk_68_method_9_code 38 = .ok (.return_, 1) := by decide +kernel
theorem d23_0 : decode jdk_68_method_73_code 0 = .ok (.aload_n 0, 1) := by decide +kernel
theorem d23_1 : decode jdk_68_method_73_code 1 = .ok (.aload_n 2, 1) := by decide +kernel
theorem d23_2 : decode jdk_68_method_73_code 2 = .ok (.invokevirtual 397, 3) := by decide +kernel
theorem d23_5 : decode jdk_68_method_73_code 5 = .ok (.aload_n 2, 1) := by decide +kernel
theorem d23_6 : decode jdk_68_method_73_code 6 = .ok (.aload_n 0, 1) := by decide +kernel
theorem d23_7 : decode jdk_68_method_73_code 7 = .ok (.getfield 15, 3) := by decide +kernel
theorem d23_10 : decode jdk_68_method_73_code 10 = .ok (.iload_n 1, 1) := by decide +kernel
theorem d23_11 : decode jdk_68_method_73_code 11 = .ok (.aload_n 0, 1) := by decide +kernel
theorem d23_12 : decode jdk_68_method_73_code 12 = .ok (.getfield 22, 3) := by decide +kernel
theorem d23_15 : decode jdk_68_method_73_code 15 = .ok (.invokevirtual 399, 3) := by decide +kernel
theorem d23_18 : decode jdk_68_method_73_code 18 = .ok (.return_, 1) := by decide +kernel
theorem d24_0 : decode jdk_68_method_71_code 0 = .ok (.getstatic 18, 3) := by decide +kernel
theorem d24_3 : decode jdk_68_method_71_code 3 = .ok (.ifCond .eq 18, 3) := by decide +kernel
theorem d24_6 : decode jdk_68_method_71_code 6 = .ok (.aload_n 0, 1) := by decide +kernel
theorem d24_7 : decode jdk_68_method_71_code 7 = .ok (.getfield 22, 3) := by decide +kernel
theorem d24_10 : decode jdk_68_method_71_code 10 = .ok (.aload_n 1, 1) := by decide +kernel
theorem d24_11 : decode jdk_68_method_71_code 11 = .ok (.invokevirtual 40, 3) := by decide +kernel
theorem d24_14 : decode jdk_68_method_71_code 14 = .ok (.if_icmp .eq 7, 3) := by decide +kernel
theorem d24_21 : decode jdk_68_method_71_code 21 = .ok (.return_, 1) := by decide +kernel
theorem d25_0 : decode jdk_42_method_147_code 0 = .ok (.aload_n 0, 1) := by decide +kernel
theorem d25_1 : decode jdk_42_method_147_code 1 = .ok (.invokevirtual 335, 3) := by decide +kernel
theorem d25_4 : decode jdk_42_method_147_code 4 = .ok (.iload_n 3, 1) := by decide +kernel
theorem d25_5 : decode jdk_42_method_147_code 5 = .ok (.if_icmp .ne 23, 3) := by decide +kernel
theorem d25_8 : decode jdk_42_method_147_code 8 = .ok (.aload_n 0, 1) := by decide +kernel
theorem d25_9 : decode jdk_42_method_147_code 9 = .ok (.getfield 9, 3) := by decide +kernel
theorem d25_12 : decode jdk_42_method_147_code 12 = .ok (.iconst 0, 1) := by decide +kernel
theorem d25_13 : decode jdk_42_method_147_code 13 = .ok (.aload_n 1, 1) := by decide +kernel
theorem d25_14 : decode jdk_42_method_147_code 14 = .ok (.iload_n 2, 1) := by decide +kernel
theorem d25_15 : decode jdk_42_method_147_code 15 = .ok (.iload_n 3, 1) := by decide +kernel
theorem d25_16 : decode jdk_42_method_147_code 16 = .ok (.ishl, 1) := by decide +kernel
theorem d25_17 : decode jdk_42_method_147_code 17 = .ok (.aload_n 0, 1) := by decide +kernel
theorem d25_18 : decode jdk_42_method_147_code 18 = .ok (.getfield 9, 3) := by decide +kernel
theorem d25_21 : decode jdk_42_method_147_code 21 = .ok (.arraylength, 1) := by decide +kernel
theorem d25_22 : decode jdk_42_method_147_code 22 = .ok (.invokestatic 212, 3) := by decide +kernel
theorem d25_25 : decode jdk_42_method_147_code 25 = .ok (.goto 18, 3) := by decide +kernel
theorem d25_43 : decode jdk_42_method_147_code 43 = .ok (.return_, 1) := by decide +kernel
theorem d26_0 : decode jdk_67_method_42_code 0 = .ok (.new 18, 3) := by decide +kernel
theorem d26_3 : decode jdk_67_method_42_code 3 = .ok (.dup, 1) := by decide +kernel
theorem d26_4 : decode jdk_67_method_42_code 4 = .ok (.aload_n 0, 1) := by decide +kernel
theorem d26_5 : decode jdk_67_method_42_code 5 = .ok (.invokespecial 137, 3) := by decide +kernel
theorem d26_8 : decode jdk_67_method_42_code 8 = .ok (.areturn, 1) := by decide +kernel
theorem d27_0 : decode jdk_42_method_53_code 0 = .ok (.aload_n 0, 1) := by decide +kernel
theorem d27_1 : decode jdk_42_method_53_code 1 = .ok (.aload_n 1, 1) := by decide +kernel
theorem d27_2 : decode jdk_42_method_53_code 2 = .ok (.aconst_null, 1) := by decide +kernel
theorem d27_3 : decode jdk_42_method_53_code 3 = .ok (.invokespecial 489, 3) := by decide +kernel
theorem d27_6 : decode jdk_42_method_53_code 6 = .ok (.return_, 1) := by decide +kernel
theorem d28_0 : decode jdk_42_method_150_code 0 = .ok (.aload_n 0, 1) := by decide +kernel
theorem d28_1 : decode jdk_42_method_150_code 1 = .ok (.invokespecial 1, 3) := by decide +kernel
theorem d28_4 : decode jdk_42_method_150_code 4 = .ok (.aload_n 1, 1) := by decide +kernel
theorem d28_5 : decode jdk_42_method_150_code 5 = .ok (.invokevirtual 552, 3) := by decide +kernel
theorem d28_8 : decode jdk_42_method_150_code 8 = .ok (.astore_n 3, 1) := by decide +kernel
theorem d28_9 : decode jdk_42_method_150_code 9 = .ok (.aload_n 1, 1) := by decide +kernel
theorem d28_10 : decode jdk_42_method_150_code 10 = .ok (.invokevirtual 549, 3) := by decide +kernel
theorem d28_13 : decode jdk_42_method_150_code 13 = .ok (.istore 4, 2) := by decide +kernel
theorem d28_15 : decode jdk_42_method_150_code 15 = .ok (.aload_n 1, 1) := by decide +kernel
theorem d28_16 : decode jdk_42_method_150_code 16 = .ok (.invokevirtual 1047, 3) := by decide +kernel
theorem d28_19 : decode jdk_42_method_150_code 19 = .ok (.ifCond .eq 22, 3) := by decide +kernel
theorem d28_22 : decode jdk_42_method_150_code 22 = .ok (.aload_n 0, 1) := by decide +kernel
theorem d28_23 : decode jdk_42_method_150_code 23 = .ok (.iconst 0, 1) := by decide +kernel
theorem d28_24 : decode jdk_42_method_150_code 24 = .ok (.putfield 15, 3) := by decide +kernel
theorem d28_27 : decode jdk_42_method_150_code 27 = .ok (.aload_n 0, 1) := by decide +kernel
theorem d28_28 : decode jdk_42_method_150_code 28 = .ok (.aload_n 3, 1) := by decide +kernel
theorem d28_29 : decode jdk_42_method_150_code 29 = .ok (.iconst 0, 1) := by decide +kernel
theorem d28_30 : decode jdk_42_method_150_code 30 = .ok (.iload 4, 2) := by decide +kernel
theorem d28_32 : decode jdk_42_method_150_code 32 = .ok (.invokestatic 54, 3) := by decide +kernel
theorem d28_35 : decode jdk_42_method_150_code 35 = .ok (.putfield 9, 3) := by decide +kernel
theorem d28_38 : decode jdk_42_method_150_code 38 = .ok (.goto 59, 3) := by decide +kernel
theorem d28_97 : decode jdk_42_method_150_code 97 = .ok (.return_, 1) := by decide +kernel
theorem d29_0 : decode jdk_68_method_64_code 0 = .ok (.aload_n 0, 1) := by decide +kernel
theorem d29_1 : decode jdk_68_method_64_code 1 = .ok (.getfield 15, 3) := by decide +kernel
theorem d29_4 : decode jdk_68_method_64_code 4 = .ok (.areturn, 1) := by decide +kernel
theorem d30_0 : decode jdk_67_method_93_code 0 = .ok (.aload_n 0, 1) := by decide +kernel
theorem d30_1 : decode jdk_67_method_93_code 1 = .ok (.invokespecial 343, 3) := by decide +kernel
theorem d30_4 : decode jdk_67_method_93_code 4 = .ok (.ireturn, 1) := by decide +kernel
theorem d31_0 : decode jdk_68_method_6_code 0 = .ok (.aload_n 0, 1) := by decide +kernel
theorem d31_1 : decode jdk_68_method_6_code 1 = .ok (.getfield 79, 3) := by decide +kernel
theorem d31_4 : decode jdk_68_method_6_code 4 = .ok (.ireturn, 1) := by decide +kernel
theorem d32_0 : decode jdk_68_method_68_code 0 = .ok (.getstatic 18, 3) := by decide +kernel
theorem d32_3 : decode jdk_68_method_68_code 3 = .ok (.ifCond .eq 14, 3) := by decide +kernel
theorem d32_6 : decode jdk_68_method_68_code 6 = .ok (.aload_n 0, 1) := by decide +kernel
theorem d32_7 : decode jdk_68_method_68_code 7 = .ok (.getfield 22, 3) := by decide +kernel
theorem d32_10 : decode jdk_68_method_68_code 10 = .ok (.ifCond .ne 7, 3) := by decide +kernel
theorem d32_13 : decode jdk_68_method_68_code 13 = .ok (.iconst 1, 1) := by decide +kernel
theorem d32_14 : decode jdk_68_method_68_code 14 = .ok (.goto 4, 3) := by decide +kernel
theorem d32_18 : decode jdk_68_method_68_code 18 = .ok (.ireturn, 1) := by decide +kernel
theorem d33_0 : decode jdk_65_method_132_code 0 = .ok (.iload_n 1, 1) := by decide +kernel
theorem d33_1 : decode jdk_65_method_132_code 1 = .ok (.ifCond .ne 9, 3) := by decide +kernel
theorem d33_4 : decode jdk_65_method_132_code 4 = .ok (.iload_n 2, 1) := by decide +kernel
theorem d33_5 : decode jdk_65_method_132_code 5 = .ok (.aload_n 0, 1) := by decide +kernel
theorem d33_6 : decode jdk_65_method_132_code 6 = .ok (.arraylength, 1) := by decide +kernel
theorem d33_7 : decode jdk_65_method_132_code 7 = .ok (.if_icmp .eq 10, 3) := by decide +kernel
theorem d33_10 : decode jdk_65_method_132_code 10 = .ok (.aload_n 0, 1) := by decide +kernel
theorem d33_11 : decode jdk_65_method_132_code 11 = .ok (.iload_n 1, 1) := by decide +kernel
theorem d33_12 : decode jdk_65_method_132_code 12 = .ok (.iload_n 2, 1) := by decide +kernel
theorem d33_13 : decode jdk_65_method_132_code 13 = .ok (.invokestatic 339, 3) := by decide +kernel
theorem d33_16 : decode jdk_65_method_132_code 16 = .ok (.areturn, 1) := by decide +kernel
theorem d34_0 : decode jdk_65_method_133_code 0 = .ok (.iload_n 1, 1) := by decide +kernel
theorem d34_1 : decode jdk_65_method_133_code 1 = .ok (.iload_n 2, 1) := by decide +kernel
theorem d34_2 : decode jdk_65_method_133_code 2 = .ok (.invokestatic 343, 3) := by decide +kernel
theorem d34_5 : decode jdk_65_method_133_code 5 = .ok (.iload_n 2, 1) := by decide +kernel
theorem d34_6 : decode jdk_65_method_133_code 6 = .ok (.iload_n 1, 1) := by decide +kernel
theorem d34_7 : decode jdk_65_method_133_code 7 = .ok (.isub, 1) := by decide +kernel
theorem d34_8 : decode jdk_65_method_133_code 8 = .ok (.istore_n 3, 1) := by decide +kernel
theorem d34_9 : decode jdk_65_method_133_code 9 = .ok (.iload_n 3, 1) := by decide +kernel
theorem d34_10 : decode jdk_65_method_133_code 10 = .ok (.newarray .byte, 2) := by decide +kernel
theorem d34_12 : decode jdk_65_method_133_code 12 = .ok (.astore 4, 2) := by decide +kernel
theorem d34_14 : decode jdk_65_method_133_code 14 = .ok (.aload_n 0, 1) := by decide +kernel
theorem d34_15 : decode jdk_65_method_133_code 15 = .ok (.iload_n 1, 1) := by decide +kernel
theorem d34_16 : decode jdk_65_method_133_code 16 = .ok (.aload 4, 2) := by decide +kernel
theorem d34_18 : decode jdk_65_method_133_code 18 = .ok (.iconst 0, 1) := by decide +kernel
theorem d34_19 : decode jdk_65_method_133_code 19 = .ok (.aload_n 0, 1) := by decide +kernel
theorem d34_20 : decode jdk_65_method_133_code 20 = .ok (.arraylength, 1) := by decide +kernel
theorem d34_21 : decode jdk_65_method_133_code 21 = .ok (.iload_n 1, 1) := by decide +kernel
theorem d34_22 : decode jdk_65_method_133_code 22 = .ok (.isub, 1) := by decide +kernel
theorem d34_23 : decode jdk_65_method_133_code 23 = .ok (.iload_n 3, 1) := by decide +kernel
theorem d34_24 : decode jdk_65_method_133_code 24 = .ok (.invokestatic 304, 3) := by decide +kernel
theorem d34_27 : decode jdk_65_method_133_code 27 = .ok (.invokestatic 150, 3) := by decide +kernel
theorem d34_30 : decode jdk_65_method_133_code 30 = .ok (.aload 4, 2) := by decide +kernel
theorem d34_32 : decode jdk_65_method_133_code 32 = .ok (.areturn, 1) := by decide +kernel
theorem d35_0 : decode jdk_65_method_131_code 0 = .ok (.iload_n 1, 1) := by decide +kernel
theorem d35_1 : decode jdk_65_method_131_code 1 = .ok (.iload_n 0, 1) := by decide +kernel
theorem d35_2 : decode jdk_65_method_131_code 2 = .ok (.if_icmp .ge 35, 3) := by decide +kernel
theorem d35_37 : decode jdk_65_method_131_code 37 = .ok (.return_, 1) := by decide +kernel
theorem d36_0 : decode jdk_29_method_69_code 0 = .ok (.iload_n 0, 1) := by decide +kernel
theorem d36_1 : decode jdk_29_method_69_code 1 = .ok (.iload_n 1, 1) := by decide +kernel
theorem d36_2 : decode jdk_29_method_69_code 2 = .ok (.if_icmp .gt 7, 3) := by decide +kernel
theorem d36_9 : decode jdk_29_method_69_code 9 = .ok (.iload_n 1, 1) := by decide +kernel
theorem d36_10 : decode jdk_29_method_69_code 10 = .ok (.ireturn, 1) := by decide +kernel
theorem d37_0 : decode prog_2_method_1_code 0 = .ok (.aload_n 0, 1) := by decide +kernel
theorem d37_1 : decode prog_2_method_1_code 1 = .ok (.invokespecial 1, 3) := by decide +kernel
theorem d37_4 : decode prog_2_method_1_code 4 = .ok (.aload_n 0, 1) := by decide +kernel
theorem d37_5 : decode prog_2_method_1_code 5 = .ok (.aload_n 1, 1) := by decide +kernel
theorem d37_6 : decode prog_2_method_1_code 6 = .ok (.putfield 7, 3) := by decide +kernel
theorem d37_9 : decode prog_2_method_1_code 9 = .ok (.aload_n 0, 1) := by decide +kernel
theorem d37_10 : decode prog_2_method_1_code 10 = .ok (.aload_n 2, 1) := by decide +kernel
theorem d37_11 : decode prog_2_method_1_code 11 = .ok (.putfield 13, 3) := by decide +kernel
theorem d37_14 : decode prog_2_method_1_code 14 = .ok (.return_, 1) := by decide +kernel
theorem d38_0 : decode prog_2_method_5_code 0 = .ok (.aload_n 0, 1) := by decide +kernel
theorem d38_1 : decode prog_2_method_5_code 1 = .ok (.getfield 13, 3) := by decide +kernel
theorem d38_4 : decode prog_2_method_5_code 4 = .ok (.aload_n 1, 1) := by decide +kernel
theorem d38_5 : decode prog_2_method_5_code 5 = .ok (.invokeinterface 51 2, 5) := by decide +kernel
theorem d38_10 : decode prog_2_method_5_code 10 = .ok (.ireturn, 1) := by decide +kernel
theorem d39_0 : decode prog_2_method_7_code 0 = .ok (.aload_n 1, 1) := by decide +kernel
theorem d39_1 : decode prog_2_method_7_code 1 = .ok (.ifnull 15, 3) := by decide +kernel
theorem d39_4 : decode prog_2_method_7_code 4 = .ok (.aload_n 1, 1) := by decide +kernel
theorem d39_5 : decode prog_2_method_7_code 5 = .ok (.aload_n 0, 1) := by decide +kernel
theorem d39_6 : decode prog_2_method_7_code 6 = .ok (.invokevirtual 56, 3) := by decide +kernel
theorem d39_9 : decode prog_2_method_7_code 9 = .ok (.ifCond .eq 7, 3) := by decide +kernel
theorem d39_12 : decode prog_2_method_7_code 12 = .ok (.iconst 1, 1) := by decide +kernel
theorem d39_13 : decode prog_2_method_7_code 13 = .ok (.goto 4, 3) := by decide +kernel
theorem d39_16 : decode prog_2_method_7_code 16 = .ok (.iconst 0, 1) := by decide +kernel
theorem d39_17 : decode prog_2_method_7_code 17 = .ok (.ireturn, 1) := by decide +kernel
theorem d40_0 : decode prog_6_method_3_code 0 = .ok (.aload_n 0, 1) := by decide +kernel
theorem d40_1 : decode prog_6_method_3_code 1 = .ok (.getfield 26, 3) := by decide +kernel
theorem d40_4 : decode prog_6_method_3_code 4 = .ok (.aload_n 1, 1) := by decide +kernel
theorem d40_5 : decode prog_6_method_3_code 5 = .ok (.invokeinterface 30 2, 5) := by decide +kernel
theorem d40_10 : decode prog_6_method_3_code 10 = .ok (.ireturn, 1) := by decide +kernel
theorem d41_0 : decode jdk_101_method_5_code 0 = .ok (.aload_n 1, 1) := by decide +kernel
theorem d41_1 : decode jdk_101_method_5_code 1 = .ok (.aload_n 0, 1) := by decide +kernel
theorem d41_2 : decode jdk_101_method_5_code 2 = .ok (.getfield 13, 3) := by decide +kernel
theorem d41_5 : decode jdk_101_method_5_code 5 = .ok (.invokevirtual 27, 3) := by decide +kernel
theorem d41_8 : decode jdk_101_method_5_code 8 = .ok (.ifCond .ne 14, 3) := by decide +kernel
theorem d41_11 : decode jdk_101_method_5_code 11 = .ok (.aload_n 0, 1) := by decide +kernel
theorem d41_12 : decode jdk_101_method_5_code 12 = .ok (.getfield 24, 3) := by decide +kernel
theorem d41_15 : decode jdk_101_method_5_code 15 = .ok (.aload_n 1, 1) := by decide +kernel
theorem d41_16 : decode jdk_101_method_5_code 16 = .ok (.invokevirtual 27, 3) := by decide +kernel
theorem d41_19 : decode jdk_101_method_5_code 19 = .ok (.ifCond .eq 7, 3) := by decide +kernel
theorem d41_22 : decode jdk_101_method_5_code 22 = .ok (.iconst 1, 1) := by decide +kernel
theorem d41_23 : decode jdk_101_method_5_code 23 = .ok (.goto 4, 3) := by decide +kernel
theorem d41_26 : decode jdk_101_method_5_code 26 = .ok (.iconst 0, 1) := by decide +kernel
theorem d41_27 : decode jdk_101_method_5_code 27 = .ok (.ireturn, 1) := by decide +kernel
theorem d43_0 : decode prog_2_method_6_code 0 = .ok (.aload_n 0, 1) := by decide +kernel
theorem d43_1 : decode prog_2_method_6_code 1 = .ok (.getfield 7, 3) := by decide +kernel
theorem d43_4 : decode prog_2_method_6_code 4 = .ok (.areturn, 1) := by decide +kernel
theorem d53_0 : decode object_method_4_code 0 = .ok (.aload_n 0, 1) := by decide +kernel
theorem d53_1 : decode object_method_4_code 1 = .ok (.aload_n 1, 1) := by decide +kernel
theorem d53_2 : decode object_method_4_code 2 = .ok (.if_acmp .ne 7, 3) := by decide +kernel
theorem d53_9 : decode object_method_4_code 9 = .ok (.iconst 0, 1) := by decide +kernel
theorem d53_10 : decode object_method_4_code 10 = .ok (.ireturn, 1) := by decide +kernel
theorem d54_0 : decode jdk_96_method_17_code 0 = .ok (.getstatic 9, 3) := by decide +kernel
theorem d54_3 : decode jdk_96_method_17_code 3 = .ok (.areturn, 1) := by decide +kernel
theorem d55_0 : decode jdk_132_method_4_code 0 = .ok (.aload_n 1, 1) := by decide +kernel
theorem d55_1 : decode jdk_132_method_4_code 1 = .ok (.invokestatic 46, 3) := by decide +kernel
theorem d55_4 : decode jdk_132_method_4_code 4 = .ok (.pop, 1) := by decide +kernel
theorem d55_5 : decode jdk_132_method_4_code 5 = .ok (.aload_n 0, 1) := by decide +kernel
theorem d55_6 : decode jdk_132_method_4_code 6 = .ok (.getfield 9, 3) := by decide +kernel
theorem d55_9 : decode jdk_132_method_4_code 9 = .ok (.ifCond .le 15, 3) := by decide +kernel
theorem d55_24 : decode jdk_132_method_4_code 24 = .ok (.iconst 0, 1) := by decide +kernel
theorem d55_25 : decode jdk_132_method_4_code 25 = .ok (.ireturn, 1) := by decide +kernel
theorem pn0 : plainName "java/lang/String" = true := by first | (simp [plainName, overriddenIn]; done) | decide +kernel
theorem pn1 : plainName "com/example/elegua/elegua/authorization/AccessRolePinLaw" = true := by first | (simp [plainName, overriddenIn]; done) | decide +kernel
theorem pn2 : plainName "java/util/AbstractCollection" = true := by first | (simp [plainName, overriddenIn]; done) | decide +kernel
theorem pn3 : plainName "java/util/ImmutableCollections$AbstractImmutableCollection" = true := by first | (simp [plainName, overriddenIn]; done) | decide +kernel
theorem pn4 : plainName "java/util/ImmutableCollections$AbstractImmutableSet" = true := by first | (simp [plainName, overriddenIn]; done) | decide +kernel
theorem pn5 : plainName "java/lang/Record" = true := by first | (simp [plainName, overriddenIn]; done) | decide +kernel
theorem pn6 : plainName "java/util/Objects" = true := by first | (simp [plainName, overriddenIn]; done) | decide +kernel
theorem pn7 : plainName "java/util/ImmutableCollections$Set12" = true := by first | (simp [plainName, overriddenIn]; done) | decide +kernel
theorem pn8 : plainName "java/util/Set" = true := by first | (simp [plainName, overriddenIn]; done) | decide +kernel
theorem pn9 : plainName "com/example/elegua/elegua/context/Identity" = true := by first | (simp [plainName, overriddenIn]; done) | decide +kernel
theorem pnf53 : plainFor Y17 = true := by decide +kernel
theorem pn11 : plainName "java/util/ImmutableCollections$SetN" = true := by first | (simp [plainName, overriddenIn]; done) | decide +kernel
theorem pn12 : plainName "com/example/elegua/elegua/authorization/Access" = true := by first | (simp [plainName, overriddenIn]; done) | decide +kernel
theorem pn13 : plainName "java/lang/AbstractStringBuilder" = true := by first | (simp [plainName, overriddenIn]; done) | decide +kernel
theorem pn14 : plainName "java/lang/StringBuilder" = true := by first | (simp [plainName, overriddenIn]; done) | decide +kernel
theorem pn15 : plainName "java/util/Arrays" = true := by first | (simp [plainName, overriddenIn]; done) | decide +kernel
theorem pd0 : parseMethodDescriptor "([CIILjava/lang/Void;)V" = some ⟨[(.array .char), .int, .int, (.object "java/lang/Void")], none⟩ := by decide +kernel
theorem pd1 : parseMethodDescriptor "([C)V" = some ⟨[(.array .char)], none⟩ := by decide +kernel
theorem pd2 : parseMethodDescriptor "()V" = some ⟨[], none⟩ := by decide +kernel
theorem pd3 : parseMethodDescriptor "(Ljava/lang/Object;)Ljava/lang/Object;" = some ⟨[(.object "java/lang/Object")], some (.object "java/lang/Object")⟩ := by decide +kernel
theorem pd4 : parseMethodDescriptor "(Ljava/lang/Object;)V" = some ⟨[(.object "java/lang/Object")], none⟩ := by decide +kernel
theorem pd5 : parseMethodDescriptor "(Ljava/lang/Object;Ljava/lang/String;)Ljava/lang/Object;" = some ⟨[(.object "java/lang/Object"), (.object "java/lang/String")], some (.object "java/lang/Object")⟩ := by decide +kernel
theorem pd6 : parseMethodDescriptor "(Ljava/util/Collection;)Ljava/util/Set;" = some ⟨[(.object "java/util/Collection")], some (.object "java/util/Set")⟩ := by decide +kernel
theorem pd7 : parseMethodDescriptor "(Ljava/lang/Object;)Z" = some ⟨[(.object "java/lang/Object")], some .boolean⟩ := by decide +kernel
theorem pd8 : parseMethodDescriptor "(Ljava/lang/String;)Z" = some ⟨[(.object "java/lang/String")], some .boolean⟩ := by decide +kernel
theorem pd9 : parseMethodDescriptor "(Ljava/lang/String;Lcom/example/elegua/elegua/context/Identity;)Z" = some ⟨[(.object "java/lang/String"), (.object "com/example/elegua/elegua/context/Identity")], some .boolean⟩ := by decide +kernel
theorem pd10 : parseMethodDescriptor "(I)V" = some ⟨[.int], none⟩ := by decide +kernel
theorem pd11 : parseMethodDescriptor "()B" = some ⟨[], some .byte⟩ := by decide +kernel
theorem pd12 : parseMethodDescriptor "(Ljava/lang/String;)V" = some ⟨[(.object "java/lang/String")], none⟩ := by decide +kernel
theorem pd13 : parseMethodDescriptor "([BIB)V" = some ⟨[(.array .byte), .int, .byte], none⟩ := by decide +kernel
theorem pd14 : parseMethodDescriptor "()I" = some ⟨[], some .int⟩ := by decide +kernel
theorem pd15 : parseMethodDescriptor "(ILjava/lang/String;)V" = some ⟨[.int, (.object "java/lang/String")], none⟩ := by decide +kernel
theorem pd16 : parseMethodDescriptor "(Ljava/lang/String;)Ljava/lang/AbstractStringBuilder;" = some ⟨[(.object "java/lang/String")], some (.object "java/lang/AbstractStringBuilder")⟩ := by decide +kernel
theorem pd17 : parseMethodDescriptor "(II)V" = some ⟨[.int, .int], none⟩ := by decide +kernel
theorem pd18 : parseMethodDescriptor "(II)I" = some ⟨[.int, .int], some .int⟩ := by decide +kernel
theorem pd19 : parseMethodDescriptor "([BII)[B" = some ⟨[(.array .byte), .int, .int], some (.array .byte)⟩ := by decide +kernel
theorem pd20 : parseMethodDescriptor "()[B" = some ⟨[], some (.array .byte)⟩ := by decide +kernel
theorem pd21 : parseMethodDescriptor "()Z" = some ⟨[], some .boolean⟩ := by decide +kernel
theorem pd22 : parseMethodDescriptor "(Ljava/lang/AbstractStringBuilder;Ljava/lang/Void;)V" = some ⟨[(.object "java/lang/AbstractStringBuilder"), (.object "java/lang/Void")], none⟩ := by decide +kernel
theorem pd23 : parseMethodDescriptor "(Ljava/lang/StringBuilder;)V" = some ⟨[(.object "java/lang/StringBuilder")], none⟩ := by decide +kernel
theorem pd24 : parseMethodDescriptor "(Ljava/lang/String;)Ljava/lang/StringBuilder;" = some ⟨[(.object "java/lang/String")], some (.object "java/lang/StringBuilder")⟩ := by decide +kernel
theorem pd25 : parseMethodDescriptor "()Ljava/lang/String;" = some ⟨[], some (.object "java/lang/String")⟩ := by decide +kernel
theorem pd26 : parseMethodDescriptor "(Ljava/lang/String;Ljava/util/function/Predicate;)V" = some ⟨[(.object "java/lang/String"), (.object "java/util/function/Predicate")], none⟩ := by decide +kernel
theorem pd27 : parseMethodDescriptor "(I)C" = some ⟨[.int], some .char⟩ := by decide +kernel
theorem pd28 : parseMethodDescriptor "(Ljava/lang/String;)Lcom/example/elegua/elegua/authorization/Access;" = some ⟨[(.object "java/lang/String")], some (.object "com/example/elegua/elegua/authorization/Access")⟩ := by decide +kernel
theorem pd29 : parseMethodDescriptor "(Lcom/example/elegua/elegua/context/Identity;)Z" = some ⟨[(.object "com/example/elegua/elegua/context/Identity")], some .boolean⟩ := by decide +kernel
theorem pd30 : parseMethodDescriptor "(I)Ljava/lang/String;" = some ⟨[.int], some (.object "java/lang/String")⟩ := by decide +kernel
theorem pd31 : parseMethodDescriptor "()Ljava/util/Set;" = some ⟨[], some (.object "java/util/Set")⟩ := by decide +kernel
theorem pd32 : parseMethodDescriptor "(Ljava/lang/String;Ljava/util/Set;)V" = some ⟨[(.object "java/lang/String"), (.object "java/util/Set")], none⟩ := by decide +kernel
theorem pd33 : parseMethodDescriptor "(Ljava/lang/Object;)Ljava/util/Set;" = some ⟨[(.object "java/lang/Object")], some (.object "java/util/Set")⟩ := by decide +kernel
theorem ct_i4e {l : Launch} {Z a0 n0 g1 gf em es} (cx : Ctx Z a0 n0 g1 gf em es) {h : Heap} (O : Old Z n0 h) (a b : Addr) (E_a : Exa Z h a "java/lang/String") (F_value_a : Fld Z h a "java/lang/String" "value" "[B" .null) (F_coder_a : Fld Z h a "java/lang/String" "coder" "B" (.int 0)) (g_a : n0 ≤ a) :
    Ct l Z consts_1 n0 [] (⟨"java/lang/String", "<init>", "([CIILjava/lang/Void;)V"⟩ : MethodName) jdk_42_method_149_code 6 none ({ frames := 1, cells := 4, slots := 8, locals := 12 } : Room) #[(.ref a), (.ref b), (.int (0 : Int32)), (.int (0 : Int32)), .null] [a] h (fun v _ h' => v = none ∧ Keep h h' [a] ∧ ∃ t, StrAt Z h' a t []) := by
  refine Ct.intro (plainFor_of_name pn0) O cx.ew ?_
  intro p_ e_ s_ m_ bl_ mt_ c_ T0 W0 hby hml hret hnm
  refine Go.st (fun t_ k_ => castTop (g' := mkF m_ 0 #[.val (.ref a), .val (.ref b), .val (.int (0 : Int32)), .val (.int (0 : Int32)), .val .null, .unset] []) (by first | (simp [entryFrame, mkF, argsToLocals, Value.category]; done) | rfl) k_) ?_
  show Go _ _ _ _ (T0.setTop (mkF m_ 0 #[.val (.ref a), .val (.ref b), .val (.int (0 : Int32)), .val (.int (0 : Int32)), .val .null, .unset] []))
  have K0 : Keep h h [a] := Keep.refl _ _
  refine Go.st (fun _ => XS.aloadN W0.here W0.ex rfl (hb hby d3_0) rfl rfl) ?_
  show Go _ _ _ _ (T0.setTop (mkF m_ 1 #[.val (.ref a), .val (.ref b), .val (.int (0 : Int32)), .val (.int (0 : Int32)), .val .null, .unset] [(.ref a)]))
  refine W0.initO (cx.w 15 rfl) (cx.w 16 rfl) (cx.w 17 rfl) (by rw [hml]; rfl) (hb hby d3_1) (by decide) (Wd := 0) (Nat.le_of_eq rfl) (by decide) ?_
  intro T1 W1
  refine Go.st (fun _ => XS.iloadN W1.here W1.ex rfl (hb hby d3_4) rfl) ?_
  refine Go.st (fun _ => XS.ifNo W1.here W1.ex rfl (hb hby d3_5) rfl ((if0 _ _).trans (teq (rfl : (0 : Int32) = (0 : Int32))).2)) ?_
  refine Go.st (fun _ => XS.aloadN W1.here W1.ex rfl (hb hby d3_8) rfl rfl) ?_
  show Go _ _ _ _ (T1.setTop (mkF m_ 9 #[.val (.ref a), .val (.ref b), .val (.int (0 : Int32)), .val (.int (0 : Int32)), .val .null, .unset] [(.ref a)]))
  refine W1.ldc (cx.w 18 rfl) cx.str (EL := consts_1) (List.mem_of_getElem? (i := 4) rfl) (vs := []) (z := 0) ⟨by decide, rfl⟩ (by decide) rfl (hb hby d3_9) (j := 0) (by decide) (by decide) (k' := 2) (n' := 4) rfl rfl (by decide) (by decide) ?_
  intro vm2 T2 h2 a2 d2 kA_d2 W2 E2 E_a2 F_coder_a2 F_value_a2 V_d2 nl2
  replace E_a := E_a.ext E2
  replace F_value_a := F_value_a.ext E2
  replace F_coder_a := F_coder_a.ext E2
  replace K0 := K0.ext E2
  show Go _ _ _ _ (T2.setTop (mkF m_ 11 #[.val (.ref a), .val (.ref b), .val (.int (0 : Int32)), .val (.int (0 : Int32)), .val .null, .unset] [(.ref a2), (.ref a)]))
  refine W2.getF (cx.w 24 rfl) Via.refl F_value_a2 (hb hby d3_11) ?_
  intro T3 W3
  show Go _ _ _ _ (T3.setTop (mkF m_ 14 #[.val (.ref a), .val (.ref b), .val (.int (0 : Int32)), .val (.int (0 : Int32)), .val .null, .unset] [(.ref d2), (.ref a)]))
  refine W3.putF (cx.w 24 rfl) Via.refl F_value_a E_a (Or.inr ⟨(cx.w 20 rfl), rfl, hnm⟩) (cx.w 5 rfl) (ty := (.array .byte)) (by decide) rfl rfl (List.mem_of_getElem? (i := 0) rfl) g_a (hb hby d3_14) ?_
  intro T4 h4 L4 W4 w4
  replace E_a := E_a.wr w4
  replace F_value_a := F_value_a.same w4
  replace F_coder_a := F_coder_a.other w4 (Or.inr (slot_ne (Or.inr (cx.w 21 rfl)) (Or.inr (cx.w 20 rfl)) (by decide) (t := .byte) (t' := (.array .byte)) (by decide) (by decide)))
  replace E_a2 := E_a2.wr w4
  replace F_coder_a2 := F_coder_a2.other w4 (Or.inl (Ne.symm (nl2 a (List.mem_of_getElem? (i := 0) rfl)).1))
  replace F_value_a2 := F_value_a2.other w4 (Or.inl (Ne.symm (nl2 a (List.mem_of_getElem? (i := 0) rfl)).1))
  replace V_d2 := V_d2.other w4 (Ne.symm (nl2 a (List.mem_of_getElem? (i := 0) rfl)).2)
  replace K0 := K0.wr w4 (Or.inl (List.mem_of_getElem? (i := 0) rfl))
  refine Go.st (fun _ => XS.aloadN W4.here W4.ex rfl (hb hby d3_17) rfl rfl) ?_
  show Go _ _ _ _ (T4.setTop (mkF m_ 18 #[.val (.ref a), .val (.ref b), .val (.int (0 : Int32)), .val (.int (0 : Int32)), .val .null, .unset] [(.ref a)]))
  refine W4.ldc (cx.w 18 rfl) cx.str (EL := consts_1) (List.mem_of_getElem? (i := 4) rfl) (vs := []) (z := 0) ⟨by decide, rfl⟩ (by decide) rfl (hb hby d3_18) (j := 0) (by decide) (by decide) (k' := 4) (n' := 8) rfl rfl (by decide) (by decide) ?_
  intro vm5 T5 h5 a5 d5 kA_d5 W5 E5 E_a5 F_coder_a5 F_value_a5 V_d5 nl5
  replace E_a := E_a.ext E5
  replace F_value_a := F_value_a.ext E5
  replace F_coder_a := F_coder_a.ext E5
  replace E_a2 := E_a2.ext E5
  replace F_coder_a2 := F_coder_a2.ext E5
  replace F_value_a2 := F_value_a2.ext E5
  replace V_d2 := V_d2.ext E5
  replace K0 := K0.ext E5
  show Go _ _ _ _ (T5.setTop (mkF m_ 20 #[.val (.ref a), .val (.ref b), .val (.int (0 : Int32)), .val (.int (0 : Int32)), .val .null, .unset] [(.ref a5), (.ref a)]))
  refine W5.getF (cx.w 25 rfl) Via.refl F_coder_a5 (hb hby d3_20) ?_
  intro T6 W6
  show Go _ _ _ _ (T6.setTop (mkF m_ 23 #[.val (.ref a), .val (.ref b), .val (.int (0 : Int32)), .val (.int (0 : Int32)), .val .null, .unset] [(.int (0 : Int32)), (.ref a)]))
  refine W6.putF (cx.w 25 rfl) Via.refl F_coder_a E_a (Or.inr ⟨(cx.w 21 rfl), rfl, hnm⟩) (cx.w 5 rfl) (ty := .byte) (by decide) rfl rfl (List.mem_of_getElem? (i := 0) rfl) g_a (hb hby d3_23) ?_
  intro T7 h7 L7 W7 w7
  replace E_a := E_a.wr w7
  replace F_value_a := F_value_a.other w7 (Or.inr (slot_ne (Or.inr (cx.w 20 rfl)) (Or.inr (cx.w 21 rfl)) (by decide) (t := (.array .byte)) (t' := .byte) (by decide) (by decide)))
  replace F_coder_a := F_coder_a.same w7
  replace E_a2 := E_a2.wr w7
  replace F_coder_a2 := F_coder_a2.other w7 (Or.inl (Ne.symm (nl2 a (List.mem_of_getElem? (i := 0) rfl)).1))
  replace F_value_a2 := F_value_a2.other w7 (Or.inl (Ne.symm (nl2 a (List.mem_of_getElem? (i := 0) rfl)).1))
  replace V_d2 := V_d2.other w7 (Ne.symm (nl2 a (List.mem_of_getElem? (i := 0) rfl)).2)
  replace E_a5 := E_a5.wr w7
  replace F_coder_a5 := F_coder_a5.other w7 (Or.inl (Ne.symm (nl5 a (List.mem_of_getElem? (i := 0) rfl)).1))
  replace F_value_a5 := F_value_a5.other w7 (Or.inl (Ne.symm (nl5 a (List.mem_of_getElem? (i := 0) rfl)).1))
  replace V_d5 := V_d5.other w7 (Ne.symm (nl5 a (List.mem_of_getElem? (i := 0) rfl)).2)
  replace K0 := K0.wr w7 (Or.inl (List.mem_of_getElem? (i := 0) rfl))
  show Go _ _ _ _ (T7.setTop (mkF m_ 26 #[.val (.ref a), .val (.ref b), .val (.int (0 : Int32)), .val (.int (0 : Int32)), .val .null, .unset] []))
  exact W7.retV hret (hb hby d3_26) (by decide) (by decide) fun vr_ cr_ => ⟨rfl, K0, _, E_a, F_coder_a, F_value_a, ⟨_, V_d2⟩, Ch8.nil, Nat.zero_le _⟩
theorem ct_i1e {l : Launch} {Z a0 n0 g1 gf em es} (cx : Ctx Z a0 n0 g1 gf em es) {h : Heap} (O : Old Z n0 h) (a b : Addr) {kb : ClassId} (E_a : Exa Z h a "java/lang/String") (F_value_a : Fld Z h a "java/lang/String" "value" "[B" .null) (F_coder_a : Fld Z h a "java/lang/String" "coder" "B" (.int 0)) (g_a : n0 ≤ a) (V_b : Arv Z h b kb .char 0 [] (.int 0)) :
    Ct l Z consts_1 n0 [] Y21 jdk_42_method_3_code 2 none ({ frames := 2, cells := 4, slots := 8, locals := 29 } : Room) #[(.ref a), (.ref b)] [a] h (fun v _ h' => v = none ∧ Keep h h' [a] ∧ ∃ t, StrAt Z h' a t []) := by
  refine Ct.intro (plainFor_of_name pn0) O cx.ew ?_
  intro p_ e_ s_ m_ bl_ mt_ c_ T0 W0 hby hml hret hnm
  refine Go.st (fun t_ k_ => castTop (g' := mkF m_ 0 #[.val (.ref a), .val (.ref b)] []) (by first | (simp [entryFrame, mkF, argsToLocals, Value.category]; done) | rfl) k_) ?_
  refine Go.st (fun _ => XS.aloadN W0.here W0.ex rfl (hb hby d2_0) rfl rfl) ?_
  refine Go.st (fun _ => XS.aloadN W0.here W0.ex rfl (hb hby d2_1) rfl rfl) ?_
  refine Go.st (fun _ => XS.iconst W0.here W0.ex rfl (hb hby d2_2)) ?_
  show Go _ _ _ _ (T0.setTop (mkF m_ 3 #[.val (.ref a), .val (.ref b)] [(.int (0 : Int32)), (.ref b), (.ref a)]))
  refine Go.st (fun _ => XS.aloadN W0.here W0.ex rfl (hb hby d2_3) rfl rfl) ?_
  show Go _ _ _ _ (T0.setTop (mkF m_ 4 #[.val (.ref a), .val (.ref b)] [(.ref b), (.int (0 : Int32)), (.ref b), (.ref a)]))
  refine W0.alen V_b (hb hby d2_4) ?_
  refine Go.st (fun _ => XS.aconstNull W0.here W0.ex rfl (hb hby d2_5)) ?_
  show Go _ _ _ _ (T0.setTop (mkF m_ 6 #[.val (.ref a), .val (.ref b)] [.null, (.int (0 : Int32)), (.int (0 : Int32)), (.ref b), (.ref a)]))
  refine W0.callI (y := (⟨"java/lang/String", "<init>", "([CIILjava/lang/Void;)V"⟩ : MethodName)) rfl (cx.w 11 rfl) (cx.w 12 rfl) (cx.w 6 rfl) (cx.w 14 rfl) (by decide) (ct_i4e cx W0.old a b E_a F_value_a F_coder_a g_a) (allS (List.mem_of_getElem? (i := 0) rfl) all0) (by decide) (Wd := 0) (by decide) (k' := 4) (n' := 8) rfl rfl (by decide) (by decide) (by rw [hml]; rfl) (a := a) (argsL := [(.ref b), (.int (0 : Int32)), (.int (0 : Int32)), .null]) (rest := []) rfl (lenOf pd0 rfl) rfl (Nat.le_of_eq rfl) (hb hby d2_6) ?_
  intro v1 vm1 T1 h1 L1 W1 q1
  obtain ⟨rfl, K1, t1, S1⟩ := q1
  show Go _ _ _ _ (T1.setTop (mkF m_ 9 #[.val (.ref a), .val (.ref b)] []))
  exact W1.retV hret (hb hby d2_9) (by decide) (by decide) fun vr_ cr_ => ⟨rfl, K1, t1, S1⟩
theorem ct_mk {l : Launch} {Z a0 n0 g1 gf em es} (cx : Ctx Z a0 n0 g1 gf em es) {h : Heap} (O : Old Z n0 h) (x : Int32)  :
    Ct l Z consts_1 n0 [] Y5 method_2_code 5 (some (.object "java/lang/String")) ({ frames := 4, cells := 6, slots := 12, locals := 66 } : Room) #[(.int x)] [] h (fun v _ h' => ∃ (a t : Addr) (cs : List Int32), v = some (.ref a) ∧ h.size ≤ a ∧ n0 ≤ a ∧ Keep h h' [] ∧ StrAt Z h' a t cs ∧ cs.length ≤ 3) := by
  refine Ct.intro (plainFor_of_name pn1) O cx.ew ?_
  intro p_ e_ s_ m_ bl_ mt_ c_ T0 W0 hby hml hret hnm
  refine Go.st (fun t_ k_ => castTop (g' := mkF m_ 0 #[.val (.int x), .unset, .unset, .unset, .unset] []) (by first | (simp [entryFrame, mkF, argsToLocals, Value.category]; done) | rfl) k_) ?_
  show Go _ _ _ _ (T0.setTop (mkF m_ 0 #[.val (.int x), .unset, .unset, .unset, .unset] []))
  have K0 : Keep h h [] := Keep.refl _ _
  refine Go.st (fun _ => XS.iloadN W0.here W0.ex rfl (hb hby d1_0) rfl) ?_
  refine Go.st (fun _ => XS.sipush W0.here W0.ex rfl (hb hby d1_1)) ?_
  show Go _ _ _ _ (T0.setTop (mkF m_ 4 #[.val (.int x), .unset, .unset, .unset, .unset] [(.int (255 : Int32)), (.int x)]))
  refine Go.st (fun _ => XS.iand W0.here W0.ex rfl (hb hby d1_4) rfl) ?_
  refine Go.st (fun _ => XS.i2c W0.here W0.ex rfl (hb hby d1_5) rfl) ?_
  show Go _ _ _ _ (T0.setTop (mkF m_ 6 #[.val (.int x), .unset, .unset, .unset, .unset] [(.int ((x &&& (255 : Int32)).toUInt32.toUInt16.toUInt32.toInt32))]))
  rw [i2c_id (and255 x)]
  show Go _ _ _ _ (T0.setTop (mkF m_ 6 #[.val (.int x), .unset, .unset, .unset, .unset] [(.int (x &&& (255 : Int32)))]))
  have rc0 := (and255 x)
  generalize (x &&& (255 : Int32)) = c0 at rc0 ⊢
  refine Go.st (fun _ => XS.istoreN W0.here W0.ex rfl (hb hby d1_6) rfl (l' := #[.val (.int x), .val (.int c0), .unset, .unset, .unset]) rfl) ?_
  refine Go.st (fun _ => XS.iloadN W0.here W0.ex rfl (hb hby d1_7) rfl) ?_
  show Go _ _ _ _ (T0.setTop (mkF m_ 8 #[.val (.int x), .val (.int c0), .unset, .unset, .unset] [(.int x)]))
  refine Go.st (fun _ => XS.bipush W0.here W0.ex rfl (hb hby d1_8)) ?_
  refine Go.st (fun _ => XS.iushr W0.here W0.ex rfl (hb hby d1_10) rfl) ?_
  refine Go.st (fun _ => XS.sipush W0.here W0.ex rfl (hb hby d1_11)) ?_
  show Go _ _ _ _ (T0.setTop (mkF m_ 14 #[.val (.int x), .val (.int c0), .unset, .unset, .unset] [(.int (255 : Int32)), (.int ((x.toUInt32 >>> ((8 : Int32) &&& 31).toUInt32).toInt32))]))
  refine Go.st (fun _ => XS.iand W0.here W0.ex rfl (hb hby d1_14) rfl) ?_
  refine Go.st (fun _ => XS.i2c W0.here W0.ex rfl (hb hby d1_15) rfl) ?_
  show Go _ _ _ _ (T0.setTop (mkF m_ 16 #[.val (.int x), .val (.int c0), .unset, .unset, .unset] [(.int ((((x.toUInt32 >>> ((8 : Int32) &&& 31).toUInt32).toInt32) &&& (255 : Int32)).toUInt32.toUInt16.toUInt32.toInt32))]))
  rw [i2c_id (and255 ((x.toUInt32 >>> ((8 : Int32) &&& 31).toUInt32).toInt32))]
  show Go _ _ _ _ (T0.setTop (mkF m_ 16 #[.val (.int x), .val (.int c0), .unset, .unset, .unset] [(.int (((x.toUInt32 >>> ((8 : Int32) &&& 31).toUInt32).toInt32) &&& (255 : Int32)))]))
  have rc1 := (and255 ((x.toUInt32 >>> ((8 : Int32) &&& 31).toUInt32).toInt32))
  generalize (((x.toUInt32 >>> ((8 : Int32) &&& 31).toUInt32).toInt32) &&& (255 : Int32)) = c1 at rc1 ⊢
  refine Go.st (fun _ => XS.istoreN W0.here W0.ex rfl (hb hby d1_16) rfl (l' := #[.val (.int x), .val (.int c0), .val (.int c1), .unset, .unset]) rfl) ?_
  refine Go.st (fun _ => XS.iloadN W0.here W0.ex rfl (hb hby d1_17) rfl) ?_
  show Go _ _ _ _ (T0.setTop (mkF m_ 18 #[.val (.int x), .val (.int c0), .val (.int c1), .unset, .unset] [(.int x)]))
  refine Go.st (fun _ => XS.bipush W0.here W0.ex rfl (hb hby d1_18)) ?_
  refine Go.st (fun _ => XS.iushr W0.here W0.ex rfl (hb hby d1_20) rfl) ?_
  refine Go.st (fun _ => XS.sipush W0.here W0.ex rfl (hb hby d1_21)) ?_
  show Go _ _ _ _ (T0.setTop (mkF m_ 24 #[.val (.int x), .val (.int c0), .val (.int c1), .unset, .unset] [(.int (255 : Int32)), (.int ((x.toUInt32 >>> ((16 : Int32) &&& 31).toUInt32).toInt32))]))
  refine Go.st (fun _ => XS.iand W0.here W0.ex rfl (hb hby d1_24) rfl) ?_
  refine Go.st (fun _ => XS.i2c W0.here W0.ex rfl (hb hby d1_25) rfl) ?_
  show Go _ _ _ _ (T0.setTop (mkF m_ 26 #[.val (.int x), .val (.int c0), .val (.int c1), .unset, .unset] [(.int ((((x.toUInt32 >>> ((16 : Int32) &&& 31).toUInt32).toInt32) &&& (255 : Int32)).toUInt32.toUInt16.toUInt32.toInt32))]))
  rw [i2c_id (and255 ((x.toUInt32 >>> ((16 : Int32) &&& 31).toUInt32).toInt32))]
  show Go _ _ _ _ (T0.setTop (mkF m_ 26 #[.val (.int x), .val (.int c0), .val (.int c1), .unset, .unset] [(.int (((x.toUInt32 >>> ((16 : Int32) &&& 31).toUInt32).toInt32) &&& (255 : Int32)))]))
  have rc2 := (and255 ((x.toUInt32 >>> ((16 : Int32) &&& 31).toUInt32).toInt32))
  generalize (((x.toUInt32 >>> ((16 : Int32) &&& 31).toUInt32).toInt32) &&& (255 : Int32)) = c2 at rc2 ⊢
  refine Go.st (fun _ => XS.istoreN W0.here W0.ex rfl (hb hby d1_26) rfl (l' := #[.val (.int x), .val (.int c0), .val (.int c1), .val (.int c2), .unset]) rfl) ?_
  refine Go.st (fun _ => XS.iloadN W0.here W0.ex rfl (hb hby d1_27) rfl) ?_
  show Go _ _ _ _ (T0.setTop (mkF m_ 28 #[.val (.int x), .val (.int c0), .val (.int c1), .val (.int c2), .unset] [(.int x)]))
  refine Go.st (fun _ => XS.bipush W0.here W0.ex rfl (hb hby d1_28)) ?_
  refine Go.st (fun _ => XS.iushr W0.here W0.ex rfl (hb hby d1_30) rfl) ?_
  refine Go.st (fun _ => XS.iconst W0.here W0.ex rfl (hb hby d1_31)) ?_
  show Go _ _ _ _ (T0.setTop (mkF m_ 32 #[.val (.int x), .val (.int c0), .val (.int c1), .val (.int c2), .unset] [(.int (3 : Int32)), (.int ((x.toUInt32 >>> ((24 : Int32) &&& 31).toUInt32).toInt32))]))
  refine Go.st (fun _ => XS.iand W0.here W0.ex rfl (hb hby d1_32) rfl) ?_
  show Go _ _ _ _ (T0.setTop (mkF m_ 33 #[.val (.int x), .val (.int c0), .val (.int c1), .val (.int c2), .unset] [(.int (((x.toUInt32 >>> ((24 : Int32) &&& 31).toUInt32).toInt32) &&& (3 : Int32)))]))
  rcases and3 ((x.toUInt32 >>> ((24 : Int32) &&& 31).toUInt32).toInt32) with ey | ey | ey | ey
  · rw [ey]
    refine Go.st (fun _ => XS.istore W0.here W0.ex rfl (hb hby d1_33) rfl (l' := #[.val (.int x), .val (.int c0), .val (.int c1), .val (.int c2), .val (.int (0 : Int32))]) rfl) ?_
    refine Go.st (fun _ => XS.iload W0.here W0.ex rfl (hb hby d1_35) rfl) ?_
    refine Go.st (fun _ => XS.ifNo W0.here W0.ex rfl (hb hby d1_37) rfl ((if0 _ _).trans (teq (rfl : (0 : Int32) = (0 : Int32))).2)) ?_
    show Go _ _ _ _ (T0.setTop (mkF m_ 40 #[.val (.int x), .val (.int c0), .val (.int c1), .val (.int c2), .val (.int (0 : Int32))] []))
    refine W0.newO (cx.w 4 rfl) (cx.w 5 rfl) (cx.w 6 rfl) (hb hby d1_40) (k' := 1) (n' := 4) rfl rfl (by decide) (by decide) ?_
    intro T1 h1 b1 hb1 g_b1 W1 E1 E_b1 D1
    have sz_b1 : h.size ≤ b1 := Nat.le_trans K0.1 (Nat.le_of_eq hb1.symm)
    replace K0 := K0.ext E1
    have F_value_b1 : Fld Z h1 b1 "java/lang/String" "value" "[B" .null := D1 (Or.inr (cx.w 20 rfl)) (ty := (.array .byte)) (by decide)
    have F_coder_b1 : Fld Z h1 b1 "java/lang/String" "coder" "B" (.int (0 : Int32)) := D1 (Or.inr (cx.w 21 rfl)) (ty := .byte) (by decide)
    refine Go.st (fun _ => XS.dup W1.here W1.ex rfl (hb hby d1_43) rfl rfl) ?_
    refine Go.st (fun _ => XS.iconst W1.here W1.ex rfl (hb hby d1_44)) ?_
    show Go _ _ _ _ (T1.setTop (mkF m_ 45 #[.val (.int x), .val (.int c0), .val (.int c1), .val (.int c2), .val (.int (0 : Int32))] [(.int (0 : Int32)), (.ref b1), (.ref b1)]))
    refine W1.newP (ty := .char) (dv := .int 0) rfl rfl (cx.w 7 rfl) (hb hby d1_45) (z := (0 : Int32)) (by decide) (cap := 0) (by decide) (by decide) (k' := 2) (n' := 4) rfl rfl (by decide) (by decide) ?_
    intro T2 h2 b2 kA_b2 hb2 g_b2 W2 E2 V_b2
    have ne_b1_b2 : b1 ≠ b2 := Nat.ne_of_lt (Nat.lt_of_lt_of_le E_b1.lt (Nat.le_of_eq hb2.symm))
    have sz_b2 : h.size ≤ b2 := Nat.le_trans K0.1 (Nat.le_of_eq hb2.symm)
    replace E_b1 := E_b1.ext E2
    replace F_value_b1 := F_value_b1.ext E2
    replace F_coder_b1 := F_coder_b1.ext E2
    replace K0 := K0.ext E2
    replace V_b2 : Arv Z h2 b2 kA_b2 .char (0 : Int32) [] (.int 0) := V_b2
    show Go _ _ _ _ (T2.setTop (mkF m_ 47 #[.val (.int x), .val (.int c0), .val (.int c1), .val (.int c2), .val (.int (0 : Int32))] [(.ref b2), (.ref b1), (.ref b1)]))
    refine W2.callI (y := Y21) rfl (cx.w 8 rfl) (cx.w 9 rfl) (cx.w 6 rfl) (cx.w 10 rfl) (by decide) (ct_i1e cx W2.old b1 b2 E_b1 F_value_b1 F_coder_b1 g_b1 V_b2) (allS (List.mem_of_getElem? (i := 1) rfl) all0) (by decide) (Wd := 1) (by decide) (k' := 6) (n' := 12) rfl rfl (by decide) (by decide) (by rw [hml]; rfl) (a := b1) (argsL := [(.ref b2)]) (rest := [(.ref b1)]) rfl (lenOf pd1 rfl) rfl (Nat.le_of_eq rfl) (hb hby d1_47) ?_
    intro v4 vm4 T4 h4 L4 W4 q4
    obtain ⟨rfl, Ke3, t, S_n⟩ := q4
    replace E_b1 := E_b1.keep Ke3
    replace V_b2 := V_b2.keep Ke3 (ninS (Ne.symm ne_b1_b2) nin0)
    replace K0 := K0.trans Ke3 (allS (Or.inr sz_b1) all0)
    show Go _ _ _ _ (T4.setTop (mkF m_ 50 #[.val (.int x), .val (.int c0), .val (.int c1), .val (.int c2), .val (.int (0 : Int32))] [(.ref b1)]))
    have S_b1 : StrAt Z h4 b1 t [] := S_n
    exact W4.retA hret rfl rfl (hb hby d1_50) (by decide) (by decide) fun vr_ cr_ => ⟨b1, _, _, rfl, sz_b1, g_b1, K0, S_b1, Nat.le_of_ble_eq_true rfl⟩
  · rw [ey]
    refine Go.st (fun _ => XS.istore W0.here W0.ex rfl (hb hby d1_33) rfl (l' := #[.val (.int x), .val (.int c0), .val (.int c1), .val (.int c2), .val (.int (1 : Int32))]) rfl) ?_
    refine Go.st (fun _ => XS.iload W0.here W0.ex rfl (hb hby d1_35) rfl) ?_
    refine Go.st (fun _ => XS.ifYes W0.here W0.ex rfl (pc0 := 37) (pc' := 51) rfl (hb hby d1_37) rfl ((if0 _ _).trans (feq ((by decide) : ¬ ((1 : Int32) = (0 : Int32)))).2) (by decide) (by decide)) ?_
    show Go _ _ _ _ (T0.setTop (mkF m_ 51 #[.val (.int x), .val (.int c0), .val (.int c1), .val (.int c2), .val (.int (1 : Int32))] []))
    refine Go.st (fun _ => XS.iload W0.here W0.ex rfl (hb hby d1_51) rfl) ?_
    refine Go.st (fun _ => XS.iconst W0.here W0.ex rfl (hb hby d1_53)) ?_
    refine Go.st (fun _ => XS.icmpNo W0.here W0.ex rfl (hb hby d1_54) rfl (teq (rfl : (1 : Int32) = (1 : Int32))).2) ?_
    show Go _ _ _ _ (T0.setTop (mkF m_ 57 #[.val (.int x), .val (.int c0), .val (.int c1), .val (.int c2), .val (.int (1 : Int32))] []))
    refine W0.newO (cx.w 4 rfl) (cx.w 5 rfl) (cx.w 6 rfl) (hb hby d1_57) (k' := 1) (n' := 4) rfl rfl (by decide) (by decide) ?_
    intro T5 h5 b5 hb5 g_b5 W5 E5 E_b5 D5
    have sz_b5 : h.size ≤ b5 := Nat.le_trans K0.1 (Nat.le_of_eq hb5.symm)
    replace K0 := K0.ext E5
    have F_value_b5 : Fld Z h5 b5 "java/lang/String" "value" "[B" .null := D5 (Or.inr (cx.w 20 rfl)) (ty := (.array .byte)) (by decide)
    have F_coder_b5 : Fld Z h5 b5 "java/lang/String" "coder" "B" (.int (0 : Int32)) := D5 (Or.inr (cx.w 21 rfl)) (ty := .byte) (by decide)
    refine Go.st (fun _ => XS.dup W5.here W5.ex rfl (hb hby d1_60) rfl rfl) ?_
    refine Go.st (fun _ => XS.iconst W5.here W5.ex rfl (hb hby d1_61)) ?_
    show Go _ _ _ _ (T5.setTop (mkF m_ 62 #[.val (.int x), .val (.int c0), .val (.int c1), .val (.int c2), .val (.int (1 : Int32))] [(.int (1 : Int32)), (.ref b5), (.ref b5)]))
    refine W5.newP (ty := .char) (dv := .int 0) rfl rfl (cx.w 7 rfl) (hb hby d1_62) (z := (1 : Int32)) (by decide) (cap := 1) (by decide) (by decide) (k' := 2) (n' := 5) rfl rfl (by decide) (by decide) ?_
    intro T6 h6 b6 kA_b6 hb6 g_b6 W6 E6 V_b6
    have ne_b5_b6 : b5 ≠ b6 := Nat.ne_of_lt (Nat.lt_of_lt_of_le E_b5.lt (Nat.le_of_eq hb6.symm))
    have sz_b6 : h.size ≤ b6 := Nat.le_trans K0.1 (Nat.le_of_eq hb6.symm)
    replace E_b5 := E_b5.ext E6
    replace F_value_b5 := F_value_b5.ext E6
    replace F_coder_b5 := F_coder_b5.ext E6
    replace K0 := K0.ext E6
    replace V_b6 : Arv Z h6 b6 kA_b6 .char (1 : Int32) [(.int 0)] (.int 0) := V_b6
    refine Go.st (fun _ => XS.dup W6.here W6.ex rfl (hb hby d1_64) rfl rfl) ?_
    refine Go.st (fun _ => XS.iconst W6.here W6.ex rfl (hb hby d1_65)) ?_
    refine Go.st (fun _ => XS.iloadN W6.here W6.ex rfl (hb hby d1_66) rfl) ?_
    show Go _ _ _ _ (T6.setTop (mkF m_ 67 #[.val (.int x), .val (.int c0), .val (.int c1), .val (.int c2), .val (.int (1 : Int32))] [(.int c0), (.int (0 : Int32)), (.ref b6), (.ref b6), (.ref b5), (.ref b5)]))
    refine W6.stC V_b6 (j := (0 : Int32)) (x := c0) ⟨by decide, by decide⟩ 0 rfl (Nat.le_of_ble_eq_true rfl) (List.mem_of_getElem? (i := 0) rfl) g_b6 (hb hby d1_67) ?_
    intro T7 h7 L7 W7 w7 V_new
    replace E_b5 := E_b5.wr w7
    replace F_value_b5 := F_value_b5.other w7 (Or.inl ne_b5_b6)
    replace F_coder_b5 := F_coder_b5.other w7 (Or.inl ne_b5_b6)
    replace K0 := K0.wr w7 (Or.inr sz_b6)
    rw [nar_char rc0] at V_new
    replace V_b6 : Arv Z h7 b6 kA_b6 .char (1 : Int32) [(.int c0)] (.int 0) := V_new
    clear V_new
    show Go _ _ _ _ (T7.setTop (mkF m_ 68 #[.val (.int x), .val (.int c0), .val (.int c1), .val (.int c2), .val (.int (1 : Int32))] [(.ref b6), (.ref b5), (.ref b5)]))
    refine W7.libI (y := Y21) rfl (cx.w 8 rfl) (cx.w 9 rfl) (cx.w 10 rfl) (by decide) (Q := StrChars.Road.QV Z b5 (1 : Int32) ((([c0] : List Int32)).map (fun c => c.toInt8.toInt32)) h7 n0) (ws := [b5]) (Wd := 1) (ck := 1) (cn := 1) (StrChars.Road.backV (W := 1) W7.hZ cx.vw (kI := 4) (cx.w 5 rfl) (cs := ([c0] : List Int32)) (bs := (([c0] : List Int32)).map (fun c => c.toInt8.toInt32)) (n := 1) g_b5 W7.n0le E_b5 F_value_b5 F_coder_b5 V_b6 (cx.cmp.ext W7.e0) cx.g1 rfl rfl (by decide) (by decide) (Ch8.cons rc0 Ch8.nil) rfl (by decide) (by decide)) (fun v h' L' q => ⟨q.2.1, q.2.2.1⟩) (allS (List.mem_of_getElem? (i := 1) rfl) all0) (allS g_b5 all0) (k' := 3) (n' := 6) rfl rfl (by decide) (by decide) (by rw [hml]; rfl) (a := b5) (argsL := [(.ref b6)]) (rest := [(.ref b5)]) rfl (lenOf pd1 rfl) rfl (Nat.le_of_eq rfl) (hb hby d1_68) ?_
    intro v9 T9 h9 M9 L9 W9 q9
    obtain ⟨rfl, -, Kv8, E_n, F_cn, t, k_t, g_t, hz_t, -, F_vn, V_n⟩ := q9
    have ne_b5_t : b5 ≠ t := Nat.ne_of_lt (Nat.lt_of_lt_of_le E_b5.lt hz_t)
    have ne_b6_t : b6 ≠ t := Nat.ne_of_lt (Nat.lt_of_lt_of_le V_b6.lt hz_t)
    have sz_t : h.size ≤ t := Nat.le_trans K0.1 hz_t
    replace E_b5 := E_b5.keep Kv8
    replace V_b6 := V_b6.keep Kv8 (ninS (Ne.symm ne_b5_b6) nin0)
    replace K0 := K0.trans Kv8 (allS (Or.inr sz_b5) all0)
    show Go _ _ _ _ (T9.setTop (mkF m_ 71 #[.val (.int x), .val (.int c0), .val (.int c1), .val (.int c2), .val (.int (1 : Int32))] [(.ref b5)]))
    have S_b5 : StrAt Z h9 b5 t ([c0] : List Int32) := ⟨E_n, F_cn, F_vn, ⟨_, V_n⟩, (Ch8.cons rc0 Ch8.nil), Nat.le_of_ble_eq_true rfl⟩
    exact W9.retA hret rfl rfl (hb hby d1_71) (by decide) (by decide) fun vr_ cr_ => ⟨b5, _, _, rfl, sz_b5, g_b5, K0, S_b5, Nat.le_of_ble_eq_true rfl⟩
  · rw [ey]
    refine Go.st (fun _ => XS.istore W0.here W0.ex rfl (hb hby d1_33) rfl (l' := #[.val (.int x), .val (.int c0), .val (.int c1), .val (.int c2), .val (.int (2 : Int32))]) rfl) ?_
    refine Go.st (fun _ => XS.iload W0.here W0.ex rfl (hb hby d1_35) rfl) ?_
    refine Go.st (fun _ => XS.ifYes W0.here W0.ex rfl (pc0 := 37) (pc' := 51) rfl (hb hby d1_37) rfl ((if0 _ _).trans (feq ((by decide) : ¬ ((2 : Int32) = (0 : Int32)))).2) (by decide) (by decide)) ?_
    show Go _ _ _ _ (T0.setTop (mkF m_ 51 #[.val (.int x), .val (.int c0), .val (.int c1), .val (.int c2), .val (.int (2 : Int32))] []))
    refine Go.st (fun _ => XS.iload W0.here W0.ex rfl (hb hby d1_51) rfl) ?_
    refine Go.st (fun _ => XS.iconst W0.here W0.ex rfl (hb hby d1_53)) ?_
    refine Go.st (fun _ => XS.icmpYes W0.here W0.ex rfl (pc0 := 54) (pc' := 72) rfl (hb hby d1_54) rfl (feq ((by decide) : ¬ ((2 : Int32) = (1 : Int32)))).2 (by decide) (by decide)) ?_
    show Go _ _ _ _ (T0.setTop (mkF m_ 72 #[.val (.int x), .val (.int c0), .val (.int c1), .val (.int c2), .val (.int (2 : Int32))] []))
    refine Go.st (fun _ => XS.iload W0.here W0.ex rfl (hb hby d1_72) rfl) ?_
    refine Go.st (fun _ => XS.iconst W0.here W0.ex rfl (hb hby d1_74)) ?_
    refine Go.st (fun _ => XS.icmpNo W0.here W0.ex rfl (hb hby d1_75) rfl (teq (rfl : (2 : Int32) = (2 : Int32))).2) ?_
    show Go _ _ _ _ (T0.setTop (mkF m_ 78 #[.val (.int x), .val (.int c0), .val (.int c1), .val (.int c2), .val (.int (2 : Int32))] []))
    refine W0.newO (cx.w 4 rfl) (cx.w 5 rfl) (cx.w 6 rfl) (hb hby d1_78) (k' := 1) (n' := 4) rfl rfl (by decide) (by decide) ?_
    intro T10 h10 b10 hb10 g_b10 W10 E10 E_b10 D10
    have sz_b10 : h.size ≤ b10 := Nat.le_trans K0.1 (Nat.le_of_eq hb10.symm)
    replace K0 := K0.ext E10
    have F_value_b10 : Fld Z h10 b10 "java/lang/String" "value" "[B" .null := D10 (Or.inr (cx.w 20 rfl)) (ty := (.array .byte)) (by decide)
    have F_coder_b10 : Fld Z h10 b10 "java/lang/String" "coder" "B" (.int (0 : Int32)) := D10 (Or.inr (cx.w 21 rfl)) (ty := .byte) (by decide)
    refine Go.st (fun _ => XS.dup W10.here W10.ex rfl (hb hby d1_81) rfl rfl) ?_
    refine Go.st (fun _ => XS.iconst W10.here W10.ex rfl (hb hby d1_82)) ?_
    show Go _ _ _ _ (T10.setTop (mkF m_ 83 #[.val (.int x), .val (.int c0), .val (.int c1), .val (.int c2), .val (.int (2 : Int32))] [(.int (2 : Int32)), (.ref b10), (.ref b10)]))
    refine W10.newP (ty := .char) (dv := .int 0) rfl rfl (cx.w 7 rfl) (hb hby d1_83) (z := (2 : Int32)) (by decide) (cap := 2) (by decide) (by decide) (k' := 2) (n' := 6) rfl rfl (by decide) (by decide) ?_
    intro T11 h11 b11 kA_b11 hb11 g_b11 W11 E11 V_b11
    have ne_b10_b11 : b10 ≠ b11 := Nat.ne_of_lt (Nat.lt_of_lt_of_le E_b10.lt (Nat.le_of_eq hb11.symm))
    have sz_b11 : h.size ≤ b11 := Nat.le_trans K0.1 (Nat.le_of_eq hb11.symm)
    replace E_b10 := E_b10.ext E11
    replace F_value_b10 := F_value_b10.ext E11
    replace F_coder_b10 := F_coder_b10.ext E11
    replace K0 := K0.ext E11
    replace V_b11 : Arv Z h11 b11 kA_b11 .char (2 : Int32) [(.int 0), (.int 0)] (.int 0) := V_b11
    refine Go.st (fun _ => XS.dup W11.here W11.ex rfl (hb hby d1_85) rfl rfl) ?_
    refine Go.st (fun _ => XS.iconst W11.here W11.ex rfl (hb hby d1_86)) ?_
    refine Go.st (fun _ => XS.iloadN W11.here W11.ex rfl (hb hby d1_87) rfl) ?_
    show Go _ _ _ _ (T11.setTop (mkF m_ 88 #[.val (.int x), .val (.int c0), .val (.int c1), .val (.int c2), .val (.int (2 : Int32))] [(.int c0), (.int (0 : Int32)), (.ref b11), (.ref b11), (.ref b10), (.ref b10)]))
    refine W11.stC V_b11 (j := (0 : Int32)) (x := c0) ⟨by decide, by decide⟩ 0 rfl (Nat.le_of_ble_eq_true rfl) (List.mem_of_getElem? (i := 0) rfl) g_b11 (hb hby d1_88) ?_
    intro T12 h12 L12 W12 w12 V_new
    replace E_b10 := E_b10.wr w12
    replace F_value_b10 := F_value_b10.other w12 (Or.inl ne_b10_b11)
    replace F_coder_b10 := F_coder_b10.other w12 (Or.inl ne_b10_b11)
    replace K0 := K0.wr w12 (Or.inr sz_b11)
    rw [nar_char rc0] at V_new
    replace V_b11 : Arv Z h12 b11 kA_b11 .char (2 : Int32) [(.int c0), (.int 0)] (.int 0) := V_new
    clear V_new
    refine Go.st (fun _ => XS.dup W12.here W12.ex rfl (hb hby d1_89) rfl rfl) ?_
    refine Go.st (fun _ => XS.iconst W12.here W12.ex rfl (hb hby d1_90)) ?_
    refine Go.st (fun _ => XS.iloadN W12.here W12.ex rfl (hb hby d1_91) rfl) ?_
    show Go _ _ _ _ (T12.setTop (mkF m_ 92 #[.val (.int x), .val (.int c0), .val (.int c1), .val (.int c2), .val (.int (2 : Int32))] [(.int c1), (.int (1 : Int32)), (.ref b11), (.ref b11), (.ref b10), (.ref b10)]))
    refine W12.stC V_b11 (j := (1 : Int32)) (x := c1) ⟨by decide, by decide⟩ 1 rfl (Nat.le_of_ble_eq_true rfl) (List.mem_of_getElem? (i := 0) rfl) g_b11 (hb hby d1_92) ?_
    intro T13 h13 L13 W13 w13 V_new
    replace E_b10 := E_b10.wr w13
    replace F_value_b10 := F_value_b10.other w13 (Or.inl ne_b10_b11)
    replace F_coder_b10 := F_coder_b10.other w13 (Or.inl ne_b10_b11)
    replace K0 := K0.wr w13 (Or.inr sz_b11)
    rw [nar_char rc1] at V_new
    replace V_b11 : Arv Z h13 b11 kA_b11 .char (2 : Int32) [(.int c0), (.int c1)] (.int 0) := V_new
    clear V_new
    show Go _ _ _ _ (T13.setTop (mkF m_ 93 #[.val (.int x), .val (.int c0), .val (.int c1), .val (.int c2), .val (.int (2 : Int32))] [(.ref b11), (.ref b10), (.ref b10)]))
    refine W13.libI (y := Y21) rfl (cx.w 8 rfl) (cx.w 9 rfl) (cx.w 10 rfl) (by decide) (Q := StrChars.Road.QV Z b10 (2 : Int32) ((([c0, c1] : List Int32)).map (fun c => c.toInt8.toInt32)) h13 n0) (ws := [b10]) (Wd := 1) (ck := 1) (cn := 2) (StrChars.Road.backV (W := 1) W13.hZ cx.vw (kI := 4) (cx.w 5 rfl) (cs := ([c0, c1] : List Int32)) (bs := (([c0, c1] : List Int32)).map (fun c => c.toInt8.toInt32)) (n := 2) g_b10 W13.n0le E_b10 F_value_b10 F_coder_b10 V_b11 (cx.cmp.ext W13.e0) cx.g1 rfl rfl (by decide) (by decide) (Ch8.cons rc0 (Ch8.cons rc1 Ch8.nil)) rfl (by decide) (by decide)) (fun v h' L' q => ⟨q.2.1, q.2.2.1⟩) (allS (List.mem_of_getElem? (i := 1) rfl) all0) (allS g_b10 all0) (k' := 3) (n' := 8) rfl rfl (by decide) (by decide) (by rw [hml]; rfl) (a := b10) (argsL := [(.ref b11)]) (rest := [(.ref b10)]) rfl (lenOf pd1 rfl) rfl (Nat.le_of_eq rfl) (hb hby d1_93) ?_
    intro v15 T15 h15 M15 L15 W15 q15
    obtain ⟨rfl, -, Kv14, E_n, F_cn, t, k_t, g_t, hz_t, -, F_vn, V_n⟩ := q15
    have ne_b10_t : b10 ≠ t := Nat.ne_of_lt (Nat.lt_of_lt_of_le E_b10.lt hz_t)
    have ne_b11_t : b11 ≠ t := Nat.ne_of_lt (Nat.lt_of_lt_of_le V_b11.lt hz_t)
    have sz_t : h.size ≤ t := Nat.le_trans K0.1 hz_t
    replace E_b10 := E_b10.keep Kv14
    replace V_b11 := V_b11.keep Kv14 (ninS (Ne.symm ne_b10_b11) nin0)
    replace K0 := K0.trans Kv14 (allS (Or.inr sz_b10) all0)
    show Go _ _ _ _ (T15.setTop (mkF m_ 96 #[.val (.int x), .val (.int c0), .val (.int c1), .val (.int c2), .val (.int (2 : Int32))] [(.ref b10)]))
    have S_b10 : StrAt Z h15 b10 t ([c0, c1] : List Int32) := ⟨E_n, F_cn, F_vn, ⟨_, V_n⟩, (Ch8.cons rc0 (Ch8.cons rc1 Ch8.nil)), Nat.le_of_ble_eq_true rfl⟩
    exact W15.retA hret rfl rfl (hb hby d1_96) (by decide) (by decide) fun vr_ cr_ => ⟨b10, _, _, rfl, sz_b10, g_b10, K0, S_b10, Nat.le_of_ble_eq_true rfl⟩
  · rw [ey]
    refine Go.st (fun _ => XS.istore W0.here W0.ex rfl (hb hby d1_33) rfl (l' := #[.val (.int x), .val (.int c0), .val (.int c1), .val (.int c2), .val (.int (3 : Int32))]) rfl) ?_
    refine Go.st (fun _ => XS.iload W0.here W0.ex rfl (hb hby d1_35) rfl) ?_
    refine Go.st (fun _ => XS.ifYes W0.here W0.ex rfl (pc0 := 37) (pc' := 51) rfl (hb hby d1_37) rfl ((if0 _ _).trans (feq ((by decide) : ¬ ((3 : Int32) = (0 : Int32)))).2) (by decide) (by decide)) ?_
    show Go _ _ _ _ (T0.setTop (mkF m_ 51 #[.val (.int x), .val (.int c0), .val (.int c1), .val (.int c2), .val (.int (3 : Int32))] []))
    refine Go.st (fun _ => XS.iload W0.here W0.ex rfl (hb hby d1_51) rfl) ?_
    refine Go.st (fun _ => XS.iconst W0.here W0.ex rfl (hb hby d1_53)) ?_
    refine Go.st (fun _ => XS.icmpYes W0.here W0.ex rfl (pc0 := 54) (pc' := 72) rfl (hb hby d1_54) rfl (feq ((by decide) : ¬ ((3 : Int32) = (1 : Int32)))).2 (by decide) (by decide)) ?_
    show Go _ _ _ _ (T0.setTop (mkF m_ 72 #[.val (.int x), .val (.int c0), .val (.int c1), .val (.int c2), .val (.int (3 : Int32))] []))
    refine Go.st (fun _ => XS.iload W0.here W0.ex rfl (hb hby d1_72) rfl) ?_
    refine Go.st (fun _ => XS.iconst W0.here W0.ex rfl (hb hby d1_74)) ?_
    refine Go.st (fun _ => XS.icmpYes W0.here W0.ex rfl (pc0 := 75) (pc' := 97) rfl (hb hby d1_75) rfl (feq ((by decide) : ¬ ((3 : Int32) = (2 : Int32)))).2 (by decide) (by decide)) ?_
    show Go _ _ _ _ (T0.setTop (mkF m_ 97 #[.val (.int x), .val (.int c0), .val (.int c1), .val (.int c2), .val (.int (3 : Int32))] []))
    refine W0.newO (cx.w 4 rfl) (cx.w 5 rfl) (cx.w 6 rfl) (hb hby d1_97) (k' := 1) (n' := 4) rfl rfl (by decide) (by decide) ?_
    intro T16 h16 b16 hb16 g_b16 W16 E16 E_b16 D16
    have sz_b16 : h.size ≤ b16 := Nat.le_trans K0.1 (Nat.le_of_eq hb16.symm)
    replace K0 := K0.ext E16
    have F_value_b16 : Fld Z h16 b16 "java/lang/String" "value" "[B" .null := D16 (Or.inr (cx.w 20 rfl)) (ty := (.array .byte)) (by decide)
    have F_coder_b16 : Fld Z h16 b16 "java/lang/String" "coder" "B" (.int (0 : Int32)) := D16 (Or.inr (cx.w 21 rfl)) (ty := .byte) (by decide)
    refine Go.st (fun _ => XS.dup W16.here W16.ex rfl (hb hby d1_100) rfl rfl) ?_
    refine Go.st (fun _ => XS.iconst W16.here W16.ex rfl (hb hby d1_101)) ?_
    show Go _ _ _ _ (T16.setTop (mkF m_ 102 #[.val (.int x), .val (.int c0), .val (.int c1), .val (.int c2), .val (.int (3 : Int32))] [(.int (3 : Int32)), (.ref b16), (.ref b16)]))
    refine W16.newP (ty := .char) (dv := .int 0) rfl rfl (cx.w 7 rfl) (hb hby d1_102) (z := (3 : Int32)) (by decide) (cap := 3) (by decide) (by decide) (k' := 2) (n' := 7) rfl rfl (by decide) (by decide) ?_
    intro T17 h17 b17 kA_b17 hb17 g_b17 W17 E17 V_b17
    have ne_b16_b17 : b16 ≠ b17 := Nat.ne_of_lt (Nat.lt_of_lt_of_le E_b16.lt (Nat.le_of_eq hb17.symm))
    have sz_b17 : h.size ≤ b17 := Nat.le_trans K0.1 (Nat.le_of_eq hb17.symm)
    replace E_b16 := E_b16.ext E17
    replace F_value_b16 := F_value_b16.ext E17
    replace F_coder_b16 := F_coder_b16.ext E17
    replace K0 := K0.ext E17
    replace V_b17 : Arv Z h17 b17 kA_b17 .char (3 : Int32) [(.int 0), (.int 0), (.int 0)] (.int 0) := V_b17
    refine Go.st (fun _ => XS.dup W17.here W17.ex rfl (hb hby d1_104) rfl rfl) ?_
    refine Go.st (fun _ => XS.iconst W17.here W17.ex rfl (hb hby d1_105)) ?_
    refine Go.st (fun _ => XS.iloadN W17.here W17.ex rfl (hb hby d1_106) rfl) ?_
    show Go _ _ _ _ (T17.setTop (mkF m_ 107 #[.val (.int x), .val (.int c0), .val (.int c1), .val (.int c2), .val (.int (3 : Int32))] [(.int c0), (.int (0 : Int32)), (.ref b17), (.ref b17), (.ref b16), (.ref b16)]))
    refine W17.stC V_b17 (j := (0 : Int32)) (x := c0) ⟨by decide, by decide⟩ 0 rfl (Nat.le_of_ble_eq_true rfl) (List.mem_of_getElem? (i := 0) rfl) g_b17 (hb hby d1_107) ?_
    intro T18 h18 L18 W18 w18 V_new
    replace E_b16 := E_b16.wr w18
    replace F_value_b16 := F_value_b16.other w18 (Or.inl ne_b16_b17)
    replace F_coder_b16 := F_coder_b16.other w18 (Or.inl ne_b16_b17)
    replace K0 := K0.wr w18 (Or.inr sz_b17)
    rw [nar_char rc0] at V_new
    replace V_b17 : Arv Z h18 b17 kA_b17 .char (3 : Int32) [(.int c0), (.int 0), (.int 0)] (.int 0) := V_new
    clear V_new
    refine Go.st (fun _ => XS.dup W18.here W18.ex rfl (hb hby d1_108) rfl rfl) ?_
    refine Go.st (fun _ => XS.iconst W18.here W18.ex rfl (hb hby d1_109)) ?_
    refine Go.st (fun _ => XS.iloadN W18.here W18.ex rfl (hb hby d1_110) rfl) ?_
    show Go _ _ _ _ (T18.setTop (mkF m_ 111 #[.val (.int x), .val (.int c0), .val (.int c1), .val (.int c2), .val (.int (3 : Int32))] [(.int c1), (.int (1 : Int32)), (.ref b17), (.ref b17), (.ref b16), (.ref b16)]))
    refine W18.stC V_b17 (j := (1 : Int32)) (x := c1) ⟨by decide, by decide⟩ 1 rfl (Nat.le_of_ble_eq_true rfl) (List.mem_of_getElem? (i := 0) rfl) g_b17 (hb hby d1_111) ?_
    intro T19 h19 L19 W19 w19 V_new
    replace E_b16 := E_b16.wr w19
    replace F_value_b16 := F_value_b16.other w19 (Or.inl ne_b16_b17)
    replace F_coder_b16 := F_coder_b16.other w19 (Or.inl ne_b16_b17)
    replace K0 := K0.wr w19 (Or.inr sz_b17)
    rw [nar_char rc1] at V_new
    replace V_b17 : Arv Z h19 b17 kA_b17 .char (3 : Int32) [(.int c0), (.int c1), (.int 0)] (.int 0) := V_new
    clear V_new
    refine Go.st (fun _ => XS.dup W19.here W19.ex rfl (hb hby d1_112) rfl rfl) ?_
    refine Go.st (fun _ => XS.iconst W19.here W19.ex rfl (hb hby d1_113)) ?_
    refine Go.st (fun _ => XS.iloadN W19.here W19.ex rfl (hb hby d1_114) rfl) ?_
    show Go _ _ _ _ (T19.setTop (mkF m_ 115 #[.val (.int x), .val (.int c0), .val (.int c1), .val (.int c2), .val (.int (3 : Int32))] [(.int c2), (.int (2 : Int32)), (.ref b17), (.ref b17), (.ref b16), (.ref b16)]))
    refine W19.stC V_b17 (j := (2 : Int32)) (x := c2) ⟨by decide, by decide⟩ 2 rfl (Nat.le_of_ble_eq_true rfl) (List.mem_of_getElem? (i := 0) rfl) g_b17 (hb hby d1_115) ?_
    intro T20 h20 L20 W20 w20 V_new
    replace E_b16 := E_b16.wr w20
    replace F_value_b16 := F_value_b16.other w20 (Or.inl ne_b16_b17)
    replace F_coder_b16 := F_coder_b16.other w20 (Or.inl ne_b16_b17)
    replace K0 := K0.wr w20 (Or.inr sz_b17)
    rw [nar_char rc2] at V_new
    replace V_b17 : Arv Z h20 b17 kA_b17 .char (3 : Int32) [(.int c0), (.int c1), (.int c2)] (.int 0) := V_new
    clear V_new
    show Go _ _ _ _ (T20.setTop (mkF m_ 116 #[.val (.int x), .val (.int c0), .val (.int c1), .val (.int c2), .val (.int (3 : Int32))] [(.ref b17), (.ref b16), (.ref b16)]))
    refine W20.libI (y := Y21) rfl (cx.w 8 rfl) (cx.w 9 rfl) (cx.w 10 rfl) (by decide) (Q := StrChars.Road.QV Z b16 (3 : Int32) ((([c0, c1, c2] : List Int32)).map (fun c => c.toInt8.toInt32)) h20 n0) (ws := [b16]) (Wd := 1) (ck := 1) (cn := 3) (StrChars.Road.backV (W := 1) W20.hZ cx.vw (kI := 4) (cx.w 5 rfl) (cs := ([c0, c1, c2] : List Int32)) (bs := (([c0, c1, c2] : List Int32)).map (fun c => c.toInt8.toInt32)) (n := 3) g_b16 W20.n0le E_b16 F_value_b16 F_coder_b16 V_b17 (cx.cmp.ext W20.e0) cx.g1 rfl rfl (by decide) (by decide) (Ch8.cons rc0 (Ch8.cons rc1 (Ch8.cons rc2 Ch8.nil))) rfl (by decide) (by decide)) (fun v h' L' q => ⟨q.2.1, q.2.2.1⟩) (allS (List.mem_of_getElem? (i := 1) rfl) all0) (allS g_b16 all0) (k' := 3) (n' := 10) rfl rfl (by decide) (by decide) (by rw [hml]; rfl) (a := b16) (argsL := [(.ref b17)]) (rest := [(.ref b16)]) rfl (lenOf pd1 rfl) rfl (Nat.le_of_eq rfl) (hb hby d1_116) ?_
    intro v22 T22 h22 M22 L22 W22 q22
    obtain ⟨rfl, -, Kv21, E_n, F_cn, t, k_t, g_t, hz_t, -, F_vn, V_n⟩ := q22
    have ne_b16_t : b16 ≠ t := Nat.ne_of_lt (Nat.lt_of_lt_of_le E_b16.lt hz_t)
    have ne_b17_t : b17 ≠ t := Nat.ne_of_lt (Nat.lt_of_lt_of_le V_b17.lt hz_t)
    have sz_t : h.size ≤ t := Nat.le_trans K0.1 hz_t
    replace E_b16 := E_b16.keep Kv21
    replace V_b17 := V_b17.keep Kv21 (ninS (Ne.symm ne_b16_b17) nin0)
    replace K0 := K0.trans Kv21 (allS (Or.inr sz_b16) all0)
    show Go _ _ _ _ (T22.setTop (mkF m_ 119 #[.val (.int x), .val (.int c0), .val (.int c1), .val (.int c2), .val (.int (3 : Int32))] [(.ref b16)]))
    have S_b16 : StrAt Z h22 b16 t ([c0, c1, c2] : List Int32) := ⟨E_n, F_cn, F_vn, ⟨_, V_n⟩, (Ch8.cons rc0 (Ch8.cons rc1 (Ch8.cons rc2 Ch8.nil))), Nat.le_of_ble_eq_true rfl⟩
    exact W22.retA hret rfl rfl (hb hby d1_119) (by decide) (by decide) fun vr_ cr_ => ⟨b16, _, _, rfl, sz_b16, g_b16, K0, S_b16, Nat.le_of_ble_eq_true rfl⟩
theorem ct_ac {l : Launch} {Z a0 n0 g1 gf em es} (cx : Ctx Z a0 n0 g1 gf em es) {h : Heap} (O : Old Z n0 h) (a : Addr)  :
    Ct l Z consts_1 n0 [] (⟨"java/util/AbstractCollection", "<init>", "()V"⟩ : MethodName) jdk_22_method_1_code 1 none ({ frames := 1, cells := 0, slots := 0, locals := 12 } : Room) #[(.ref a)] [] h (fun v _ h' => v = none ∧ h' = h) := by
  refine Ct.intro (plainFor_of_name pn2) O cx.ew ?_
  intro p_ e_ s_ m_ bl_ mt_ c_ T0 W0 hby hml hret hnm
  refine Go.st (fun t_ k_ => castTop (g' := mkF m_ 0 #[.val (.ref a)] []) (by first | (simp [entryFrame, mkF, argsToLocals, Value.category]; done) | rfl) k_) ?_
  refine Go.st (fun _ => XS.aloadN W0.here W0.ex rfl (hb hby d9_0) rfl rfl) ?_
  show Go _ _ _ _ (T0.setTop (mkF m_ 1 #[.val (.ref a)] [(.ref a)]))
  refine W0.initO (cx.w 59 rfl) (cx.w 16 rfl) (cx.w 17 rfl) (by rw [hml]; rfl) (hb hby d9_1) (by decide) (Wd := 0) (Nat.le_of_eq rfl) (by decide) ?_
  intro T1 W1
  show Go _ _ _ _ (T1.setTop (mkF m_ 4 #[.val (.ref a)] []))
  exact W1.retV hret (hb hby d9_4) (by decide) (by decide) fun vr_ cr_ => ⟨rfl, rfl⟩
theorem ct_aic {l : Launch} {Z a0 n0 g1 gf em es} (cx : Ctx Z a0 n0 g1 gf em es) {h : Heap} (O : Old Z n0 h) (a : Addr)  :
    Ct l Z consts_1 n0 [] (⟨"java/util/ImmutableCollections$AbstractImmutableCollection", "<init>", "()V"⟩ : MethodName) jdk_47_method_1_code 1 none ({ frames := 2, cells := 0, slots := 0, locals := 24 } : Room) #[(.ref a)] [] h (fun v _ h' => v = none ∧ h' = h) := by
  refine Ct.intro (plainFor_of_name pn3) O cx.ew ?_
  intro p_ e_ s_ m_ bl_ mt_ c_ T0 W0 hby hml hret hnm
  refine Go.st (fun t_ k_ => castTop (g' := mkF m_ 0 #[.val (.ref a)] []) (by first | (simp [entryFrame, mkF, argsToLocals, Value.category]; done) | rfl) k_) ?_
  refine Go.st (fun _ => XS.aloadN W0.here W0.ex rfl (hb hby d8_0) rfl rfl) ?_
  show Go _ _ _ _ (T0.setTop (mkF m_ 1 #[.val (.ref a)] [(.ref a)]))
  refine W0.callI (y := (⟨"java/util/AbstractCollection", "<init>", "()V"⟩ : MethodName)) rfl (cx.w 53 rfl) (cx.w 54 rfl) (cx.w 57 rfl) (cx.w 58 rfl) (by decide) (ct_ac cx W0.old a) all0 (by decide) (Wd := 0) (by decide) (k' := 0) (n' := 0) rfl rfl (by decide) (by decide) (by rw [hml]; rfl) (a := a) (argsL := []) (rest := []) rfl (lenOf pd2 rfl) rfl (Nat.le_of_eq rfl) (hb hby d8_1) ?_
  intro v1 vm1 T1 h1 L1 W1 q1
  obtain ⟨rfl, eh_⟩ := q1
  subst h1
  show Go _ _ _ _ (T1.setTop (mkF m_ 4 #[.val (.ref a)] []))
  exact W1.retV hret (hb hby d8_4) (by decide) (by decide) fun vr_ cr_ => ⟨rfl, rfl⟩
theorem ct_ais {l : Launch} {Z a0 n0 g1 gf em es} (cx : Ctx Z a0 n0 g1 gf em es) {h : Heap} (O : Old Z n0 h) (a : Addr)  :
    Ct l Z consts_1 n0 [] (⟨"java/util/ImmutableCollections$AbstractImmutableSet", "<init>", "()V"⟩ : MethodName) jdk_100_method_1_code 1 none ({ frames := 3, cells := 0, slots := 0, locals := 36 } : Room) #[(.ref a)] [] h (fun v _ h' => v = none ∧ h' = h) := by
  refine Ct.intro (plainFor_of_name pn4) O cx.ew ?_
  intro p_ e_ s_ m_ bl_ mt_ c_ T0 W0 hby hml hret hnm
  refine Go.st (fun t_ k_ => castTop (g' := mkF m_ 0 #[.val (.ref a)] []) (by first | (simp [entryFrame, mkF, argsToLocals, Value.category]; done) | rfl) k_) ?_
  refine Go.st (fun _ => XS.aloadN W0.here W0.ex rfl (hb hby d7_0) rfl rfl) ?_
  show Go _ _ _ _ (T0.setTop (mkF m_ 1 #[.val (.ref a)] [(.ref a)]))
  refine W0.callI (y := (⟨"java/util/ImmutableCollections$AbstractImmutableCollection", "<init>", "()V"⟩ : MethodName)) rfl (cx.w 47 rfl) (cx.w 48 rfl) (cx.w 51 rfl) (cx.w 52 rfl) (by decide) (ct_aic cx W0.old a) all0 (by decide) (Wd := 0) (by decide) (k' := 0) (n' := 0) rfl rfl (by decide) (by decide) (by rw [hml]; rfl) (a := a) (argsL := []) (rest := []) rfl (lenOf pd2 rfl) rfl (Nat.le_of_eq rfl) (hb hby d7_1) ?_
  intro v1 vm1 T1 h1 L1 W1 q1
  obtain ⟨rfl, eh_⟩ := q1
  subst h1
  show Go _ _ _ _ (T1.setTop (mkF m_ 4 #[.val (.ref a)] []))
  exact W1.retV hret (hb hby d7_4) (by decide) (by decide) fun vr_ cr_ => ⟨rfl, rfl⟩
theorem ct_rec {l : Launch} {Z a0 n0 g1 gf em es} (cx : Ctx Z a0 n0 g1 gf em es) {h : Heap} (O : Old Z n0 h) (a : Addr)  :
    Ct l Z consts_1 n0 [] Y18 jdk_30_method_1_code 1 none ({ frames := 1, cells := 0, slots := 0, locals := 12 } : Room) #[(.ref a)] [] h (fun v _ h' => v = none ∧ h' = h) := by
  refine Ct.intro (plainFor_of_name pn5) O cx.ew ?_
  intro p_ e_ s_ m_ bl_ mt_ c_ T0 W0 hby hml hret hnm
  refine Go.st (fun t_ k_ => castTop (g' := mkF m_ 0 #[.val (.ref a)] []) (by first | (simp [entryFrame, mkF, argsToLocals, Value.category]; done) | rfl) k_) ?_
  refine Go.st (fun _ => XS.aloadN W0.here W0.ex rfl (hb hby d12_0) rfl rfl) ?_
  show Go _ _ _ _ (T0.setTop (mkF m_ 1 #[.val (.ref a)] [(.ref a)]))
  refine W0.initO (cx.w 78 rfl) (cx.w 16 rfl) (cx.w 17 rfl) (by rw [hml]; rfl) (hb hby d12_1) (by decide) (Wd := 0) (Nat.le_of_eq rfl) (by decide) ?_
  intro T1 W1
  show Go _ _ _ _ (T1.setTop (mkF m_ 4 #[.val (.ref a)] []))
  exact W1.retV hret (hb hby d12_4) (by decide) (by decide) fun vr_ cr_ => ⟨rfl, rfl⟩
theorem ct_rnn1 {l : Launch} {Z a0 n0 g1 gf em es} (cx : Ctx Z a0 n0 g1 gf em es) {h : Heap} (O : Old Z n0 h) (a : Addr)  :
    Ct l Z consts_1 n0 [] Y41 jdk_31_method_10_code 1 (some (.object "java/lang/Object")) ({ frames := 0, cells := 0, slots := 0, locals := 0 } : Room) #[(.ref a)] [] h (fun v _ h' => v = some (.ref a) ∧ h' = h) := by
  refine Ct.intro (plainFor_of_name pn6) O cx.ew ?_
  intro p_ e_ s_ m_ bl_ mt_ c_ T0 W0 hby hml hret hnm
  refine Go.st (fun t_ k_ => castTop (g' := mkF m_ 0 #[.val (.ref a)] []) (by first | (simp [entryFrame, mkF, argsToLocals, Value.category]; done) | rfl) k_) ?_
  refine Go.st (fun _ => XS.aloadN W0.here W0.ex rfl (hb hby d10_0) rfl rfl) ?_
  refine Go.st (fun _ => XS.ifnonnullYes W0.here W0.ex rfl (pc0 := 1) (pc' := 12) rfl (hb hby d10_1) rfl (by decide) (by decide)) ?_
  refine Go.st (fun _ => XS.aloadN W0.here W0.ex rfl (hb hby d10_12) rfl rfl) ?_
  show Go _ _ _ _ (T0.setTop (mkF m_ 13 #[.val (.ref a)] [(.ref a)]))
  exact W0.retA hret rfl rfl (hb hby d10_13) (by decide) (by decide) fun vr_ cr_ => ⟨rfl, rfl⟩
theorem ct_rnn2 {l : Launch} {Z a0 n0 g1 gf em es} (cx : Ctx Z a0 n0 g1 gf em es) {h : Heap} (O : Old Z n0 h) (a b : Addr)  :
    Ct l Z consts_1 n0 [] Y42 jdk_31_method_11_code 2 (some (.object "java/lang/Object")) ({ frames := 0, cells := 0, slots := 0, locals := 0 } : Room) #[(.ref a), (.ref b)] [] h (fun v _ h' => v = some (.ref a) ∧ h' = h) := by
  refine Ct.intro (plainFor_of_name pn6) O cx.ew ?_
  intro p_ e_ s_ m_ bl_ mt_ c_ T0 W0 hby hml hret hnm
  refine Go.st (fun t_ k_ => castTop (g' := mkF m_ 0 #[.val (.ref a), .val (.ref b)] []) (by first | (simp [entryFrame, mkF, argsToLocals, Value.category]; done) | rfl) k_) ?_
  refine Go.st (fun _ => XS.aloadN W0.here W0.ex rfl (hb hby d13_0) rfl rfl) ?_
  refine Go.st (fun _ => XS.ifnonnullYes W0.here W0.ex rfl (pc0 := 1) (pc' := 13) rfl (hb hby d13_1) rfl (by decide) (by decide)) ?_
  refine Go.st (fun _ => XS.aloadN W0.here W0.ex rfl (hb hby d13_13) rfl rfl) ?_
  show Go _ _ _ _ (T0.setTop (mkF m_ 14 #[.val (.ref a), .val (.ref b)] [(.ref a)]))
  exact W0.retA hret rfl rfl (hb hby d13_14) (by decide) (by decide) fun vr_ cr_ => ⟨rfl, rfl⟩
theorem ct_s12 {l : Launch} {Z a0 n0 g1 gf em es} (cx : Ctx Z a0 n0 g1 gf em es) {h : Heap} (O : Old Z n0 h) (a x : Addr) (E_a : Exa Z h a "java/util/ImmutableCollections$Set12") (F_e0_a : Fld Z h a "java/util/ImmutableCollections$Set12" "e0" "Ljava/lang/Object;" .null) (F_e1_a : Fld Z h a "java/util/ImmutableCollections$Set12" "e1" "Ljava/lang/Object;" .null) (g_a : n0 ≤ a) :
    Ct l Z consts_1 n0 [] (⟨"java/util/ImmutableCollections$Set12", "<init>", "(Ljava/lang/Object;)V"⟩ : MethodName) jdk_101_method_1_code 2 none ({ frames := 4, cells := 0, slots := 0, locals := 48 } : Room) #[(.ref a), (.ref x)] [a] h (fun v _ h' => v = none ∧ Keep h h' [a] ∧ Exa Z h' a "java/util/ImmutableCollections$Set12" ∧ Fld Z h' a "java/util/ImmutableCollections$Set12" "e0" "Ljava/lang/Object;" (.ref x) ∧ Fld Z h' a "java/util/ImmutableCollections$Set12" "e1" "Ljava/lang/Object;" (.ref em)) := by
  refine Ct.intro (plainFor_of_name pn7) O cx.ew ?_
  intro p_ e_ s_ m_ bl_ mt_ c_ T0 W0 hby hml hret hnm
  refine Go.st (fun t_ k_ => castTop (g' := mkF m_ 0 #[.val (.ref a), .val (.ref x)] []) (by first | (simp [entryFrame, mkF, argsToLocals, Value.category]; done) | rfl) k_) ?_
  show Go _ _ _ _ (T0.setTop (mkF m_ 0 #[.val (.ref a), .val (.ref x)] []))
  have K0 : Keep h h [a] := Keep.refl _ _
  refine Go.st (fun _ => XS.aloadN W0.here W0.ex rfl (hb hby d6_0) rfl rfl) ?_
  show Go _ _ _ _ (T0.setTop (mkF m_ 1 #[.val (.ref a), .val (.ref x)] [(.ref a)]))
  refine W0.callI (y := (⟨"java/util/ImmutableCollections$AbstractImmutableSet", "<init>", "()V"⟩ : MethodName)) rfl (cx.w 41 rfl) (cx.w 42 rfl) (cx.w 45 rfl) (cx.w 46 rfl) (by decide) (ct_ais cx W0.old a) all0 (by decide) (Wd := 0) (by decide) (k' := 0) (n' := 0) rfl rfl (by decide) (by decide) (by rw [hml]; rfl) (a := a) (argsL := []) (rest := []) rfl (lenOf pd2 rfl) rfl (Nat.le_of_eq rfl) (hb hby d6_1) ?_
  intro v1 vm1 T1 h1 L1 W1 q1
  obtain ⟨rfl, eh_⟩ := q1
  subst h1
  refine Go.st (fun _ => XS.aloadN W1.here W1.ex rfl (hb hby d6_4) rfl rfl) ?_
  refine Go.st (fun _ => XS.aloadN W1.here W1.ex rfl (hb hby d6_5) rfl rfl) ?_
  show Go _ _ _ _ (T1.setTop (mkF m_ 6 #[.val (.ref a), .val (.ref x)] [(.ref x), (.ref a)]))
  refine W1.callS (y := Y41) (cx.w 60 rfl) (cx.w 61 rfl) (cx.w 62 rfl) (cx.w 63 rfl) (by decide) (ct_rnn1 cx W1.old x) all0 (by decide) (Wd := 1) (by decide) (k' := 0) (n' := 0) rfl rfl (by decide) (by decide) (by rw [hml]; rfl) (argsL := [(.ref x)]) (rest := [(.ref a)]) rfl (lenOf pd3 rfl) rfl (Nat.le_of_eq rfl) (hb hby d6_6) ?_
  intro v2 vm2 T2 h2 L2 W2 q2
  obtain ⟨rfl, eh_⟩ := q2
  subst h2
  show Go _ _ _ _ (T2.setTop (mkF m_ 9 #[.val (.ref a), .val (.ref x)] [(.ref x), (.ref a)]))
  refine W2.putF (cx.w 64 rfl) Via.refl F_e0_a E_a (Or.inr ⟨(cx.w 65 rfl), rfl, hnm⟩) (cx.w 35 rfl) (ty := (.object "java/lang/Object")) (by decide) rfl rfl (List.mem_of_getElem? (i := 0) rfl) g_a (hb hby d6_9) ?_
  intro T3 h3 L3 W3 w3
  replace E_a := E_a.wr w3
  replace F_e0_a := F_e0_a.same w3
  replace F_e1_a := F_e1_a.other w3 (Or.inr (slot_ne (Or.inr (cx.w 69 rfl)) (Or.inr (cx.w 65 rfl)) (by decide) (t := (.object "java/lang/Object")) (t' := (.object "java/lang/Object")) (by decide) (by decide)))
  replace K0 := K0.wr w3 (Or.inl (List.mem_of_getElem? (i := 0) rfl))
  refine Go.st (fun _ => XS.aloadN W3.here W3.ex rfl (hb hby d6_12) rfl rfl) ?_
  show Go _ _ _ _ (T3.setTop (mkF m_ 13 #[.val (.ref a), .val (.ref x)] [(.ref a)]))
  refine W3.getSN (cx.w 66 rfl) Via.refl (cx.stem.ext W3.e0) (hb hby d6_13) ?_
  intro T4 W4
  show Go _ _ _ _ (T4.setTop (mkF m_ 16 #[.val (.ref a), .val (.ref x)] [(.ref em), (.ref a)]))
  refine W4.putF (cx.w 68 rfl) Via.refl F_e1_a E_a (Or.inr ⟨(cx.w 69 rfl), rfl, hnm⟩) (cx.w 35 rfl) (ty := (.object "java/lang/Object")) (by decide) rfl rfl (List.mem_of_getElem? (i := 0) rfl) g_a (hb hby d6_16) ?_
  intro T5 h5 L5 W5 w5
  replace E_a := E_a.wr w5
  replace F_e0_a := F_e0_a.other w5 (Or.inr (slot_ne (Or.inr (cx.w 65 rfl)) (Or.inr (cx.w 69 rfl)) (by decide) (t := (.object "java/lang/Object")) (t' := (.object "java/lang/Object")) (by decide) (by decide)))
  replace F_e1_a := F_e1_a.same w5
  replace K0 := K0.wr w5 (Or.inl (List.mem_of_getElem? (i := 0) rfl))
  show Go _ _ _ _ (T5.setTop (mkF m_ 19 #[.val (.ref a), .val (.ref x)] []))
  exact W5.retV hret (hb hby d6_19) (by decide) (by decide) fun vr_ cr_ => ⟨rfl, K0, E_a, F_e0_a, F_e1_a⟩
theorem ct_of1 {l : Launch} {Z a0 n0 g1 gf em es} (cx : Ctx Z a0 n0 g1 gf em es) {h : Heap} (O : Old Z n0 h) (x : Addr)  :
    Ct l Z consts_1 n0 [] Y46 jdk_96_method_18_code 1 (some (.object "java/util/Set")) ({ frames := 5, cells := 1, slots := 2, locals := 62 } : Room) #[(.ref x)] [] h (fun v _ h' => ∃ r : Addr, v = some (.ref r) ∧ h.size ≤ r ∧ n0 ≤ r ∧ Keep h h' [] ∧ Exa Z h' r "java/util/ImmutableCollections$Set12" ∧ Fld Z h' r "java/util/ImmutableCollections$Set12" "e0" "Ljava/lang/Object;" (.ref x) ∧ Fld Z h' r "java/util/ImmutableCollections$Set12" "e1" "Ljava/lang/Object;" (.ref em)) := by
  refine Ct.intro (plainFor_of_name pn8) O cx.ew ?_
  intro p_ e_ s_ m_ bl_ mt_ c_ T0 W0 hby hml hret hnm
  refine Go.st (fun t_ k_ => castTop (g' := mkF m_ 0 #[.val (.ref x)] []) (by first | (simp [entryFrame, mkF, argsToLocals, Value.category]; done) | rfl) k_) ?_
  show Go _ _ _ _ (T0.setTop (mkF m_ 0 #[.val (.ref x)] []))
  have K0 : Keep h h [] := Keep.refl _ _
  refine W0.newO (cx.w 34 rfl) (cx.w 35 rfl) (cx.w 36 rfl) (hb hby d5_0) (k' := 1) (n' := 2) rfl rfl (by decide) (by decide) ?_
  intro T1 h1 b1 hb1 g_b1 W1 E1 E_b1 D1
  have sz_b1 : h.size ≤ b1 := Nat.le_trans K0.1 (Nat.le_of_eq hb1.symm)
  replace K0 := K0.ext E1
  have F_e0_b1 : Fld Z h1 b1 "java/util/ImmutableCollections$Set12" "e0" "Ljava/lang/Object;" .null := D1 (Or.inr (cx.w 65 rfl)) (ty := (.object "java/lang/Object")) (by decide)
  have F_e1_b1 : Fld Z h1 b1 "java/util/ImmutableCollections$Set12" "e1" "Ljava/lang/Object;" .null := D1 (Or.inr (cx.w 69 rfl)) (ty := (.object "java/lang/Object")) (by decide)
  refine Go.st (fun _ => XS.dup W1.here W1.ex rfl (hb hby d5_3) rfl rfl) ?_
  refine Go.st (fun _ => XS.aloadN W1.here W1.ex rfl (hb hby d5_4) rfl rfl) ?_
  show Go _ _ _ _ (T1.setTop (mkF m_ 5 #[.val (.ref x)] [(.ref x), (.ref b1), (.ref b1)]))
  refine W1.callI (y := (⟨"java/util/ImmutableCollections$Set12", "<init>", "(Ljava/lang/Object;)V"⟩ : MethodName)) rfl (cx.w 37 rfl) (cx.w 38 rfl) (cx.w 36 rfl) (cx.w 40 rfl) (by decide) (ct_s12 cx W1.old b1 x E_b1 F_e0_b1 F_e1_b1 g_b1) (allS (List.mem_of_getElem? (i := 0) rfl) all0) (by decide) (Wd := 1) (by decide) (k' := 1) (n' := 2) rfl rfl (by decide) (by decide) (by rw [hml]; rfl) (a := b1) (argsL := [(.ref x)]) (rest := [(.ref b1)]) rfl (lenOf pd4 rfl) rfl (Nat.le_of_eq rfl) (hb hby d5_5) ?_
  intro v2 vm2 T2 h2 L2 W2 q2
  obtain ⟨rfl, K1, E_n, G1, G2⟩ := q2
  replace E_b1 := E_b1.keep K1
  replace K0 := K0.trans K1 (allS (Or.inr sz_b1) all0)
  show Go _ _ _ _ (T2.setTop (mkF m_ 8 #[.val (.ref x)] [(.ref b1)]))
  exact W2.retA hret rfl rfl (hb hby d5_8) (by decide) (by decide) fun vr_ cr_ => ⟨b1, rfl, sz_b1, g_b1, K0, E_n, G1, G2⟩
theorem ct_of0 {l : Launch} {Z a0 n0 g1 gf em es} (cx : Ctx Z a0 n0 g1 gf em es) {h : Heap} (O : Old Z n0 h)   :
    Ct l Z consts_1 n0 [] (⟨"java/util/Set", "of", "()Ljava/util/Set;"⟩ : MethodName) jdk_96_method_17_code 0 (some (.object "java/util/Set")) ({ frames := 0, cells := 0, slots := 0, locals := 0 } : Room) #[] [] h (fun v _ h' => v = some (.ref es) ∧ h' = h) := by
  refine Ct.intro (plainFor_of_name pn8) O cx.ew ?_
  intro p_ e_ s_ m_ bl_ mt_ c_ T0 W0 hby hml hret hnm
  refine Go.st (fun t_ k_ => castTop (g' := mkF m_ 0 #[] []) (by first | (simp [entryFrame, mkF, argsToLocals, Value.category]; done) | rfl) k_) ?_
  show Go _ _ _ _ (T0.setTop (mkF m_ 0 #[] []))
  refine W0.getS (cx.w 305 rfl) Via.refl (cx.stes.ext W0.e0) (hb hby d54_0) ?_
  intro T1 W1
  show Go _ _ _ _ (T1.setTop (mkF m_ 3 #[] [(.ref es)]))
  exact W1.retA hret rfl rfl (hb hby d54_3) (by decide) (by decide) fun vr_ cr_ => ⟨rfl, rfl⟩
theorem ct_cpoC {l : Launch} {Z a0 n0 g1 gf em es} (cx : Ctx Z a0 n0 g1 gf em es) {h : Heap} (O : Old Z n0 h) (r : Addr) (E_r : Exa Z h r "java/util/ImmutableCollections$Set12") :
    Ct l Z consts_1 n0 [] Y44 jdk_96_method_29_code 1 (some (.object "java/util/Set")) ({ frames := 0, cells := 0, slots := 0, locals := 0 } : Room) #[(.ref r)] [] h (fun v _ h' => v = some (.ref r) ∧ h' = h) := by
  refine Ct.intro (plainFor_of_name pn8) O cx.ew ?_
  intro p_ e_ s_ m_ bl_ mt_ c_ T0 W0 hby hml hret hnm
  refine Go.st (fun t_ k_ => castTop (g' := mkF m_ 0 #[.val (.ref r)] []) (by first | (simp [entryFrame, mkF, argsToLocals, Value.category]; done) | rfl) k_) ?_
  refine Go.st (fun _ => XS.aloadN W0.here W0.ex rfl (hb hby d14_0) rfl rfl) ?_
  show Go _ _ _ _ (T0.setTop (mkF m_ 1 #[.val (.ref r)] [(.ref r)]))
  refine W0.instY (cx.w 86 rfl) (Ins.of_exa E_r (cx.w 44 rfl)) (hb hby d14_1) ?_
  intro T1 W1
  refine Go.st (fun _ => XS.ifNo W1.here W1.ex rfl (hb hby d14_4) rfl ((if0 _ _).trans (feq ((by decide) : ¬ ((1 : Int32) = (0 : Int32)))).1)) ?_
  refine Go.st (fun _ => XS.aloadN W1.here W1.ex rfl (hb hby d14_7) rfl rfl) ?_
  show Go _ _ _ _ (T1.setTop (mkF m_ 8 #[.val (.ref r)] [(.ref r)]))
  refine W1.castY (cx.w 87 rfl) (Ins.of_exa E_r (cx.w 88 rfl)) (hb hby d14_8) ?_
  intro T2 W2
  show Go _ _ _ _ (T2.setTop (mkF m_ 11 #[.val (.ref r)] [(.ref r)]))
  exact W2.retA hret rfl rfl (hb hby d14_11) (by decide) (by decide) fun vr_ cr_ => ⟨rfl, rfl⟩
theorem ct_idC {l : Launch} {Z a0 n0 g1 gf em es} (cx : Ctx Z a0 n0 g1 gf em es) {h : Heap} (O : Old Z n0 h) (a nm r : Addr) (E_a : Exa Z h a "com/example/elegua/elegua/context/Identity") (F_name_a : Fld Z h a "com/example/elegua/elegua/context/Identity" "name" "Ljava/lang/String;" .null) (F_roles_a : Fld Z h a "com/example/elegua/elegua/context/Identity" "roles" "Ljava/util/Set;" .null) (g_a : n0 ≤ a) (E_r : Exa Z h r "java/util/ImmutableCollections$Set12") :
    Ct l Z consts_1 n0 [] Y6 prog_6_method_1_code 3 none ({ frames := 2, cells := 2, slots := 20, locals := 24 } : Room) #[(.ref a), (.ref nm), (.ref r)] [a] h (fun v _ h' => v = none ∧ Keep h h' [a] ∧ Exa Z h' a "com/example/elegua/elegua/context/Identity" ∧ Fld Z h' a "com/example/elegua/elegua/context/Identity" "name" "Ljava/lang/String;" (.ref nm) ∧ Fld Z h' a "com/example/elegua/elegua/context/Identity" "roles" "Ljava/util/Set;" (.ref r)) := by
  refine Ct.intro (plainFor_of_name pn9) O cx.ew ?_
  intro p_ e_ s_ m_ bl_ mt_ c_ T0 W0 hby hml hret hnm
  refine Go.st (fun t_ k_ => castTop (g' := mkF m_ 0 #[.val (.ref a), .val (.ref nm), .val (.ref r)] []) (by first | (simp [entryFrame, mkF, argsToLocals, Value.category]; done) | rfl) k_) ?_
  show Go _ _ _ _ (T0.setTop (mkF m_ 0 #[.val (.ref a), .val (.ref nm), .val (.ref r)] []))
  have K0 : Keep h h [a] := Keep.refl _ _
  refine Go.st (fun _ => XS.aloadN W0.here W0.ex rfl (hb hby d11_0) rfl rfl) ?_
  show Go _ _ _ _ (T0.setTop (mkF m_ 1 #[.val (.ref a), .val (.ref nm), .val (.ref r)] [(.ref a)]))
  refine W0.callI (y := Y18) rfl (cx.w 73 rfl) (cx.w 74 rfl) (cx.w 76 rfl) (cx.w 77 rfl) (by decide) (ct_rec cx W0.old a) all0 (by decide) (Wd := 0) (by decide) (k' := 0) (n' := 0) rfl rfl (by decide) (by decide) (by rw [hml]; rfl) (a := a) (argsL := []) (rest := []) rfl (lenOf pd2 rfl) rfl (Nat.le_of_eq rfl) (hb hby d11_1) ?_
  intro v1 vm1 T1 h1 L1 W1 q1
  obtain ⟨rfl, eh_⟩ := q1
  subst h1
  refine Go.st (fun _ => XS.aloadN W1.here W1.ex rfl (hb hby d11_4) rfl rfl) ?_
  show Go _ _ _ _ (T1.setTop (mkF m_ 5 #[.val (.ref a), .val (.ref nm), .val (.ref r)] [(.ref nm)]))
  refine W1.ldc (cx.w 79 rfl) cx.str (EL := consts_1) (List.mem_of_getElem? (i := 3) rfl) (vs := (litV 79)) (z := 4) ⟨by decide, rfl⟩ (by decide) rfl (hb hby d11_5) (j := 16) (by decide) (by decide) (k' := 2) (n' := 20) rfl rfl (by decide) (by decide) ?_
  intro vm2 T2 h2 a2 d2 kA_d2 W2 E2 E_a2 F_coder_a2 F_value_a2 V_d2 nl2
  replace E_a := E_a.ext E2
  replace F_name_a := F_name_a.ext E2
  replace F_roles_a := F_roles_a.ext E2
  replace E_r := E_r.ext E2
  replace K0 := K0.ext E2
  show Go _ _ _ _ (T2.setTop (mkF m_ 7 #[.val (.ref a), .val (.ref nm), .val (.ref r)] [(.ref a2), (.ref nm)]))
  refine W2.callS (y := Y42) (cx.w 80 rfl) (cx.w 81 rfl) (cx.w 62 rfl) (cx.w 82 rfl) (by decide) (ct_rnn2 cx W2.old nm a2) all0 (by decide) (Wd := 0) (by decide) (k' := 2) (n' := 20) rfl rfl (by decide) (by decide) (by rw [hml]; rfl) (argsL := [(.ref nm), (.ref a2)]) (rest := []) rfl (lenOf pd5 rfl) rfl (Nat.le_of_eq rfl) (hb hby d11_7) ?_
  intro v3 vm3 T3 h3 L3 W3 q3
  obtain ⟨rfl, eh_⟩ := q3
  subst h3
  refine Go.st (fun _ => XS.pop W3.here W3.ex rfl (hb hby d11_10) rfl rfl) ?_
  refine Go.st (fun _ => XS.aloadN W3.here W3.ex rfl (hb hby d11_11) rfl rfl) ?_
  show Go _ _ _ _ (T3.setTop (mkF m_ 12 #[.val (.ref a), .val (.ref nm), .val (.ref r)] [(.ref r)]))
  refine W3.callS (y := Y44) (cx.w 83 rfl) (cx.w 84 rfl) (cx.w 32 rfl) (cx.w 85 rfl) (by decide) (ct_cpoC cx W3.old r E_r) all0 (by decide) (Wd := 0) (by decide) (k' := 2) (n' := 20) rfl rfl (by decide) (by decide) (by rw [hml]; rfl) (argsL := [(.ref r)]) (rest := []) rfl (lenOf pd6 rfl) rfl (Nat.le_of_eq rfl) (hb hby d11_12) ?_
  intro v4 vm4 T4 h4 L4 W4 q4
  obtain ⟨rfl, eh_⟩ := q4
  subst h4
  refine Go.st (fun _ => XS.astoreN W4.here W4.ex rfl (hb hby d11_15) rfl rfl (l' := #[.val (.ref a), .val (.ref nm), .val (.ref r)]) rfl) ?_
  refine Go.st (fun _ => XS.aloadN W4.here W4.ex rfl (hb hby d11_16) rfl rfl) ?_
  refine Go.st (fun _ => XS.aloadN W4.here W4.ex rfl (hb hby d11_17) rfl rfl) ?_
  show Go _ _ _ _ (T4.setTop (mkF m_ 18 #[.val (.ref a), .val (.ref nm), .val (.ref r)] [(.ref nm), (.ref a)]))
  refine W4.putF (cx.w 89 rfl) Via.refl F_name_a E_a (Or.inr ⟨(cx.w 90 rfl), rfl, hnm⟩) (cx.w 27 rfl) (ty := (.object "java/lang/String")) (by decide) rfl rfl (List.mem_of_getElem? (i := 0) rfl) g_a (hb hby d11_18) ?_
  intro T5 h5 L5 W5 w5
  replace E_a := E_a.wr w5
  replace F_name_a := F_name_a.same w5
  replace F_roles_a := F_roles_a.other w5 (Or.inr (slot_ne (Or.inr (cx.w 92 rfl)) (Or.inr (cx.w 90 rfl)) (by decide) (t := (.object "java/util/Set")) (t' := (.object "java/lang/String")) (by decide) (by decide)))
  replace E_r := E_r.wr w5
  replace E_a2 := E_a2.wr w5
  replace F_coder_a2 := F_coder_a2.other w5 (Or.inl (Ne.symm (nl2 a (List.mem_of_getElem? (i := 0) rfl)).1))
  replace F_value_a2 := F_value_a2.other w5 (Or.inl (Ne.symm (nl2 a (List.mem_of_getElem? (i := 0) rfl)).1))
  replace V_d2 := V_d2.other w5 (Ne.symm (nl2 a (List.mem_of_getElem? (i := 0) rfl)).2)
  replace K0 := K0.wr w5 (Or.inl (List.mem_of_getElem? (i := 0) rfl))
  refine Go.st (fun _ => XS.aloadN W5.here W5.ex rfl (hb hby d11_21) rfl rfl) ?_
  refine Go.st (fun _ => XS.aloadN W5.here W5.ex rfl (hb hby d11_22) rfl rfl) ?_
  show Go _ _ _ _ (T5.setTop (mkF m_ 23 #[.val (.ref a), .val (.ref nm), .val (.ref r)] [(.ref r), (.ref a)]))
  refine W5.putF (cx.w 91 rfl) Via.refl F_roles_a E_a (Or.inr ⟨(cx.w 92 rfl), rfl, hnm⟩) (cx.w 27 rfl) (ty := (.object "java/util/Set")) (by decide) rfl rfl (List.mem_of_getElem? (i := 0) rfl) g_a (hb hby d11_23) ?_
  intro T6 h6 L6 W6 w6
  replace E_a := E_a.wr w6
  replace F_name_a := F_name_a.other w6 (Or.inr (slot_ne (Or.inr (cx.w 90 rfl)) (Or.inr (cx.w 92 rfl)) (by decide) (t := (.object "java/lang/String")) (t' := (.object "java/util/Set")) (by decide) (by decide)))
  replace F_roles_a := F_roles_a.same w6
  replace E_r := E_r.wr w6
  replace E_a2 := E_a2.wr w6
  replace F_coder_a2 := F_coder_a2.other w6 (Or.inl (Ne.symm (nl2 a (List.mem_of_getElem? (i := 0) rfl)).1))
  replace F_value_a2 := F_value_a2.other w6 (Or.inl (Ne.symm (nl2 a (List.mem_of_getElem? (i := 0) rfl)).1))
  replace V_d2 := V_d2.other w6 (Ne.symm (nl2 a (List.mem_of_getElem? (i := 0) rfl)).2)
  replace K0 := K0.wr w6 (Or.inl (List.mem_of_getElem? (i := 0) rfl))
  show Go _ _ _ _ (T6.setTop (mkF m_ 26 #[.val (.ref a), .val (.ref nm), .val (.ref r)] []))
  exact W6.retV hret (hb hby d11_26) (by decide) (by decide) fun vr_ cr_ => ⟨rfl, K0, E_a, F_name_a, F_roles_a⟩
theorem ct_cpoB {l : Launch} {Z a0 n0 g1 gf em es} (cx : Ctx Z a0 n0 g1 gf em es) {h : Heap} (O : Old Z n0 h) (r : Addr) (E_r : Exa Z h r "java/util/ImmutableCollections$SetN") :
    Ct l Z consts_1 n0 [] Y44 jdk_96_method_29_code 1 (some (.object "java/util/Set")) ({ frames := 0, cells := 0, slots := 0, locals := 0 } : Room) #[(.ref r)] [] h (fun v _ h' => v = some (.ref r) ∧ h' = h) := by
  refine Ct.intro (plainFor_of_name pn8) O cx.ew ?_
  intro p_ e_ s_ m_ bl_ mt_ c_ T0 W0 hby hml hret hnm
  refine Go.st (fun t_ k_ => castTop (g' := mkF m_ 0 #[.val (.ref r)] []) (by first | (simp [entryFrame, mkF, argsToLocals, Value.category]; done) | rfl) k_) ?_
  refine Go.st (fun _ => XS.aloadN W0.here W0.ex rfl (hb hby d14_0) rfl rfl) ?_
  show Go _ _ _ _ (T0.setTop (mkF m_ 1 #[.val (.ref r)] [(.ref r)]))
  refine W0.instY (cx.w 86 rfl) (Ins.of_exa E_r (cx.w 306 rfl)) (hb hby d14_1) ?_
  intro T1 W1
  refine Go.st (fun _ => XS.ifNo W1.here W1.ex rfl (hb hby d14_4) rfl ((if0 _ _).trans (feq ((by decide) : ¬ ((1 : Int32) = (0 : Int32)))).1)) ?_
  refine Go.st (fun _ => XS.aloadN W1.here W1.ex rfl (hb hby d14_7) rfl rfl) ?_
  show Go _ _ _ _ (T1.setTop (mkF m_ 8 #[.val (.ref r)] [(.ref r)]))
  refine W1.castY (cx.w 87 rfl) (Ins.of_exa E_r (cx.w 307 rfl)) (hb hby d14_8) ?_
  intro T2 W2
  show Go _ _ _ _ (T2.setTop (mkF m_ 11 #[.val (.ref r)] [(.ref r)]))
  exact W2.retA hret rfl rfl (hb hby d14_11) (by decide) (by decide) fun vr_ cr_ => ⟨rfl, rfl⟩
theorem ct_idB {l : Launch} {Z a0 n0 g1 gf em es} (cx : Ctx Z a0 n0 g1 gf em es) {h : Heap} (O : Old Z n0 h) (a nm r : Addr) (E_a : Exa Z h a "com/example/elegua/elegua/context/Identity") (F_name_a : Fld Z h a "com/example/elegua/elegua/context/Identity" "name" "Ljava/lang/String;" .null) (F_roles_a : Fld Z h a "com/example/elegua/elegua/context/Identity" "roles" "Ljava/util/Set;" .null) (g_a : n0 ≤ a) (E_r : Exa Z h r "java/util/ImmutableCollections$SetN") :
    Ct l Z consts_1 n0 [] Y6 prog_6_method_1_code 3 none ({ frames := 2, cells := 2, slots := 20, locals := 24 } : Room) #[(.ref a), (.ref nm), (.ref r)] [a] h (fun v _ h' => v = none ∧ Keep h h' [a] ∧ Exa Z h' a "com/example/elegua/elegua/context/Identity" ∧ Fld Z h' a "com/example/elegua/elegua/context/Identity" "name" "Ljava/lang/String;" (.ref nm) ∧ Fld Z h' a "com/example/elegua/elegua/context/Identity" "roles" "Ljava/util/Set;" (.ref r)) := by
  refine Ct.intro (plainFor_of_name pn9) O cx.ew ?_
  intro p_ e_ s_ m_ bl_ mt_ c_ T0 W0 hby hml hret hnm
  refine Go.st (fun t_ k_ => castTop (g' := mkF m_ 0 #[.val (.ref a), .val (.ref nm), .val (.ref r)] []) (by first | (simp [entryFrame, mkF, argsToLocals, Value.category]; done) | rfl) k_) ?_
  show Go _ _ _ _ (T0.setTop (mkF m_ 0 #[.val (.ref a), .val (.ref nm), .val (.ref r)] []))
  have K0 : Keep h h [a] := Keep.refl _ _
  refine Go.st (fun _ => XS.aloadN W0.here W0.ex rfl (hb hby d11_0) rfl rfl) ?_
  show Go _ _ _ _ (T0.setTop (mkF m_ 1 #[.val (.ref a), .val (.ref nm), .val (.ref r)] [(.ref a)]))
  refine W0.callI (y := Y18) rfl (cx.w 73 rfl) (cx.w 74 rfl) (cx.w 76 rfl) (cx.w 77 rfl) (by decide) (ct_rec cx W0.old a) all0 (by decide) (Wd := 0) (by decide) (k' := 0) (n' := 0) rfl rfl (by decide) (by decide) (by rw [hml]; rfl) (a := a) (argsL := []) (rest := []) rfl (lenOf pd2 rfl) rfl (Nat.le_of_eq rfl) (hb hby d11_1) ?_
  intro v1 vm1 T1 h1 L1 W1 q1
  obtain ⟨rfl, eh_⟩ := q1
  subst h1
  refine Go.st (fun _ => XS.aloadN W1.here W1.ex rfl (hb hby d11_4) rfl rfl) ?_
  show Go _ _ _ _ (T1.setTop (mkF m_ 5 #[.val (.ref a), .val (.ref nm), .val (.ref r)] [(.ref nm)]))
  refine W1.ldc (cx.w 79 rfl) cx.str (EL := consts_1) (List.mem_of_getElem? (i := 3) rfl) (vs := (litV 79)) (z := 4) ⟨by decide, rfl⟩ (by decide) rfl (hb hby d11_5) (j := 16) (by decide) (by decide) (k' := 2) (n' := 20) rfl rfl (by decide) (by decide) ?_
  intro vm2 T2 h2 a2 d2 kA_d2 W2 E2 E_a2 F_coder_a2 F_value_a2 V_d2 nl2
  replace E_a := E_a.ext E2
  replace F_name_a := F_name_a.ext E2
  replace F_roles_a := F_roles_a.ext E2
  replace E_r := E_r.ext E2
  replace K0 := K0.ext E2
  show Go _ _ _ _ (T2.setTop (mkF m_ 7 #[.val (.ref a), .val (.ref nm), .val (.ref r)] [(.ref a2), (.ref nm)]))
  refine W2.callS (y := Y42) (cx.w 80 rfl) (cx.w 81 rfl) (cx.w 62 rfl) (cx.w 82 rfl) (by decide) (ct_rnn2 cx W2.old nm a2) all0 (by decide) (Wd := 0) (by decide) (k' := 2) (n' := 20) rfl rfl (by decide) (by decide) (by rw [hml]; rfl) (argsL := [(.ref nm), (.ref a2)]) (rest := []) rfl (lenOf pd5 rfl) rfl (Nat.le_of_eq rfl) (hb hby d11_7) ?_
  intro v3 vm3 T3 h3 L3 W3 q3
  obtain ⟨rfl, eh_⟩ := q3
  subst h3
  refine Go.st (fun _ => XS.pop W3.here W3.ex rfl (hb hby d11_10) rfl rfl) ?_
  refine Go.st (fun _ => XS.aloadN W3.here W3.ex rfl (hb hby d11_11) rfl rfl) ?_
  show Go _ _ _ _ (T3.setTop (mkF m_ 12 #[.val (.ref a), .val (.ref nm), .val (.ref r)] [(.ref r)]))
  refine W3.callS (y := Y44) (cx.w 83 rfl) (cx.w 84 rfl) (cx.w 32 rfl) (cx.w 85 rfl) (by decide) (ct_cpoB cx W3.old r E_r) all0 (by decide) (Wd := 0) (by decide) (k' := 2) (n' := 20) rfl rfl (by decide) (by decide) (by rw [hml]; rfl) (argsL := [(.ref r)]) (rest := []) rfl (lenOf pd6 rfl) rfl (Nat.le_of_eq rfl) (hb hby d11_12) ?_
  intro v4 vm4 T4 h4 L4 W4 q4
  obtain ⟨rfl, eh_⟩ := q4
  subst h4
  refine Go.st (fun _ => XS.astoreN W4.here W4.ex rfl (hb hby d11_15) rfl rfl (l' := #[.val (.ref a), .val (.ref nm), .val (.ref r)]) rfl) ?_
  refine Go.st (fun _ => XS.aloadN W4.here W4.ex rfl (hb hby d11_16) rfl rfl) ?_
  refine Go.st (fun _ => XS.aloadN W4.here W4.ex rfl (hb hby d11_17) rfl rfl) ?_
  show Go _ _ _ _ (T4.setTop (mkF m_ 18 #[.val (.ref a), .val (.ref nm), .val (.ref r)] [(.ref nm), (.ref a)]))
  refine W4.putF (cx.w 89 rfl) Via.refl F_name_a E_a (Or.inr ⟨(cx.w 90 rfl), rfl, hnm⟩) (cx.w 27 rfl) (ty := (.object "java/lang/String")) (by decide) rfl rfl (List.mem_of_getElem? (i := 0) rfl) g_a (hb hby d11_18) ?_
  intro T5 h5 L5 W5 w5
  replace E_a := E_a.wr w5
  replace F_name_a := F_name_a.same w5
  replace F_roles_a := F_roles_a.other w5 (Or.inr (slot_ne (Or.inr (cx.w 92 rfl)) (Or.inr (cx.w 90 rfl)) (by decide) (t := (.object "java/util/Set")) (t' := (.object "java/lang/String")) (by decide) (by decide)))
  replace E_r := E_r.wr w5
  replace E_a2 := E_a2.wr w5
  replace F_coder_a2 := F_coder_a2.other w5 (Or.inl (Ne.symm (nl2 a (List.mem_of_getElem? (i := 0) rfl)).1))
  replace F_value_a2 := F_value_a2.other w5 (Or.inl (Ne.symm (nl2 a (List.mem_of_getElem? (i := 0) rfl)).1))
  replace V_d2 := V_d2.other w5 (Ne.symm (nl2 a (List.mem_of_getElem? (i := 0) rfl)).2)
  replace K0 := K0.wr w5 (Or.inl (List.mem_of_getElem? (i := 0) rfl))
  refine Go.st (fun _ => XS.aloadN W5.here W5.ex rfl (hb hby d11_21) rfl rfl) ?_
  refine Go.st (fun _ => XS.aloadN W5.here W5.ex rfl (hb hby d11_22) rfl rfl) ?_
  show Go _ _ _ _ (T5.setTop (mkF m_ 23 #[.val (.ref a), .val (.ref nm), .val (.ref r)] [(.ref r), (.ref a)]))
  refine W5.putF (cx.w 91 rfl) Via.refl F_roles_a E_a (Or.inr ⟨(cx.w 92 rfl), rfl, hnm⟩) (cx.w 27 rfl) (ty := (.object "java/util/Set")) (by decide) rfl rfl (List.mem_of_getElem? (i := 0) rfl) g_a (hb hby d11_23) ?_
  intro T6 h6 L6 W6 w6
  replace E_a := E_a.wr w6
  replace F_name_a := F_name_a.other w6 (Or.inr (slot_ne (Or.inr (cx.w 90 rfl)) (Or.inr (cx.w 92 rfl)) (by decide) (t := (.object "java/lang/String")) (t' := (.object "java/util/Set")) (by decide) (by decide)))
  replace F_roles_a := F_roles_a.same w6
  replace E_r := E_r.wr w6
  replace E_a2 := E_a2.wr w6
  replace F_coder_a2 := F_coder_a2.other w6 (Or.inl (Ne.symm (nl2 a (List.mem_of_getElem? (i := 0) rfl)).1))
  replace F_value_a2 := F_value_a2.other w6 (Or.inl (Ne.symm (nl2 a (List.mem_of_getElem? (i := 0) rfl)).1))
  replace V_d2 := V_d2.other w6 (Ne.symm (nl2 a (List.mem_of_getElem? (i := 0) rfl)).2)
  replace K0 := K0.wr w6 (Or.inl (List.mem_of_getElem? (i := 0) rfl))
  show Go _ _ _ _ (T6.setTop (mkF m_ 26 #[.val (.ref a), .val (.ref nm), .val (.ref r)] []))
  exact W6.retV hret (hb hby d11_26) (by decide) (by decide) fun vr_ cr_ => ⟨rfl, K0, E_a, F_name_a, F_roles_a⟩
theorem ct_con {l : Launch} {Z a0 n0 g1 gf em es} (cx : Ctx Z a0 n0 g1 gf em es) {h : Heap} (O : Old Z n0 h) (r x tx o to : Addr) (cs ds : List Int32) (E_r : Exa Z h r "java/util/ImmutableCollections$Set12") (F_e0_r : Fld Z h r "java/util/ImmutableCollections$Set12" "e0" "Ljava/lang/Object;" (.ref o)) (F_e1_r : Fld Z h r "java/util/ImmutableCollections$Set12" "e1" "Ljava/lang/Object;" (.ref em)) (S_x : StrAt Z h x tx cs) (S_o : StrAt Z h o to ds) :
    Ct l Z consts_1 n0 [] (⟨"java/util/ImmutableCollections$Set12", "contains", "(Ljava/lang/Object;)Z"⟩ : MethodName) jdk_101_method_5_code 2 (some .boolean) ({ frames := 2, cells := 0, slots := 0, locals := 28 } : Room) #[(.ref r), (.ref x)] [] h (fun v _ h' => ((v = some (.int 1) ∧ cs = ds) ∨ (v = some (.int 0) ∧ ¬ cs = ds)) ∧ h' = h) := by
  refine Ct.intro (plainFor_of_name pn7) O cx.ew ?_
  intro p_ e_ s_ m_ bl_ mt_ c_ T0 W0 hby hml hret hnm
  refine Go.st (fun t_ k_ => castTop (g' := mkF m_ 0 #[.val (.ref r), .val (.ref x)] []) (by first | (simp [entryFrame, mkF, argsToLocals, Value.category]; done) | rfl) k_) ?_
  show Go _ _ _ _ (T0.setTop (mkF m_ 0 #[.val (.ref r), .val (.ref x)] []))
  have E_em := cx.exem.ext W0.e0
  refine Go.st (fun _ => XS.aloadN W0.here W0.ex rfl (hb hby d41_0) rfl rfl) ?_
  refine Go.st (fun _ => XS.aloadN W0.here W0.ex rfl (hb hby d41_1) rfl rfl) ?_
  show Go _ _ _ _ (T0.setTop (mkF m_ 2 #[.val (.ref r), .val (.ref x)] [(.ref r), (.ref x)]))
  refine W0.getF (cx.w 64 rfl) Via.refl F_e0_r (hb hby d41_2) ?_
  intro T1 W1
  show Go _ _ _ _ (T1.setTop (mkF m_ 5 #[.val (.ref r), .val (.ref x)] [(.ref o), (.ref x)]))
  obtain ⟨k1_2, V1_2⟩ := S_x.kb
  obtain ⟨k2_2, V2_2⟩ := S_o.kb
  have E1_2 := S_x.E
  refine W1.libV (y := Y17) (z := Y25) (cx.w 249 rfl) (cx.w 250 rfl) (cx.w 252 rfl) (cx.w 253 rfl) (W1.nfc (y' := Y17) (cx.w 300 rfl) rfl) (by decide) E1_2 (Q := fun v h' L' => ((v = some (.int 1) ∧ cs = ds) ∨ (v = some (.int 0) ∧ ¬ cs = ds)) ∧ L' = [] ∧ h' = h) (ws := []) (Wd := 0) (ck := 0) (cn := 0) (StrChars.Road.eqW (W := 0) W1.hZ cx.qw (kI := 4) (cx.w 5 rfl) (cs := cs) S_x.1 S_x.2.2.1 S_x.2.1 V1_2 (StrChars.Road.codOf rfl fun c hc => (S_x.ch c hc).2) S_x.ch.up S_x.le (ds := ds) S_o.1 S_o.2.2.1 S_o.2.1 V2_2 (StrChars.Road.codOf rfl fun c hc => (S_o.ch c hc).2) S_o.ch.up S_o.le (cx.cmp.ext W1.e0) cx.g1 (by decide) (by decide)) (fun v h' L' q => ⟨by rw [q.2.1]; exact Fr.nil _, by rw [q.2.2]; exact Keep.refl _ _⟩) all0 all0 (k' := 0) (n' := 0) rfl rfl (by decide) (by decide) (by rw [hml]; rfl) (a := x) (argsL := [(.ref o)]) (rest := []) rfl (lenOf pd7 rfl) rfl (Nat.le_of_eq rfl) (hb hby d41_5) ?_
  intro v3 T3 h3 M3 L3 W3 q3
  rcases q3 with ⟨⟨rfl, he⟩ | ⟨rfl, he⟩, -, eh_⟩
  · subst h3
    refine Go.st (fun _ => XS.ifYes W3.here W3.ex rfl (pc0 := 8) (pc' := 22) rfl (hb hby d41_8) rfl ((if0 _ _).trans (feq ((by decide) : ¬ ((1 : Int32) = (0 : Int32)))).2) (by decide) (by decide)) ?_
    refine Go.st (fun _ => XS.iconst W3.here W3.ex rfl (hb hby d41_22)) ?_
    refine Go.st (fun _ => XS.goto W3.here W3.ex rfl (pc0 := 23) (pc' := 27) rfl (hb hby d41_23) (by decide) (by decide)) ?_
    show Go _ _ _ _ (T3.setTop (mkF m_ 27 #[.val (.ref r), .val (.ref x)] [(.int (1 : Int32))]))
    exact W3.retN hret (by simp) (hb hby d41_27) (by decide) (by decide) fun vr_ cr_ => ⟨Or.inl ⟨rfl, he⟩, rfl⟩
  · subst h3
    refine Go.st (fun _ => XS.ifNo W3.here W3.ex rfl (hb hby d41_8) rfl ((if0 _ _).trans (teq (rfl : (0 : Int32) = (0 : Int32))).2)) ?_
    refine Go.st (fun _ => XS.aloadN W3.here W3.ex rfl (hb hby d41_11) rfl rfl) ?_
    show Go _ _ _ _ (T3.setTop (mkF m_ 12 #[.val (.ref r), .val (.ref x)] [(.ref r)]))
    refine W3.getF (cx.w 68 rfl) Via.refl F_e1_r (hb hby d41_12) ?_
    intro T4 W4
    refine Go.st (fun _ => XS.aloadN W4.here W4.ex rfl (hb hby d41_15) rfl rfl) ?_
    show Go _ _ _ _ (T4.setTop (mkF m_ 16 #[.val (.ref r), .val (.ref x)] [(.ref x), (.ref em)]))
    refine W4.objEq (y := Y17) (cx.w 249 rfl) (cx.w 250 rfl) (cx.w 300 rfl) (cx.w 251 rfl) (cx.w 301 rfl) (by decide) pnf53 E_em (ne_exa E_em E1_2 (by decide)) d53_0 d53_1 d53_2 d53_9 d53_10 (len1 pd7 rfl) (by rw [hml]; rfl) (hb hby d41_16) (by decide) (Wd := 0) (Nat.le_of_eq rfl) (by decide) (by decide) (by decide) ?_
    intro T5 W5
    refine Go.st (fun _ => XS.ifYes W5.here W5.ex rfl (pc0 := 19) (pc' := 26) rfl (hb hby d41_19) rfl ((if0 _ _).trans (teq (rfl : (0 : Int32) = (0 : Int32))).1) (by decide) (by decide)) ?_
    refine Go.st (fun _ => XS.iconst W5.here W5.ex rfl (hb hby d41_26)) ?_
    show Go _ _ _ _ (T5.setTop (mkF m_ 27 #[.val (.ref r), .val (.ref x)] [(.int (0 : Int32))]))
    exact W5.retN hret (by simp) (hb hby d41_27) (by decide) (by decide) fun vr_ cr_ => ⟨Or.inr ⟨rfl, he⟩, rfl⟩
theorem ct_conB {l : Launch} {Z a0 n0 g1 gf em es} (cx : Ctx Z a0 n0 g1 gf em es) {h : Heap} (O : Old Z n0 h) (x : Addr)  :
    Ct l Z consts_1 n0 [] (⟨"java/util/ImmutableCollections$SetN", "contains", "(Ljava/lang/Object;)Z"⟩ : MethodName) jdk_132_method_4_code 2 (some .boolean) ({ frames := 1, cells := 0, slots := 0, locals := 12 } : Room) #[(.ref es), (.ref x)] [] h (fun v _ h' => v = some (.int 0) ∧ h' = h) := by
  refine Ct.intro (plainFor_of_name pn11) O cx.ew ?_
  intro p_ e_ s_ m_ bl_ mt_ c_ T0 W0 hby hml hret hnm
  refine Go.st (fun t_ k_ => castTop (g' := mkF m_ 0 #[.val (.ref es), .val (.ref x)] []) (by first | (simp [entryFrame, mkF, argsToLocals, Value.category]; done) | rfl) k_) ?_
  show Go _ _ _ _ (T0.setTop (mkF m_ 0 #[.val (.ref es), .val (.ref x)] []))
  have F_es := cx.fes.ext W0.e0
  refine Go.st (fun _ => XS.aloadN W0.here W0.ex rfl (hb hby d55_0) rfl rfl) ?_
  show Go _ _ _ _ (T0.setTop (mkF m_ 1 #[.val (.ref es), .val (.ref x)] [(.ref x)]))
  refine W0.callS (y := Y41) (cx.w 314 rfl) (cx.w 61 rfl) (cx.w 62 rfl) (cx.w 63 rfl) (by decide) (ct_rnn1 cx W0.old x) all0 (by decide) (Wd := 0) (by decide) (k' := 0) (n' := 0) rfl rfl (by decide) (by decide) (by rw [hml]; rfl) (argsL := [(.ref x)]) (rest := []) rfl (lenOf pd3 rfl) rfl (Nat.le_of_eq rfl) (hb hby d55_1) ?_
  intro v1 vm1 T1 h1 L1 W1 q1
  obtain ⟨rfl, eh_⟩ := q1
  subst h1
  refine Go.st (fun _ => XS.pop W1.here W1.ex rfl (hb hby d55_4) rfl rfl) ?_
  refine Go.st (fun _ => XS.aloadN W1.here W1.ex rfl (hb hby d55_5) rfl rfl) ?_
  show Go _ _ _ _ (T1.setTop (mkF m_ 6 #[.val (.ref es), .val (.ref x)] [(.ref es)]))
  refine W1.getF (cx.w 315 rfl) Via.refl F_es (hb hby d55_6) ?_
  intro T2 W2
  refine Go.st (fun _ => XS.ifYes W2.here W2.ex rfl (pc0 := 9) (pc' := 24) rfl (hb hby d55_9) rfl ((if0 _ _).trans (flt ((by decide) : ¬ ((0 : Int32) < (0 : Int32)))).2.2.2) (by decide) (by decide)) ?_
  refine Go.st (fun _ => XS.iconst W2.here W2.ex rfl (hb hby d55_24)) ?_
  show Go _ _ _ _ (T2.setTop (mkF m_ 25 #[.val (.ref es), .val (.ref x)] [(.int (0 : Int32))]))
  exact W2.retN hret (by simp) (hb hby d55_25) (by decide) (by decide) fun vr_ cr_ => ⟨rfl, rfl⟩
theorem ct_hasC {l : Launch} {Z a0 n0 g1 gf em es} (cx : Ctx Z a0 n0 g1 gf em es) {h : Heap} (O : Old Z n0 h) (i nm r x tx o to : Addr) (cs ds : List Int32) (E_i : Exa Z h i "com/example/elegua/elegua/context/Identity") (F_name_i : Fld Z h i "com/example/elegua/elegua/context/Identity" "name" "Ljava/lang/String;" (.ref nm)) (F_roles_i : Fld Z h i "com/example/elegua/elegua/context/Identity" "roles" "Ljava/util/Set;" (.ref r)) (E_r : Exa Z h r "java/util/ImmutableCollections$Set12") (F_e0_r : Fld Z h r "java/util/ImmutableCollections$Set12" "e0" "Ljava/lang/Object;" (.ref o)) (F_e1_r : Fld Z h r "java/util/ImmutableCollections$Set12" "e1" "Ljava/lang/Object;" (.ref em)) (S_x : StrAt Z h x tx cs) (S_o : StrAt Z h o to ds) :
    Ct l Z consts_1 n0 [] Y7 prog_6_method_3_code 2 (some .boolean) ({ frames := 3, cells := 0, slots := 0, locals := 41 } : Room) #[(.ref i), (.ref x)] [] h (fun v _ h' => ((v = some (.int 1) ∧ cs = ds) ∨ (v = some (.int 0) ∧ ¬ cs = ds)) ∧ h' = h) := by
  refine Ct.intro (plainFor_of_name pn9) O cx.ew ?_
  intro p_ e_ s_ m_ bl_ mt_ c_ T0 W0 hby hml hret hnm
  refine Go.st (fun t_ k_ => castTop (g' := mkF m_ 0 #[.val (.ref i), .val (.ref x)] []) (by first | (simp [entryFrame, mkF, argsToLocals, Value.category]; done) | rfl) k_) ?_
  refine Go.st (fun _ => XS.aloadN W0.here W0.ex rfl (hb hby d40_0) rfl rfl) ?_
  show Go _ _ _ _ (T0.setTop (mkF m_ 1 #[.val (.ref i), .val (.ref x)] [(.ref i)]))
  refine W0.getF (cx.w 91 rfl) Via.refl F_roles_i (hb hby d40_1) ?_
  intro T1 W1
  refine Go.st (fun _ => XS.aloadN W1.here W1.ex rfl (hb hby d40_4) rfl rfl) ?_
  show Go _ _ _ _ (T1.setTop (mkF m_ 5 #[.val (.ref i), .val (.ref x)] [(.ref x), (.ref r)]))
  refine W1.callF (x := (⟨"java/util/Set", "contains", "(Ljava/lang/Object;)Z"⟩ : MethodName)) (y := (⟨"java/util/ImmutableCollections$Set12", "contains", "(Ljava/lang/Object;)Z"⟩ : MethodName)) (cx.w 241 rfl) (cx.w 242 rfl) (mvT W1.hZ (cx.w 243 rfl)) (cx.w 244 rfl) (cx.w 245 rfl) (cx.w 246 rfl) (cx.w 247 rfl) (cx.w 88 rfl) (cx.w 36 rfl) (cx.w 248 rfl) (by decide) E_r (ct_con cx W1.old r x tx o to cs ds E_r F_e0_r F_e1_r S_x S_o) all0 (by decide) (Wd := 0) (by decide) (k' := 0) (n' := 0) rfl rfl (by decide) (by decide) (by rw [hml]; rfl) (a := r) (argsL := [(.ref x)]) (rest := []) rfl (lenOf pd7 rfl) rfl (Nat.le_of_eq rfl) (hb hby d40_5) ?_
  intro v2 vm2 T2 h2 L2 W2 q2
  rcases q2 with ⟨⟨rfl, he⟩ | ⟨rfl, he⟩, eh_⟩
  · subst h2
    show Go _ _ _ _ (T2.setTop (mkF m_ 10 #[.val (.ref i), .val (.ref x)] [(.int (1 : Int32))]))
    exact W2.retN hret (by simp) (hb hby d40_10) (by decide) (by decide) fun vr_ cr_ => ⟨Or.inl ⟨rfl, he⟩, rfl⟩
  · subst h2
    show Go _ _ _ _ (T2.setTop (mkF m_ 10 #[.val (.ref i), .val (.ref x)] [(.int (0 : Int32))]))
    exact W2.retN hret (by simp) (hb hby d40_10) (by decide) (by decide) fun vr_ cr_ => ⟨Or.inr ⟨rfl, he⟩, rfl⟩
theorem ct_hasB {l : Launch} {Z a0 n0 g1 gf em es} (cx : Ctx Z a0 n0 g1 gf em es) {h : Heap} (O : Old Z n0 h) (i nm x : Addr) (E_i : Exa Z h i "com/example/elegua/elegua/context/Identity") (F_name_i : Fld Z h i "com/example/elegua/elegua/context/Identity" "name" "Ljava/lang/String;" (.ref nm)) (F_roles_i : Fld Z h i "com/example/elegua/elegua/context/Identity" "roles" "Ljava/util/Set;" (.ref es)) :
    Ct l Z consts_1 n0 [] Y7 prog_6_method_3_code 2 (some .boolean) ({ frames := 2, cells := 0, slots := 0, locals := 25 } : Room) #[(.ref i), (.ref x)] [] h (fun v _ h' => v = some (.int 0) ∧ h' = h) := by
  refine Ct.intro (plainFor_of_name pn9) O cx.ew ?_
  intro p_ e_ s_ m_ bl_ mt_ c_ T0 W0 hby hml hret hnm
  refine Go.st (fun t_ k_ => castTop (g' := mkF m_ 0 #[.val (.ref i), .val (.ref x)] []) (by first | (simp [entryFrame, mkF, argsToLocals, Value.category]; done) | rfl) k_) ?_
  show Go _ _ _ _ (T0.setTop (mkF m_ 0 #[.val (.ref i), .val (.ref x)] []))
  have E_es := cx.exes.ext W0.e0
  refine Go.st (fun _ => XS.aloadN W0.here W0.ex rfl (hb hby d40_0) rfl rfl) ?_
  show Go _ _ _ _ (T0.setTop (mkF m_ 1 #[.val (.ref i), .val (.ref x)] [(.ref i)]))
  refine W0.getF (cx.w 91 rfl) Via.refl F_roles_i (hb hby d40_1) ?_
  intro T1 W1
  refine Go.st (fun _ => XS.aloadN W1.here W1.ex rfl (hb hby d40_4) rfl rfl) ?_
  show Go _ _ _ _ (T1.setTop (mkF m_ 5 #[.val (.ref i), .val (.ref x)] [(.ref x), (.ref es)]))
  refine W1.callF (x := (⟨"java/util/Set", "contains", "(Ljava/lang/Object;)Z"⟩ : MethodName)) (y := (⟨"java/util/ImmutableCollections$SetN", "contains", "(Ljava/lang/Object;)Z"⟩ : MethodName)) (cx.w 241 rfl) (cx.w 242 rfl) (mvT W1.hZ (cx.w 243 rfl)) (cx.w 308 rfl) (cx.w 309 rfl) (cx.w 310 rfl) (cx.w 311 rfl) (cx.w 307 rfl) (cx.w 312 rfl) (cx.w 313 rfl) (by decide) E_es (ct_conB cx W1.old x) all0 (by decide) (Wd := 0) (by decide) (k' := 0) (n' := 0) rfl rfl (by decide) (by decide) (by rw [hml]; rfl) (a := es) (argsL := [(.ref x)]) (rest := []) rfl (lenOf pd7 rfl) rfl (Nat.le_of_eq rfl) (hb hby d40_5) ?_
  intro v2 vm2 T2 h2 L2 W2 q2
  obtain ⟨rfl, eh_⟩ := q2
  subst h2
  show Go _ _ _ _ (T2.setTop (mkF m_ 10 #[.val (.ref i), .val (.ref x)] [(.int (0 : Int32))]))
  exact W2.retN hret (by simp) (hb hby d40_10) (by decide) (by decide) fun vr_ cr_ => ⟨rfl, rfl⟩
theorem ct_lamC {l : Launch} {Z a0 n0 g1 gf em es} (cx : Ctx Z a0 n0 g1 gf em es) {h : Heap} (O : Old Z n0 h) (i nm r x tx o to : Addr) (cs ds : List Int32) (E_i : Exa Z h i "com/example/elegua/elegua/context/Identity") (F_name_i : Fld Z h i "com/example/elegua/elegua/context/Identity" "name" "Ljava/lang/String;" (.ref nm)) (F_roles_i : Fld Z h i "com/example/elegua/elegua/context/Identity" "roles" "Ljava/util/Set;" (.ref r)) (E_r : Exa Z h r "java/util/ImmutableCollections$Set12") (F_e0_r : Fld Z h r "java/util/ImmutableCollections$Set12" "e0" "Ljava/lang/Object;" (.ref o)) (F_e1_r : Fld Z h r "java/util/ImmutableCollections$Set12" "e1" "Ljava/lang/Object;" (.ref em)) (S_x : StrAt Z h x tx cs) (S_o : StrAt Z h o to ds) :
    Ct l Z consts_1 n0 [] Y2 prog_2_method_7_code 2 (some .boolean) ({ frames := 4, cells := 0, slots := 0, locals := 54 } : Room) #[(.ref x), (.ref i)] [] h (fun v _ h' => ((v = some (.int 1) ∧ cs = ds) ∨ (v = some (.int 0) ∧ ¬ cs = ds)) ∧ h' = h) := by
  refine Ct.intro (plainFor_of_name pn12) O cx.ew ?_
  intro p_ e_ s_ m_ bl_ mt_ c_ T0 W0 hby hml hret hnm
  refine Go.st (fun t_ k_ => castTop (g' := mkF m_ 0 #[.val (.ref x), .val (.ref i)] []) (by first | (simp [entryFrame, mkF, argsToLocals, Value.category]; done) | rfl) k_) ?_
  refine Go.st (fun _ => XS.aloadN W0.here W0.ex rfl (hb hby d39_0) rfl rfl) ?_
  refine Go.st (fun _ => XS.ifnullNo W0.here W0.ex rfl (hb hby d39_1) rfl) ?_
  refine Go.st (fun _ => XS.aloadN W0.here W0.ex rfl (hb hby d39_4) rfl rfl) ?_
  show Go _ _ _ _ (T0.setTop (mkF m_ 5 #[.val (.ref x), .val (.ref i)] [(.ref i)]))
  refine Go.st (fun _ => XS.aloadN W0.here W0.ex rfl (hb hby d39_5) rfl rfl) ?_
  show Go _ _ _ _ (T0.setTop (mkF m_ 6 #[.val (.ref x), .val (.ref i)] [(.ref x), (.ref i)]))
  refine W0.callV (y := Y7) (z := Y7) (cx.w 236 rfl) (cx.w 237 rfl) (cx.w 239 rfl) (cx.w 238 rfl) (cx.w 28 rfl) (cx.w 240 rfl) (W0.nf (cx.w 239 rfl)) (by decide) E_i (ct_hasC cx W0.old i nm r x tx o to cs ds E_i F_name_i F_roles_i E_r F_e0_r F_e1_r S_x S_o) all0 (by decide) (Wd := 0) (by decide) (k' := 0) (n' := 0) rfl rfl (by decide) (by decide) (by rw [hml]; rfl) (a := i) (argsL := [(.ref x)]) (rest := []) rfl (lenOf pd8 rfl) rfl (Nat.le_of_eq rfl) (hb hby d39_6) ?_
  intro v1 vm1 T1 h1 L1 W1 q1
  rcases q1 with ⟨⟨rfl, he⟩ | ⟨rfl, he⟩, eh_⟩
  · subst h1
    refine Go.st (fun _ => XS.ifNo W1.here W1.ex rfl (hb hby d39_9) rfl ((if0 _ _).trans (feq ((by decide) : ¬ ((1 : Int32) = (0 : Int32)))).1)) ?_
    refine Go.st (fun _ => XS.iconst W1.here W1.ex rfl (hb hby d39_12)) ?_
    refine Go.st (fun _ => XS.goto W1.here W1.ex rfl (pc0 := 13) (pc' := 17) rfl (hb hby d39_13) (by decide) (by decide)) ?_
    show Go _ _ _ _ (T1.setTop (mkF m_ 17 #[.val (.ref x), .val (.ref i)] [(.int (1 : Int32))]))
    exact W1.retN hret (by simp) (hb hby d39_17) (by decide) (by decide) fun vr_ cr_ => ⟨Or.inl ⟨rfl, he⟩, rfl⟩
  · subst h1
    refine Go.st (fun _ => XS.ifYes W1.here W1.ex rfl (pc0 := 9) (pc' := 16) rfl (hb hby d39_9) rfl ((if0 _ _).trans (teq (rfl : (0 : Int32) = (0 : Int32))).1) (by decide) (by decide)) ?_
    refine Go.st (fun _ => XS.iconst W1.here W1.ex rfl (hb hby d39_16)) ?_
    show Go _ _ _ _ (T1.setTop (mkF m_ 17 #[.val (.ref x), .val (.ref i)] [(.int (0 : Int32))]))
    exact W1.retN hret (by simp) (hb hby d39_17) (by decide) (by decide) fun vr_ cr_ => ⟨Or.inr ⟨rfl, he⟩, rfl⟩
theorem ct_lamB {l : Launch} {Z a0 n0 g1 gf em es} (cx : Ctx Z a0 n0 g1 gf em es) {h : Heap} (O : Old Z n0 h) (i nm x : Addr) (E_i : Exa Z h i "com/example/elegua/elegua/context/Identity") (F_name_i : Fld Z h i "com/example/elegua/elegua/context/Identity" "name" "Ljava/lang/String;" (.ref nm)) (F_roles_i : Fld Z h i "com/example/elegua/elegua/context/Identity" "roles" "Ljava/util/Set;" (.ref es)) :
    Ct l Z consts_1 n0 [] Y2 prog_2_method_7_code 2 (some .boolean) ({ frames := 3, cells := 0, slots := 0, locals := 38 } : Room) #[(.ref x), (.ref i)] [] h (fun v _ h' => v = some (.int 0) ∧ h' = h) := by
  refine Ct.intro (plainFor_of_name pn12) O cx.ew ?_
  intro p_ e_ s_ m_ bl_ mt_ c_ T0 W0 hby hml hret hnm
  refine Go.st (fun t_ k_ => castTop (g' := mkF m_ 0 #[.val (.ref x), .val (.ref i)] []) (by first | (simp [entryFrame, mkF, argsToLocals, Value.category]; done) | rfl) k_) ?_
  refine Go.st (fun _ => XS.aloadN W0.here W0.ex rfl (hb hby d39_0) rfl rfl) ?_
  refine Go.st (fun _ => XS.ifnullNo W0.here W0.ex rfl (hb hby d39_1) rfl) ?_
  refine Go.st (fun _ => XS.aloadN W0.here W0.ex rfl (hb hby d39_4) rfl rfl) ?_
  show Go _ _ _ _ (T0.setTop (mkF m_ 5 #[.val (.ref x), .val (.ref i)] [(.ref i)]))
  refine Go.st (fun _ => XS.aloadN W0.here W0.ex rfl (hb hby d39_5) rfl rfl) ?_
  show Go _ _ _ _ (T0.setTop (mkF m_ 6 #[.val (.ref x), .val (.ref i)] [(.ref x), (.ref i)]))
  refine W0.callV (y := Y7) (z := Y7) (cx.w 236 rfl) (cx.w 237 rfl) (cx.w 239 rfl) (cx.w 238 rfl) (cx.w 28 rfl) (cx.w 240 rfl) (W0.nf (cx.w 239 rfl)) (by decide) E_i (ct_hasB cx W0.old i nm x E_i F_name_i F_roles_i) all0 (by decide) (Wd := 0) (by decide) (k' := 0) (n' := 0) rfl rfl (by decide) (by decide) (by rw [hml]; rfl) (a := i) (argsL := [(.ref x)]) (rest := []) rfl (lenOf pd8 rfl) rfl (Nat.le_of_eq rfl) (hb hby d39_6) ?_
  intro v1 vm1 T1 h1 L1 W1 q1
  obtain ⟨rfl, eh_⟩ := q1
  subst h1
  refine Go.st (fun _ => XS.ifYes W1.here W1.ex rfl (pc0 := 9) (pc' := 16) rfl (hb hby d39_9) rfl ((if0 _ _).trans (teq (rfl : (0 : Int32) = (0 : Int32))).1) (by decide) (by decide)) ?_
  refine Go.st (fun _ => XS.iconst W1.here W1.ex rfl (hb hby d39_16)) ?_
  show Go _ _ _ _ (T1.setTop (mkF m_ 17 #[.val (.ref x), .val (.ref i)] [(.int (0 : Int32))]))
  exact W1.retN hret (by simp) (hb hby d39_17) (by decide) (by decide) fun vr_ cr_ => ⟨rfl, rfl⟩
theorem ct_lamA {l : Launch} {Z a0 n0 g1 gf em es} (cx : Ctx Z a0 n0 g1 gf em es) {h : Heap} (O : Old Z n0 h) (x : Addr)  :
    Ct l Z consts_1 n0 [] Y2 prog_2_method_7_code 2 (some .boolean) ({ frames := 0, cells := 0, slots := 0, locals := 0 } : Room) #[(.ref x), .null] [] h (fun v _ h' => v = some (.int 0) ∧ h' = h) := by
  refine Ct.intro (plainFor_of_name pn12) O cx.ew ?_
  intro p_ e_ s_ m_ bl_ mt_ c_ T0 W0 hby hml hret hnm
  refine Go.st (fun t_ k_ => castTop (g' := mkF m_ 0 #[.val (.ref x), .val .null] []) (by first | (simp [entryFrame, mkF, argsToLocals, Value.category]; done) | rfl) k_) ?_
  refine Go.st (fun _ => XS.aloadN W0.here W0.ex rfl (hb hby d39_0) rfl rfl) ?_
  refine Go.st (fun _ => XS.ifnullYes W0.here W0.ex rfl (pc0 := 1) (pc' := 16) rfl (hb hby d39_1) rfl (by decide) (by decide)) ?_
  refine Go.st (fun _ => XS.iconst W0.here W0.ex rfl (hb hby d39_16)) ?_
  show Go _ _ _ _ (T0.setTop (mkF m_ 17 #[.val (.ref x), .val .null] [(.int (0 : Int32))]))
  exact W0.retN hret (by simp) (hb hby d39_17) (by decide) (by decide) fun vr_ cr_ => ⟨rfl, rfl⟩
theorem ct_alC {l : Launch} {Z a0 n0 g1 gf em es} (cx : Ctx Z a0 n0 g1 gf em es) {h : Heap} (O : Old Z n0 h) (c d fn : Addr) (cK : ClassId) (i nm r x tx o to : Addr) (cs ds : List Int32) (E_c : Exa Z h c "com/example/elegua/elegua/authorization/Access") (F_description_c : Fld Z h c "com/example/elegua/elegua/authorization/Access" "description" "Ljava/lang/String;" (.ref d)) (F_test_c : Fld Z h c "com/example/elegua/elegua/authorization/Access" "test" "Ljava/util/function/Predicate;" (.ref fn)) (MD : LamKit.Made Z "com/example/elegua/elegua/authorization/Access" sgR cK) (N_fn : FnC h fn cK (.ref x)) (E_i : Exa Z h i "com/example/elegua/elegua/context/Identity") (F_name_i : Fld Z h i "com/example/elegua/elegua/context/Identity" "name" "Ljava/lang/String;" (.ref nm)) (F_roles_i : Fld Z h i "com/example/elegua/elegua/context/Identity" "roles" "Ljava/util/Set;" (.ref r)) (E_r : Exa Z h r "java/util/ImmutableCollections$Set12") (F_e0_r : Fld Z h r "java/util/ImmutableCollections$Set12" "e0" "Ljava/lang/Object;" (.ref o)) (F_e1_r : Fld Z h r "java/util/ImmutableCollections$Set12" "e1" "Ljava/lang/Object;" (.ref em)) (S_x : StrAt Z h x tx cs) (S_o : StrAt Z h o to ds) :
    Ct l Z consts_1 n0 [] Y1 prog_2_method_5_code 2 (some .boolean) ({ frames := 6, cells := 0, slots := 0, locals := 80 } : Room) #[(.ref c), (.ref i)] [] h (fun v _ h' => ((v = some (.int 1) ∧ cs = ds) ∨ (v = some (.int 0) ∧ ¬ cs = ds)) ∧ h' = h) := by
  refine Ct.intro (plainFor_of_name pn12) O cx.ew ?_
  intro p_ e_ s_ m_ bl_ mt_ c_ T0 W0 hby hml hret hnm
  refine Go.st (fun t_ k_ => castTop (g' := mkF m_ 0 #[.val (.ref c), .val (.ref i)] []) (by first | (simp [entryFrame, mkF, argsToLocals, Value.category]; done) | rfl) k_) ?_
  refine Go.st (fun _ => XS.aloadN W0.here W0.ex rfl (hb hby d38_0) rfl rfl) ?_
  show Go _ _ _ _ (T0.setTop (mkF m_ 1 #[.val (.ref c), .val (.ref i)] [(.ref c)]))
  refine W0.getF (cx.w 223 rfl) Via.refl F_test_c (hb hby d38_1) ?_
  intro T1 W1
  refine Go.st (fun _ => XS.aloadN W1.here W1.ex rfl (hb hby d38_4) rfl rfl) ?_
  show Go _ _ _ _ (T1.setTop (mkF m_ 5 #[.val (.ref c), .val (.ref i)] [(.ref i), (.ref fn)]))
  refine W1.callLam (xi := Y47) (y := Y2) (σ := sgR) (D := "com/example/elegua/elegua/context/Identity") (cx.w 230 rfl) (cx.w 231 rfl) (mvT W1.hZ (cx.w 232 rfl)) (cx.w 95 rfl) (cx.w 235 rfl) (cx.w 234 rfl) (cx.w 216 rfl) (cx.w 233 rfl) (by decide) (by decide) (by decide) MD N_fn (fcode := fwR) (idx := 25) (ci := 21) (fi := 15) (cc := 19) (by decide +kernel) (by decide +kernel) (by decide +kernel) (by decide +kernel) (by decide +kernel) (by decide +kernel) (by decide +kernel) (by decide +kernel) (by decide +kernel) (v1 := (.ref i)) (Or.inr ⟨i, rfl, E_i⟩) (ct_lamC cx W1.old i nm r x tx o to cs ds E_i F_name_i F_roles_i E_r F_e0_r F_e1_r S_x S_o) all0 (fun v vm h' q => by rcases q.1 with ⟨e, -⟩ | ⟨e, -⟩ <;> exact ⟨_, e, rfl⟩) (by decide) (Wd := 0) (by decide) (k' := 0) (n' := 0) rfl rfl (by decide) (by decide) (by rw [hml]; rfl) (len1 pd7 rfl) (len1 pd9 rfl) (Nat.le_of_eq rfl) (hb hby d38_5) ?_
  intro v2 vm2 T2 h2 L2 W2 q2
  rcases q2 with ⟨⟨rfl, he⟩ | ⟨rfl, he⟩, eh_⟩
  · subst h2
    show Go _ _ _ _ (T2.setTop (mkF m_ 10 #[.val (.ref c), .val (.ref i)] [(.int (1 : Int32))]))
    exact W2.retN hret (by simp) (hb hby d38_10) (by decide) (by decide) fun vr_ cr_ => ⟨Or.inl ⟨rfl, he⟩, rfl⟩
  · subst h2
    show Go _ _ _ _ (T2.setTop (mkF m_ 10 #[.val (.ref c), .val (.ref i)] [(.int (0 : Int32))]))
    exact W2.retN hret (by simp) (hb hby d38_10) (by decide) (by decide) fun vr_ cr_ => ⟨Or.inr ⟨rfl, he⟩, rfl⟩
theorem ct_alB {l : Launch} {Z a0 n0 g1 gf em es} (cx : Ctx Z a0 n0 g1 gf em es) {h : Heap} (O : Old Z n0 h) (c d fn : Addr) (cK : ClassId) (i nm x : Addr) (E_c : Exa Z h c "com/example/elegua/elegua/authorization/Access") (F_description_c : Fld Z h c "com/example/elegua/elegua/authorization/Access" "description" "Ljava/lang/String;" (.ref d)) (F_test_c : Fld Z h c "com/example/elegua/elegua/authorization/Access" "test" "Ljava/util/function/Predicate;" (.ref fn)) (MD : LamKit.Made Z "com/example/elegua/elegua/authorization/Access" sgR cK) (N_fn : FnC h fn cK (.ref x)) (E_i : Exa Z h i "com/example/elegua/elegua/context/Identity") (F_name_i : Fld Z h i "com/example/elegua/elegua/context/Identity" "name" "Ljava/lang/String;" (.ref nm)) (F_roles_i : Fld Z h i "com/example/elegua/elegua/context/Identity" "roles" "Ljava/util/Set;" (.ref es)) :
    Ct l Z consts_1 n0 [] Y1 prog_2_method_5_code 2 (some .boolean) ({ frames := 5, cells := 0, slots := 0, locals := 64 } : Room) #[(.ref c), (.ref i)] [] h (fun v _ h' => v = some (.int 0) ∧ h' = h) := by
  refine Ct.intro (plainFor_of_name pn12) O cx.ew ?_
  intro p_ e_ s_ m_ bl_ mt_ c_ T0 W0 hby hml hret hnm
  refine Go.st (fun t_ k_ => castTop (g' := mkF m_ 0 #[.val (.ref c), .val (.ref i)] []) (by first | (simp [entryFrame, mkF, argsToLocals, Value.category]; done) | rfl) k_) ?_
  refine Go.st (fun _ => XS.aloadN W0.here W0.ex rfl (hb hby d38_0) rfl rfl) ?_
  show Go _ _ _ _ (T0.setTop (mkF m_ 1 #[.val (.ref c), .val (.ref i)] [(.ref c)]))
  refine W0.getF (cx.w 223 rfl) Via.refl F_test_c (hb hby d38_1) ?_
  intro T1 W1
  refine Go.st (fun _ => XS.aloadN W1.here W1.ex rfl (hb hby d38_4) rfl rfl) ?_
  show Go _ _ _ _ (T1.setTop (mkF m_ 5 #[.val (.ref c), .val (.ref i)] [(.ref i), (.ref fn)]))
  refine W1.callLam (xi := Y47) (y := Y2) (σ := sgR) (D := "com/example/elegua/elegua/context/Identity") (cx.w 230 rfl) (cx.w 231 rfl) (mvT W1.hZ (cx.w 232 rfl)) (cx.w 95 rfl) (cx.w 235 rfl) (cx.w 234 rfl) (cx.w 216 rfl) (cx.w 233 rfl) (by decide) (by decide) (by decide) MD N_fn (fcode := fwR) (idx := 25) (ci := 21) (fi := 15) (cc := 19) (by decide +kernel) (by decide +kernel) (by decide +kernel) (by decide +kernel) (by decide +kernel) (by decide +kernel) (by decide +kernel) (by decide +kernel) (by decide +kernel) (v1 := (.ref i)) (Or.inr ⟨i, rfl, E_i⟩) (ct_lamB cx W1.old i nm x E_i F_name_i F_roles_i) all0 (fun v vm h' q => ⟨_, q.1, rfl⟩) (by decide) (Wd := 0) (by decide) (k' := 0) (n' := 0) rfl rfl (by decide) (by decide) (by rw [hml]; rfl) (len1 pd7 rfl) (len1 pd9 rfl) (Nat.le_of_eq rfl) (hb hby d38_5) ?_
  intro v2 vm2 T2 h2 L2 W2 q2
  obtain ⟨rfl, eh_⟩ := q2
  subst h2
  show Go _ _ _ _ (T2.setTop (mkF m_ 10 #[.val (.ref c), .val (.ref i)] [(.int (0 : Int32))]))
  exact W2.retN hret (by simp) (hb hby d38_10) (by decide) (by decide) fun vr_ cr_ => ⟨rfl, rfl⟩
theorem ct_alA {l : Launch} {Z a0 n0 g1 gf em es} (cx : Ctx Z a0 n0 g1 gf em es) {h : Heap} (O : Old Z n0 h) (c d fn : Addr) (cK : ClassId) (x : Addr) (E_c : Exa Z h c "com/example/elegua/elegua/authorization/Access") (F_description_c : Fld Z h c "com/example/elegua/elegua/authorization/Access" "description" "Ljava/lang/String;" (.ref d)) (F_test_c : Fld Z h c "com/example/elegua/elegua/authorization/Access" "test" "Ljava/util/function/Predicate;" (.ref fn)) (MD : LamKit.Made Z "com/example/elegua/elegua/authorization/Access" sgR cK) (N_fn : FnC h fn cK (.ref x)) :
    Ct l Z consts_1 n0 [] Y1 prog_2_method_5_code 2 (some .boolean) ({ frames := 2, cells := 0, slots := 0, locals := 26 } : Room) #[(.ref c), .null] [] h (fun v _ h' => v = some (.int 0) ∧ h' = h) := by
  refine Ct.intro (plainFor_of_name pn12) O cx.ew ?_
  intro p_ e_ s_ m_ bl_ mt_ c_ T0 W0 hby hml hret hnm
  refine Go.st (fun t_ k_ => castTop (g' := mkF m_ 0 #[.val (.ref c), .val .null] []) (by first | (simp [entryFrame, mkF, argsToLocals, Value.category]; done) | rfl) k_) ?_
  refine Go.st (fun _ => XS.aloadN W0.here W0.ex rfl (hb hby d38_0) rfl rfl) ?_
  show Go _ _ _ _ (T0.setTop (mkF m_ 1 #[.val (.ref c), .val .null] [(.ref c)]))
  refine W0.getF (cx.w 223 rfl) Via.refl F_test_c (hb hby d38_1) ?_
  intro T1 W1
  refine Go.st (fun _ => XS.aloadN W1.here W1.ex rfl (hb hby d38_4) rfl rfl) ?_
  show Go _ _ _ _ (T1.setTop (mkF m_ 5 #[.val (.ref c), .val .null] [.null, (.ref fn)]))
  refine W1.callLam (xi := Y47) (y := Y2) (σ := sgR) (D := "com/example/elegua/elegua/context/Identity") (cx.w 230 rfl) (cx.w 231 rfl) (mvT W1.hZ (cx.w 232 rfl)) (cx.w 95 rfl) (cx.w 235 rfl) (cx.w 234 rfl) (cx.w 216 rfl) (cx.w 233 rfl) (by decide) (by decide) (by decide) MD N_fn (fcode := fwR) (idx := 25) (ci := 21) (fi := 15) (cc := 19) (by decide +kernel) (by decide +kernel) (by decide +kernel) (by decide +kernel) (by decide +kernel) (by decide +kernel) (by decide +kernel) (by decide +kernel) (by decide +kernel) (v1 := .null) (Or.inl rfl) (ct_lamA cx W1.old x) all0 (fun v vm h' q => ⟨_, q.1, rfl⟩) (by decide) (Wd := 0) (by decide) (k' := 0) (n' := 0) rfl rfl (by decide) (by decide) (by rw [hml]; rfl) (len1 pd7 rfl) (len1 pd9 rfl) (Nat.le_of_eq rfl) (hb hby d38_5) ?_
  intro v2 vm2 T2 h2 L2 W2 q2
  obtain ⟨rfl, eh_⟩ := q2
  subst h2
  show Go _ _ _ _ (T2.setTop (mkF m_ 10 #[.val (.ref c), .val .null] [(.int (0 : Int32))]))
  exact W2.retN hret (by simp) (hb hby d38_10) (by decide) (by decide) fun vr_ cr_ => ⟨rfl, rfl⟩
theorem ct_asbI {l : Launch} {Z a0 n0 g1 gf em es} (cx : Ctx Z a0 n0 g1 gf em es) {h : Heap} (O : Old Z n0 h) (a : Addr) (E_a : Exa Z h a "java/lang/StringBuilder") (F_value_a : Fld Z h a "java/lang/AbstractStringBuilder" "value" "[B" .null) (F_coder_a : Fld Z h a "java/lang/AbstractStringBuilder" "coder" "B" (.int (0 : Int32))) (F_count_a : Fld Z h a "java/lang/AbstractStringBuilder" "count" "I" (.int (0 : Int32))) (g_a : n0 ≤ a) :
    Ct l Z consts_1 n0 [] (⟨"java/lang/AbstractStringBuilder", "<init>", "(I)V"⟩ : MethodName) jdk_68_method_2_code 2 none ({ frames := 1, cells := 1, slots := 16, locals := 12 } : Room) #[(.ref a), (.int (16 : Int32))] [a] h (fun v vm h' => v = none ∧ ∃ (b : Addr) (kb : ClassId), h.size ≤ b ∧ n0 ≤ b ∧ Keep h h' [a] ∧ Exa Z h' a "java/lang/StringBuilder" ∧ Fld Z h' a "java/lang/AbstractStringBuilder" "value" "[B" (.ref b) ∧ Fld Z h' a "java/lang/AbstractStringBuilder" "coder" "B" (.int (0 : Int32)) ∧ Fld Z h' a "java/lang/AbstractStringBuilder" "count" "I" (.int (0 : Int32)) ∧ Arv Z h' b kb .byte 16 [(.int 0), (.int 0), (.int 0), (.int 0), (.int 0), (.int 0), (.int 0), (.int 0), (.int 0), (.int 0), (.int 0), (.int 0), (.int 0), (.int 0), (.int 0), (.int 0)] (.int 0) ∧ Safe Z consts_1 vm h' b) := by
  refine Ct.intro (plainFor_of_name pn13) O cx.ew ?_
  intro p_ e_ s_ m_ bl_ mt_ c_ T0 W0 hby hml hret hnm
  refine Go.st (fun t_ k_ => castTop (g' := mkF m_ 0 #[.val (.ref a), .val (.int (16 : Int32))] []) (by first | (simp [entryFrame, mkF, argsToLocals, Value.category]; done) | rfl) k_) ?_
  show Go _ _ _ _ (T0.setTop (mkF m_ 0 #[.val (.ref a), .val (.int (16 : Int32))] []))
  have K0 : Keep h h [a] := Keep.refl _ _
  refine Go.st (fun _ => XS.aloadN W0.here W0.ex rfl (hb hby d17_0) rfl rfl) ?_
  show Go _ _ _ _ (T0.setTop (mkF m_ 1 #[.val (.ref a), .val (.int (16 : Int32))] [(.ref a)]))
  refine W0.initO (cx.w 113 rfl) (cx.w 16 rfl) (cx.w 17 rfl) (by rw [hml]; rfl) (hb hby d17_1) (by decide) (Wd := 0) (Nat.le_of_eq rfl) (by decide) ?_
  intro T1 W1
  show Go _ _ _ _ (T1.setTop (mkF m_ 4 #[.val (.ref a), .val (.int (16 : Int32))] []))
  refine W1.getS (cx.w 114 rfl) Via.refl (cx.cmp.ext W1.e0) (hb hby d17_4) ?_
  intro T2 W2
  refine Go.st (fun _ => XS.ifNo W2.here W2.ex rfl (hb hby d17_7) rfl ((if0 _ _).trans (feq (cx.g1 : ¬ (g1 = (0 : Int32)))).1)) ?_
  refine Go.st (fun _ => XS.aloadN W2.here W2.ex rfl (hb hby d17_10) rfl rfl) ?_
  refine Go.st (fun _ => XS.iloadN W2.here W2.ex rfl (hb hby d17_11) rfl) ?_
  show Go _ _ _ _ (T2.setTop (mkF m_ 12 #[.val (.ref a), .val (.int (16 : Int32))] [(.int (16 : Int32)), (.ref a)]))
  refine W2.newP (ty := .byte) (dv := .int 0) rfl rfl (cx.w 19 rfl) (hb hby d17_12) (z := (16 : Int32)) (by decide) (cap := 16) (by decide) (by decide) (k' := 1) (n' := 16) rfl rfl (by decide) (by decide) ?_
  intro T3 h3 b3 kA_b3 hb3 g_b3 W3 E3 V_b3
  have ne_a_b3 : a ≠ b3 := Nat.ne_of_lt (Nat.lt_of_lt_of_le E_a.lt (Nat.le_of_eq hb3.symm))
  have sz_b3 : h.size ≤ b3 := Nat.le_trans K0.1 (Nat.le_of_eq hb3.symm)
  replace E_a := E_a.ext E3
  replace F_value_a := F_value_a.ext E3
  replace F_coder_a := F_coder_a.ext E3
  replace F_count_a := F_count_a.ext E3
  replace K0 := K0.ext E3
  replace V_b3 : Arv Z h3 b3 kA_b3 .byte (16 : Int32) [(.int 0), (.int 0), (.int 0), (.int 0), (.int 0), (.int 0), (.int 0), (.int 0), (.int 0), (.int 0), (.int 0), (.int 0), (.int 0), (.int 0), (.int 0), (.int 0)] (.int 0) := V_b3
  show Go _ _ _ _ (T3.setTop (mkF m_ 14 #[.val (.ref a), .val (.int (16 : Int32))] [(.ref b3), (.ref a)]))
  refine W3.putF (cx.w 115 rfl) Via.refl F_value_a E_a (Or.inl (cx.w 116 rfl)) (cx.w 102 rfl) (ty := (.array .byte)) (by decide) rfl rfl (List.mem_of_getElem? (i := 1) rfl) g_a (hb hby d17_14) ?_
  intro T4 h4 L4 W4 w4
  replace E_a := E_a.wr w4
  replace F_value_a := F_value_a.same w4
  replace F_coder_a := F_coder_a.other w4 (Or.inr (slot_ne (Or.inl (cx.w 118 rfl)) (Or.inl (cx.w 116 rfl)) (by decide) (t := .byte) (t' := (.array .byte)) (by decide) (by decide)))
  replace F_count_a := F_count_a.other w4 (Or.inr (slot_ne (Or.inl (cx.w 142 rfl)) (Or.inl (cx.w 116 rfl)) (by decide) (t := .int) (t' := (.array .byte)) (by decide) (by decide)))
  replace V_b3 := V_b3.other w4 (Ne.symm ne_a_b3)
  replace K0 := K0.wr w4 (Or.inl (List.mem_of_getElem? (i := 0) rfl))
  refine Go.st (fun _ => XS.aloadN W4.here W4.ex rfl (hb hby d17_17) rfl rfl) ?_
  refine Go.st (fun _ => XS.iconst W4.here W4.ex rfl (hb hby d17_18)) ?_
  show Go _ _ _ _ (T4.setTop (mkF m_ 19 #[.val (.ref a), .val (.int (16 : Int32))] [(.int (0 : Int32)), (.ref a)]))
  refine W4.putF (cx.w 117 rfl) Via.refl F_coder_a E_a (Or.inl (cx.w 118 rfl)) (cx.w 102 rfl) (ty := .byte) (by decide) rfl rfl (List.mem_of_getElem? (i := 1) rfl) g_a (hb hby d17_19) ?_
  intro T5 h5 L5 W5 w5
  replace E_a := E_a.wr w5
  replace F_value_a := F_value_a.other w5 (Or.inr (slot_ne (Or.inl (cx.w 116 rfl)) (Or.inl (cx.w 118 rfl)) (by decide) (t := (.array .byte)) (t' := .byte) (by decide) (by decide)))
  replace F_coder_a := F_coder_a.same w5
  replace F_count_a := F_count_a.other w5 (Or.inr (slot_ne (Or.inl (cx.w 142 rfl)) (Or.inl (cx.w 118 rfl)) (by decide) (t := .int) (t' := .byte) (by decide) (by decide)))
  replace V_b3 := V_b3.other w5 (Ne.symm ne_a_b3)
  replace K0 := K0.wr w5 (Or.inl (List.mem_of_getElem? (i := 0) rfl))
  refine Go.st (fun _ => XS.goto W5.here W5.ex rfl (pc0 := 22) (pc' := 38) rfl (hb hby d17_22) (by decide) (by decide)) ?_
  show Go _ _ _ _ (T5.setTop (mkF m_ 38 #[.val (.ref a), .val (.int (16 : Int32))] []))
  exact W5.retV hret (hb hby d17_38) (by decide) (by decide) fun vr_ cr_ => ⟨rfl, b3, _, sz_b3, g_b3, K0, E_a, F_value_a, F_coder_a, F_count_a, V_b3, (W5.sf.chr cr_ _ (List.mem_of_getElem? (i := 0) rfl)).1⟩
theorem ct_sbI {l : Launch} {Z a0 n0 g1 gf em es} (cx : Ctx Z a0 n0 g1 gf em es) {h : Heap} (O : Old Z n0 h) (a : Addr) (E_a : Exa Z h a "java/lang/StringBuilder") (F_value_a : Fld Z h a "java/lang/AbstractStringBuilder" "value" "[B" .null) (F_coder_a : Fld Z h a "java/lang/AbstractStringBuilder" "coder" "B" (.int (0 : Int32))) (F_count_a : Fld Z h a "java/lang/AbstractStringBuilder" "count" "I" (.int (0 : Int32))) (g_a : n0 ≤ a) :
    Ct l Z consts_1 n0 [] (⟨"java/lang/StringBuilder", "<init>", "()V"⟩ : MethodName) jdk_67_method_1_code 1 none ({ frames := 2, cells := 1, slots := 16, locals := 25 } : Room) #[(.ref a)] [a] h (fun v vm h' => v = none ∧ ∃ (b : Addr) (kb : ClassId), h.size ≤ b ∧ n0 ≤ b ∧ Keep h h' [a] ∧ Exa Z h' a "java/lang/StringBuilder" ∧ Fld Z h' a "java/lang/AbstractStringBuilder" "value" "[B" (.ref b) ∧ Fld Z h' a "java/lang/AbstractStringBuilder" "coder" "B" (.int (0 : Int32)) ∧ Fld Z h' a "java/lang/AbstractStringBuilder" "count" "I" (.int (0 : Int32)) ∧ Arv Z h' b kb .byte 16 [(.int 0), (.int 0), (.int 0), (.int 0), (.int 0), (.int 0), (.int 0), (.int 0), (.int 0), (.int 0), (.int 0), (.int 0), (.int 0), (.int 0), (.int 0), (.int 0)] (.int 0) ∧ Safe Z consts_1 vm h' b) := by
  refine Ct.intro (plainFor_of_name pn14) O cx.ew ?_
  intro p_ e_ s_ m_ bl_ mt_ c_ T0 W0 hby hml hret hnm
  refine Go.st (fun t_ k_ => castTop (g' := mkF m_ 0 #[.val (.ref a)] []) (by first | (simp [entryFrame, mkF, argsToLocals, Value.category]; done) | rfl) k_) ?_
  refine Go.st (fun _ => XS.aloadN W0.here W0.ex rfl (hb hby d16_0) rfl rfl) ?_
  refine Go.st (fun _ => XS.bipush W0.here W0.ex rfl (hb hby d16_1)) ?_
  show Go _ _ _ _ (T0.setTop (mkF m_ 3 #[.val (.ref a)] [(.int (16 : Int32)), (.ref a)]))
  refine W0.callI (y := (⟨"java/lang/AbstractStringBuilder", "<init>", "(I)V"⟩ : MethodName)) rfl (cx.w 107 rfl) (cx.w 108 rfl) (cx.w 111 rfl) (cx.w 112 rfl) (by decide) (ct_asbI cx W0.old a E_a F_value_a F_coder_a F_count_a g_a) (allS (List.mem_of_getElem? (i := 0) rfl) all0) (by decide) (Wd := 0) (by decide) (k' := 1) (n' := 16) rfl rfl (by decide) (by decide) (by rw [hml]; rfl) (a := a) (argsL := [(.int (16 : Int32))]) (rest := []) rfl (lenOf pd10 rfl) rfl (Nat.le_of_eq rfl) (hb hby d16_3) ?_
  intro v1 vm1 T1 h1 L1 W1 q1
  obtain ⟨rfl, b, kb, hz_b, g_b, K1, E_n, G1, G2, G3, V_b, sf_b⟩ := q1
  show Go _ _ _ _ (T1.setTop (mkF m_ 6 #[.val (.ref a)] []))
  have Wb := W1.cons sf_b V_b.lt
  exact Wb.retV hret (hb hby d16_6) (by decide) (by decide) fun vr_ cr_ => ⟨rfl, b, kb, hz_b, g_b, K1, E_n, G1, G2, G3, V_b, (Wb.sf.chr cr_ _ (List.mem_of_getElem? (i := 0) rfl)).1⟩
theorem ct_cod {l : Launch} {Z a0 n0 g1 gf em es} (cx : Ctx Z a0 n0 g1 gf em es) {h : Heap} (O : Old Z n0 h) (s t : Addr) (cs : List Int32) (S_s : StrAt Z h s t cs) :
    Ct l Z consts_1 n0 [] Y24 jdk_42_method_152_code 1 (some .byte) ({ frames := 0, cells := 0, slots := 0, locals := 0 } : Room) #[(.ref s)] [] h (fun v _ h' => v = some (.int 0) ∧ h' = h) := by
  refine Ct.intro (plainFor_of_name pn0) O cx.ew ?_
  intro p_ e_ s_ m_ bl_ mt_ c_ T0 W0 hby hml hret hnm
  refine Go.st (fun t_ k_ => castTop (g' := mkF m_ 0 #[.val (.ref s)] []) (by first | (simp [entryFrame, mkF, argsToLocals, Value.category]; done) | rfl) k_) ?_
  show Go _ _ _ _ (T0.setTop (mkF m_ 0 #[.val (.ref s)] []))
  have E_s := S_s.1
  have F_coder_s := S_s.2.1
  refine W0.getS (cx.w 140 rfl) Via.refl (cx.cmp.ext W0.e0) (hb hby d21_0) ?_
  intro T1 W1
  refine Go.st (fun _ => XS.ifNo W1.here W1.ex rfl (hb hby d21_3) rfl ((if0 _ _).trans (feq (cx.g1 : ¬ (g1 = (0 : Int32)))).1)) ?_
  refine Go.st (fun _ => XS.aloadN W1.here W1.ex rfl (hb hby d21_6) rfl rfl) ?_
  show Go _ _ _ _ (T1.setTop (mkF m_ 7 #[.val (.ref s)] [(.ref s)]))
  refine W1.getF (cx.w 25 rfl) Via.refl F_coder_s (hb hby d21_7) ?_
  intro T2 W2
  refine Go.st (fun _ => XS.goto W2.here W2.ex rfl (pc0 := 10) (pc' := 14) rfl (hb hby d21_10) (by decide) (by decide)) ?_
  show Go _ _ _ _ (T2.setTop (mkF m_ 14 #[.val (.ref s)] [(.int (0 : Int32))]))
  exact W2.retN hret (by simp) (hb hby d21_14) (by decide) (by decide) fun vr_ cr_ => ⟨rfl, rfl⟩
theorem ct_inf {l : Launch} {Z a0 n0 g1 gf em es} (cx : Ctx Z a0 n0 g1 gf em es) {h : Heap} (O : Old Z n0 h) (a b s t : Addr) (cs : List Int32) (z : Int32) (E_a : Exa Z h a "java/lang/StringBuilder") (F_value_a : Fld Z h a "java/lang/AbstractStringBuilder" "value" "[B" (.ref b)) (F_coder_a : Fld Z h a "java/lang/AbstractStringBuilder" "coder" "B" (.int (0 : Int32))) (F_count_a : Fld Z h a "java/lang/AbstractStringBuilder" "count" "I" (.int z)) (S_s : StrAt Z h s t cs) :
    Ct l Z consts_1 n0 [] Y12 jdk_68_method_71_code 2 none ({ frames := 1, cells := 0, slots := 0, locals := 13 } : Room) #[(.ref a), (.ref s)] [] h (fun v _ h' => v = none ∧ h' = h) := by
  refine Ct.intro (plainFor_of_name pn13) O cx.ew ?_
  intro p_ e_ s_ m_ bl_ mt_ c_ T0 W0 hby hml hret hnm
  refine Go.st (fun t_ k_ => castTop (g' := mkF m_ 0 #[.val (.ref a), .val (.ref s)] []) (by first | (simp [entryFrame, mkF, argsToLocals, Value.category]; done) | rfl) k_) ?_
  show Go _ _ _ _ (T0.setTop (mkF m_ 0 #[.val (.ref a), .val (.ref s)] []))
  have E_s := S_s.1
  have F_coder_s := S_s.2.1
  refine W0.getS (cx.w 114 rfl) Via.refl (cx.cmp.ext W0.e0) (hb hby d24_0) ?_
  intro T1 W1
  refine Go.st (fun _ => XS.ifNo W1.here W1.ex rfl (hb hby d24_3) rfl ((if0 _ _).trans (feq (cx.g1 : ¬ (g1 = (0 : Int32)))).1)) ?_
  refine Go.st (fun _ => XS.aloadN W1.here W1.ex rfl (hb hby d24_6) rfl rfl) ?_
  show Go _ _ _ _ (T1.setTop (mkF m_ 7 #[.val (.ref a), .val (.ref s)] [(.ref a)]))
  refine W1.getF (cx.w 117 rfl) Via.refl F_coder_a (hb hby d24_7) ?_
  intro T2 W2
  refine Go.st (fun _ => XS.aloadN W2.here W2.ex rfl (hb hby d24_10) rfl rfl) ?_
  show Go _ _ _ _ (T2.setTop (mkF m_ 11 #[.val (.ref a), .val (.ref s)] [(.ref s), (.int (0 : Int32))]))
  refine W2.callV (y := Y24) (z := Y24) (cx.w 158 rfl) (cx.w 136 rfl) (cx.w 138 rfl) (cx.w 137 rfl) (cx.w 6 rfl) (cx.w 139 rfl) (W2.nf (cx.w 138 rfl)) (by decide) E_s (ct_cod cx W2.old s t cs S_s) all0 (by decide) (Wd := 1) (by decide) (k' := 0) (n' := 0) rfl rfl (by decide) (by decide) (by rw [hml]; rfl) (a := s) (argsL := []) (rest := [(.int (0 : Int32))]) rfl (lenOf pd11 rfl) rfl (Nat.le_of_eq rfl) (hb hby d24_11) ?_
  intro v3 vm3 T3 h3 L3 W3 q3
  obtain ⟨rfl, eh_⟩ := q3
  subst h3
  refine Go.st (fun _ => XS.icmpYes W3.here W3.ex rfl (pc0 := 14) (pc' := 21) rfl (hb hby d24_14) rfl (teq (rfl : (0 : Int32) = (0 : Int32))).1 (by decide) (by decide)) ?_
  show Go _ _ _ _ (T3.setTop (mkF m_ 21 #[.val (.ref a), .val (.ref s)] []))
  exact W3.retV hret (hb hby d24_21) (by decide) (by decide) fun vr_ cr_ => ⟨rfl, rfl⟩
theorem ct_ens5 {l : Launch} {Z a0 n0 g1 gf em es} (cx : Ctx Z a0 n0 g1 gf em es) {h : Heap} (O : Old Z n0 h) (a b : Addr) (kb : ClassId) (z : Int32) (vs : List Value) (E_a : Exa Z h a "java/lang/StringBuilder") (F_value_a : Fld Z h a "java/lang/AbstractStringBuilder" "value" "[B" (.ref b)) (F_coder_a : Fld Z h a "java/lang/AbstractStringBuilder" "coder" "B" (.int (0 : Int32))) (F_count_a : Fld Z h a "java/lang/AbstractStringBuilder" "count" "I" (.int z)) (V_b : Arv Z h b kb .byte 16 vs (.int 0)) :
    Ct l Z consts_1 n0 [] Y10 jdk_68_method_9_code 3 none ({ frames := 0, cells := 0, slots := 0, locals := 0 } : Room) #[(.ref a), (.int (5 : Int32))] [] h (fun v _ h' => v = none ∧ h' = h) := by
  refine Ct.intro (plainFor_of_name pn13) O cx.ew ?_
  intro p_ e_ s_ m_ bl_ mt_ c_ T0 W0 hby hml hret hnm
  refine Go.st (fun t_ k_ => castTop (g' := mkF m_ 0 #[.val (.ref a), .val (.int (5 : Int32)), .unset] []) (by first | (simp [entryFrame, mkF, argsToLocals, Value.category]; done) | rfl) k_) ?_
  refine Go.st (fun _ => XS.aloadN W0.here W0.ex rfl (hb hby d22_0) rfl rfl) ?_
  show Go _ _ _ _ (T0.setTop (mkF m_ 1 #[.val (.ref a), .val (.int (5 : Int32)), .unset] [(.ref a)]))
  refine W0.getF (cx.w 115 rfl) Via.refl F_value_a (hb hby d22_1) ?_
  intro T1 W1
  show Go _ _ _ _ (T1.setTop (mkF m_ 4 #[.val (.ref a), .val (.int (5 : Int32)), .unset] [(.ref b)]))
  refine W1.alen V_b (hb hby d22_4) ?_
  refine Go.st (fun _ => XS.aloadN W1.here W1.ex rfl (hb hby d22_5) rfl rfl) ?_
  show Go _ _ _ _ (T1.setTop (mkF m_ 6 #[.val (.ref a), .val (.int (5 : Int32)), .unset] [(.ref a), (.int (16 : Int32))]))
  refine W1.getF (cx.w 117 rfl) Via.refl F_coder_a (hb hby d22_6) ?_
  intro T2 W2
  refine Go.st (fun _ => XS.ishr W2.here W2.ex rfl (hb hby d22_9) rfl) ?_
  refine Go.st (fun _ => XS.istoreN W2.here W2.ex rfl (hb hby d22_10) rfl (l' := #[.val (.ref a), .val (.int (5 : Int32)), .val (.int (16 : Int32))]) rfl) ?_
  refine Go.st (fun _ => XS.iloadN W2.here W2.ex rfl (hb hby d22_11) rfl) ?_
  show Go _ _ _ _ (T2.setTop (mkF m_ 12 #[.val (.ref a), .val (.int (5 : Int32)), .val (.int (16 : Int32))] [(.int (5 : Int32))]))
  refine Go.st (fun _ => XS.iloadN W2.here W2.ex rfl (hb hby d22_12) rfl) ?_
  refine Go.st (fun _ => XS.isub W2.here W2.ex rfl (hb hby d22_13) rfl) ?_
  refine Go.st (fun _ => XS.ifYes W2.here W2.ex rfl (pc0 := 14) (pc' := 38) rfl (hb hby d22_14) rfl ((if0 _ _).trans (flt ((by decide) : ¬ ((0 : Int32) < (-11 : Int32)))).2.2.2) (by decide) (by decide)) ?_
  show Go _ _ _ _ (T2.setTop (mkF m_ 38 #[.val (.ref a), .val (.int (5 : Int32)), .val (.int (16 : Int32))] []))
  exact W2.retV hret (hb hby d22_38) (by decide) (by decide) fun vr_ cr_ => ⟨rfl, rfl⟩
theorem ct_ens6 {l : Launch} {Z a0 n0 g1 gf em es} (cx : Ctx Z a0 n0 g1 gf em es) {h : Heap} (O : Old Z n0 h) (a b : Addr) (kb : ClassId) (z : Int32) (vs : List Value) (E_a : Exa Z h a "java/lang/StringBuilder") (F_value_a : Fld Z h a "java/lang/AbstractStringBuilder" "value" "[B" (.ref b)) (F_coder_a : Fld Z h a "java/lang/AbstractStringBuilder" "coder" "B" (.int (0 : Int32))) (F_count_a : Fld Z h a "java/lang/AbstractStringBuilder" "count" "I" (.int z)) (V_b : Arv Z h b kb .byte 16 vs (.int 0)) :
    Ct l Z consts_1 n0 [] Y10 jdk_68_method_9_code 3 none ({ frames := 0, cells := 0, slots := 0, locals := 0 } : Room) #[(.ref a), (.int (6 : Int32))] [] h (fun v _ h' => v = none ∧ h' = h) := by
  refine Ct.intro (plainFor_of_name pn13) O cx.ew ?_
  intro p_ e_ s_ m_ bl_ mt_ c_ T0 W0 hby hml hret hnm
  refine Go.st (fun t_ k_ => castTop (g' := mkF m_ 0 #[.val (.ref a), .val (.int (6 : Int32)), .unset] []) (by first | (simp [entryFrame, mkF, argsToLocals, Value.category]; done) | rfl) k_) ?_
  refine Go.st (fun _ => XS.aloadN W0.here W0.ex rfl (hb hby d22_0) rfl rfl) ?_
  show Go _ _ _ _ (T0.setTop (mkF m_ 1 #[.val (.ref a), .val (.int (6 : Int32)), .unset] [(.ref a)]))
  refine W0.getF (cx.w 115 rfl) Via.refl F_value_a (hb hby d22_1) ?_
  intro T1 W1
  show Go _ _ _ _ (T1.setTop (mkF m_ 4 #[.val (.ref a), .val (.int (6 : Int32)), .unset] [(.ref b)]))
  refine W1.alen V_b (hb hby d22_4) ?_
  refine Go.st (fun _ => XS.aloadN W1.here W1.ex rfl (hb hby d22_5) rfl rfl) ?_
  show Go _ _ _ _ (T1.setTop (mkF m_ 6 #[.val (.ref a), .val (.int (6 : Int32)), .unset] [(.ref a), (.int (16 : Int32))]))
  refine W1.getF (cx.w 117 rfl) Via.refl F_coder_a (hb hby d22_6) ?_
  intro T2 W2
  refine Go.st (fun _ => XS.ishr W2.here W2.ex rfl (hb hby d22_9) rfl) ?_
  refine Go.st (fun _ => XS.istoreN W2.here W2.ex rfl (hb hby d22_10) rfl (l' := #[.val (.ref a), .val (.int (6 : Int32)), .val (.int (16 : Int32))]) rfl) ?_
  refine Go.st (fun _ => XS.iloadN W2.here W2.ex rfl (hb hby d22_11) rfl) ?_
  show Go _ _ _ _ (T2.setTop (mkF m_ 12 #[.val (.ref a), .val (.int (6 : Int32)), .val (.int (16 : Int32))] [(.int (6 : Int32))]))
  refine Go.st (fun _ => XS.iloadN W2.here W2.ex rfl (hb hby d22_12) rfl) ?_
  refine Go.st (fun _ => XS.isub W2.here W2.ex rfl (hb hby d22_13) rfl) ?_
  refine Go.st (fun _ => XS.ifYes W2.here W2.ex rfl (pc0 := 14) (pc' := 38) rfl (hb hby d22_14) rfl ((if0 _ _).trans (flt ((by decide) : ¬ ((0 : Int32) < (-10 : Int32)))).2.2.2) (by decide) (by decide)) ?_
  show Go _ _ _ _ (T2.setTop (mkF m_ 38 #[.val (.ref a), .val (.int (6 : Int32)), .val (.int (16 : Int32))] []))
  exact W2.retV hret (hb hby d22_38) (by decide) (by decide) fun vr_ cr_ => ⟨rfl, rfl⟩
theorem ct_ens7 {l : Launch} {Z a0 n0 g1 gf em es} (cx : Ctx Z a0 n0 g1 gf em es) {h : Heap} (O : Old Z n0 h) (a b : Addr) (kb : ClassId) (z : Int32) (vs : List Value) (E_a : Exa Z h a "java/lang/StringBuilder") (F_value_a : Fld Z h a "java/lang/AbstractStringBuilder" "value" "[B" (.ref b)) (F_coder_a : Fld Z h a "java/lang/AbstractStringBuilder" "coder" "B" (.int (0 : Int32))) (F_count_a : Fld Z h a "java/lang/AbstractStringBuilder" "count" "I" (.int z)) (V_b : Arv Z h b kb .byte 16 vs (.int 0)) :
    Ct l Z consts_1 n0 [] Y10 jdk_68_method_9_code 3 none ({ frames := 0, cells := 0, slots := 0, locals := 0 } : Room) #[(.ref a), (.int (7 : Int32))] [] h (fun v _ h' => v = none ∧ h' = h) := by
  refine Ct.intro (plainFor_of_name pn13) O cx.ew ?_
  intro p_ e_ s_ m_ bl_ mt_ c_ T0 W0 hby hml hret hnm
  refine Go.st (fun t_ k_ => castTop (g' := mkF m_ 0 #[.val (.ref a), .val (.int (7 : Int32)), .unset] []) (by first | (simp [entryFrame, mkF, argsToLocals, Value.category]; done) | rfl) k_) ?_
  refine Go.st (fun _ => XS.aloadN W0.here W0.ex rfl (hb hby d22_0) rfl rfl) ?_
  show Go _ _ _ _ (T0.setTop (mkF m_ 1 #[.val (.ref a), .val (.int (7 : Int32)), .unset] [(.ref a)]))
  refine W0.getF (cx.w 115 rfl) Via.refl F_value_a (hb hby d22_1) ?_
  intro T1 W1
  show Go _ _ _ _ (T1.setTop (mkF m_ 4 #[.val (.ref a), .val (.int (7 : Int32)), .unset] [(.ref b)]))
  refine W1.alen V_b (hb hby d22_4) ?_
  refine Go.st (fun _ => XS.aloadN W1.here W1.ex rfl (hb hby d22_5) rfl rfl) ?_
  show Go _ _ _ _ (T1.setTop (mkF m_ 6 #[.val (.ref a), .val (.int (7 : Int32)), .unset] [(.ref a), (.int (16 : Int32))]))
  refine W1.getF (cx.w 117 rfl) Via.refl F_coder_a (hb hby d22_6) ?_
  intro T2 W2
  refine Go.st (fun _ => XS.ishr W2.here W2.ex rfl (hb hby d22_9) rfl) ?_
  refine Go.st (fun _ => XS.istoreN W2.here W2.ex rfl (hb hby d22_10) rfl (l' := #[.val (.ref a), .val (.int (7 : Int32)), .val (.int (16 : Int32))]) rfl) ?_
  refine Go.st (fun _ => XS.iloadN W2.here W2.ex rfl (hb hby d22_11) rfl) ?_
  show Go _ _ _ _ (T2.setTop (mkF m_ 12 #[.val (.ref a), .val (.int (7 : Int32)), .val (.int (16 : Int32))] [(.int (7 : Int32))]))
  refine Go.st (fun _ => XS.iloadN W2.here W2.ex rfl (hb hby d22_12) rfl) ?_
  refine Go.st (fun _ => XS.isub W2.here W2.ex rfl (hb hby d22_13) rfl) ?_
  refine Go.st (fun _ => XS.ifYes W2.here W2.ex rfl (pc0 := 14) (pc' := 38) rfl (hb hby d22_14) rfl ((if0 _ _).trans (flt ((by decide) : ¬ ((0 : Int32) < (-9 : Int32)))).2.2.2) (by decide) (by decide)) ?_
  show Go _ _ _ _ (T2.setTop (mkF m_ 38 #[.val (.ref a), .val (.int (7 : Int32)), .val (.int (16 : Int32))] []))
  exact W2.retV hret (hb hby d22_38) (by decide) (by decide) fun vr_ cr_ => ⟨rfl, rfl⟩
theorem ct_ens8 {l : Launch} {Z a0 n0 g1 gf em es} (cx : Ctx Z a0 n0 g1 gf em es) {h : Heap} (O : Old Z n0 h) (a b : Addr) (kb : ClassId) (z : Int32) (vs : List Value) (E_a : Exa Z h a "java/lang/StringBuilder") (F_value_a : Fld Z h a "java/lang/AbstractStringBuilder" "value" "[B" (.ref b)) (F_coder_a : Fld Z h a "java/lang/AbstractStringBuilder" "coder" "B" (.int (0 : Int32))) (F_count_a : Fld Z h a "java/lang/AbstractStringBuilder" "count" "I" (.int z)) (V_b : Arv Z h b kb .byte 16 vs (.int 0)) :
    Ct l Z consts_1 n0 [] Y10 jdk_68_method_9_code 3 none ({ frames := 0, cells := 0, slots := 0, locals := 0 } : Room) #[(.ref a), (.int (8 : Int32))] [] h (fun v _ h' => v = none ∧ h' = h) := by
  refine Ct.intro (plainFor_of_name pn13) O cx.ew ?_
  intro p_ e_ s_ m_ bl_ mt_ c_ T0 W0 hby hml hret hnm
  refine Go.st (fun t_ k_ => castTop (g' := mkF m_ 0 #[.val (.ref a), .val (.int (8 : Int32)), .unset] []) (by first | (simp [entryFrame, mkF, argsToLocals, Value.category]; done) | rfl) k_) ?_
  refine Go.st (fun _ => XS.aloadN W0.here W0.ex rfl (hb hby d22_0) rfl rfl) ?_
  show Go _ _ _ _ (T0.setTop (mkF m_ 1 #[.val (.ref a), .val (.int (8 : Int32)), .unset] [(.ref a)]))
  refine W0.getF (cx.w 115 rfl) Via.refl F_value_a (hb hby d22_1) ?_
  intro T1 W1
  show Go _ _ _ _ (T1.setTop (mkF m_ 4 #[.val (.ref a), .val (.int (8 : Int32)), .unset] [(.ref b)]))
  refine W1.alen V_b (hb hby d22_4) ?_
  refine Go.st (fun _ => XS.aloadN W1.here W1.ex rfl (hb hby d22_5) rfl rfl) ?_
  show Go _ _ _ _ (T1.setTop (mkF m_ 6 #[.val (.ref a), .val (.int (8 : Int32)), .unset] [(.ref a), (.int (16 : Int32))]))
  refine W1.getF (cx.w 117 rfl) Via.refl F_coder_a (hb hby d22_6) ?_
  intro T2 W2
  refine Go.st (fun _ => XS.ishr W2.here W2.ex rfl (hb hby d22_9) rfl) ?_
  refine Go.st (fun _ => XS.istoreN W2.here W2.ex rfl (hb hby d22_10) rfl (l' := #[.val (.ref a), .val (.int (8 : Int32)), .val (.int (16 : Int32))]) rfl) ?_
  refine Go.st (fun _ => XS.iloadN W2.here W2.ex rfl (hb hby d22_11) rfl) ?_
  show Go _ _ _ _ (T2.setTop (mkF m_ 12 #[.val (.ref a), .val (.int (8 : Int32)), .val (.int (16 : Int32))] [(.int (8 : Int32))]))
  refine Go.st (fun _ => XS.iloadN W2.here W2.ex rfl (hb hby d22_12) rfl) ?_
  refine Go.st (fun _ => XS.isub W2.here W2.ex rfl (hb hby d22_13) rfl) ?_
  refine Go.st (fun _ => XS.ifYes W2.here W2.ex rfl (pc0 := 14) (pc' := 38) rfl (hb hby d22_14) rfl ((if0 _ _).trans (flt ((by decide) : ¬ ((0 : Int32) < (-8 : Int32)))).2.2.2) (by decide) (by decide)) ?_
  show Go _ _ _ _ (T2.setTop (mkF m_ 38 #[.val (.ref a), .val (.int (8 : Int32)), .val (.int (16 : Int32))] []))
  exact W2.retV hret (hb hby d22_38) (by decide) (by decide) fun vr_ cr_ => ⟨rfl, rfl⟩
theorem ct_gb0_5 {l : Launch} {Z a0 n0 g1 gf em es} (cx : Ctx Z a0 n0 g1 gf em es) {h : Heap} (O : Old Z n0 h) (s t b : Addr) (kb : ClassId) (S_s : StrAt Z h s t ([114, 111, 108, 101, 32] : List Int32)) (V_b : Arv Z h b kb .byte 16 [(.int 0), (.int 0), (.int 0), (.int 0), (.int 0), (.int 0), (.int 0), (.int 0), (.int 0), (.int 0), (.int 0), (.int 0), (.int 0), (.int 0), (.int 0), (.int 0)] (.int 0)) (g_b : n0 ≤ b) (ne_t_b : t ≠ b) :
    Ct l Z consts_1 n0 [] Y26 jdk_42_method_147_code 4 none ({ frames := 1, cells := 0, slots := 0, locals := 18 } : Room) #[(.ref s), (.ref b), (.int (0 : Int32)), (.int (0 : Int32))] [b] h (fun v _ h' => v = none ∧ Keep h h' [b] ∧ Arv Z h' b kb .byte 16 [(.int (114 : Int32).toInt8.toInt32), (.int (111 : Int32).toInt8.toInt32), (.int (108 : Int32).toInt8.toInt32), (.int (101 : Int32).toInt8.toInt32), (.int (32 : Int32).toInt8.toInt32), (.int 0), (.int 0), (.int 0), (.int 0), (.int 0), (.int 0), (.int 0), (.int 0), (.int 0), (.int 0), (.int 0)] (.int 0)) := by
  refine Ct.intro (plainFor_of_name pn0) O cx.ew ?_
  intro p_ e_ s_ m_ bl_ mt_ c_ T0 W0 hby hml hret hnm
  refine Go.st (fun t_ k_ => castTop (g' := mkF m_ 0 #[.val (.ref s), .val (.ref b), .val (.int (0 : Int32)), .val (.int (0 : Int32))] []) (by first | (simp [entryFrame, mkF, argsToLocals, Value.category]; done) | rfl) k_) ?_
  show Go _ _ _ _ (T0.setTop (mkF m_ 0 #[.val (.ref s), .val (.ref b), .val (.int (0 : Int32)), .val (.int (0 : Int32))] []))
  have K0 : Keep h h [b] := Keep.refl _ _
  have E_s := S_s.1
  have F_coder_s := S_s.2.1
  have F_value_s := S_s.2.2.1
  obtain ⟨k_t, V_t⟩ := S_s.kb
  replace V_t : Arv Z h t k_t .byte (5 : Int32) [(.int (114 : Int32).toInt8.toInt32), (.int (111 : Int32).toInt8.toInt32), (.int (108 : Int32).toInt8.toInt32), (.int (101 : Int32).toInt8.toInt32), (.int (32 : Int32).toInt8.toInt32)] (.int 0) := V_t
  refine Go.st (fun _ => XS.aloadN W0.here W0.ex rfl (hb hby d25_0) rfl rfl) ?_
  show Go _ _ _ _ (T0.setTop (mkF m_ 1 #[.val (.ref s), .val (.ref b), .val (.int (0 : Int32)), .val (.int (0 : Int32))] [(.ref s)]))
  refine W0.callV (y := Y24) (z := Y24) (cx.w 135 rfl) (cx.w 136 rfl) (cx.w 138 rfl) (cx.w 137 rfl) (cx.w 6 rfl) (cx.w 139 rfl) (W0.nf (cx.w 138 rfl)) (by decide) E_s (ct_cod cx W0.old s t ([114, 111, 108, 101, 32] : List Int32) S_s) all0 (by decide) (Wd := 0) (by decide) (k' := 0) (n' := 0) rfl rfl (by decide) (by decide) (by rw [hml]; rfl) (a := s) (argsL := []) (rest := []) rfl (lenOf pd11 rfl) rfl (Nat.le_of_eq rfl) (hb hby d25_1) ?_
  intro v1 vm1 T1 h1 L1 W1 q1
  obtain ⟨rfl, eh_⟩ := q1
  subst h1
  refine Go.st (fun _ => XS.iloadN W1.here W1.ex rfl (hb hby d25_4) rfl) ?_
  refine Go.st (fun _ => XS.icmpNo W1.here W1.ex rfl (hb hby d25_5) rfl (teq (rfl : (0 : Int32) = (0 : Int32))).2) ?_
  refine Go.st (fun _ => XS.aloadN W1.here W1.ex rfl (hb hby d25_8) rfl rfl) ?_
  show Go _ _ _ _ (T1.setTop (mkF m_ 9 #[.val (.ref s), .val (.ref b), .val (.int (0 : Int32)), .val (.int (0 : Int32))] [(.ref s)]))
  refine W1.getF (cx.w 24 rfl) Via.refl F_value_s (hb hby d25_9) ?_
  intro T2 W2
  refine Go.st (fun _ => XS.iconst W2.here W2.ex rfl (hb hby d25_12)) ?_
  refine Go.st (fun _ => XS.aloadN W2.here W2.ex rfl (hb hby d25_13) rfl rfl) ?_
  refine Go.st (fun _ => XS.iloadN W2.here W2.ex rfl (hb hby d25_14) rfl) ?_
  show Go _ _ _ _ (T2.setTop (mkF m_ 15 #[.val (.ref s), .val (.ref b), .val (.int (0 : Int32)), .val (.int (0 : Int32))] [(.int (0 : Int32)), (.ref b), (.int (0 : Int32)), (.ref t)]))
  refine Go.st (fun _ => XS.iloadN W2.here W2.ex rfl (hb hby d25_15) rfl) ?_
  refine Go.st (fun _ => XS.ishl W2.here W2.ex rfl (hb hby d25_16) rfl) ?_
  refine Go.st (fun _ => XS.aloadN W2.here W2.ex rfl (hb hby d25_17) rfl rfl) ?_
  show Go _ _ _ _ (T2.setTop (mkF m_ 18 #[.val (.ref s), .val (.ref b), .val (.int (0 : Int32)), .val (.int (0 : Int32))] [(.ref s), (.int (0 : Int32)), (.ref b), (.int (0 : Int32)), (.ref t)]))
  refine W2.getF (cx.w 24 rfl) Via.refl F_value_s (hb hby d25_18) ?_
  intro T3 W3
  show Go _ _ _ _ (T3.setTop (mkF m_ 21 #[.val (.ref s), .val (.ref b), .val (.int (0 : Int32)), .val (.int (0 : Int32))] [(.ref t), (.int (0 : Int32)), (.ref b), (.int (0 : Int32)), (.ref t)]))
  refine W3.alen V_t (hb hby d25_21) ?_
  show Go _ _ _ _ (T3.setTop (mkF m_ 22 #[.val (.ref s), .val (.ref b), .val (.int (0 : Int32)), .val (.int (0 : Int32))] [(.int (5 : Int32)), (.int (0 : Int32)), (.ref b), (.int (0 : Int32)), (.ref t)]))
  refine W3.cpP (cx.w 164 rfl) (cx.w 167 rfl) (cx.w 165 rfl) (cx.w 166 rfl) V_t V_b rfl (by decide) (by decide) (by decide) (by decide) (by decide) (us := [(.int (114 : Int32).toInt8.toInt32), (.int (111 : Int32).toInt8.toInt32), (.int (108 : Int32).toInt8.toInt32), (.int (101 : Int32).toInt8.toInt32), (.int (32 : Int32).toInt8.toInt32)]) rfl (Nat.le_of_ble_eq_true rfl) (List.mem_of_getElem? (i := 0) rfl) g_b (by rw [hml]; rfl) (hb hby d25_22) (by decide) (Wd := 0) (Nat.le_of_eq rfl) (by decide) ?_
  intro T4 h4 L4 W4 Kc4 V_new
  have ne_s_b : s ≠ b := (Exa.neArv E_s V_b (cx.w 5 rfl))
  replace S_s := S_s.keep Kc4 (ninS ne_s_b nin0) (ninS ne_t_b nin0)
  replace E_s := E_s.keep Kc4
  replace F_coder_s := F_coder_s.keep Kc4 (ninS ne_s_b nin0)
  replace F_value_s := F_value_s.keep Kc4 (ninS ne_s_b nin0)
  replace V_t := V_t.keep Kc4 (ninS ne_t_b nin0)
  replace K0 := K0.trans Kc4 (allS (Or.inl (List.mem_of_getElem? (i := 0) rfl)) all0)
  replace V_b : Arv Z h4 b kb .byte (16 : Int32) [(.int (114 : Int32).toInt8.toInt32), (.int (111 : Int32).toInt8.toInt32), (.int (108 : Int32).toInt8.toInt32), (.int (101 : Int32).toInt8.toInt32), (.int (32 : Int32).toInt8.toInt32), (.int 0), (.int 0), (.int 0), (.int 0), (.int 0), (.int 0), (.int 0), (.int 0), (.int 0), (.int 0), (.int 0)] (.int 0) := V_new
  clear V_new
  refine Go.st (fun _ => XS.goto W4.here W4.ex rfl (pc0 := 25) (pc' := 43) rfl (hb hby d25_25) (by decide) (by decide)) ?_
  show Go _ _ _ _ (T4.setTop (mkF m_ 43 #[.val (.ref s), .val (.ref b), .val (.int (0 : Int32)), .val (.int (0 : Int32))] []))
  exact W4.retV hret (hb hby d25_43) (by decide) (by decide) fun vr_ cr_ => ⟨rfl, K0, V_b⟩
theorem ct_psa0_5 {l : Launch} {Z a0 n0 g1 gf em es} (cx : Ctx Z a0 n0 g1 gf em es) {h : Heap} (O : Old Z n0 h) (a s t b : Addr) (kb : ClassId) (E_a : Exa Z h a "java/lang/StringBuilder") (F_value_a : Fld Z h a "java/lang/AbstractStringBuilder" "value" "[B" (.ref b)) (F_coder_a : Fld Z h a "java/lang/AbstractStringBuilder" "coder" "B" (.int (0 : Int32))) (F_count_a : Fld Z h a "java/lang/AbstractStringBuilder" "count" "I" (.int (0 : Int32))) (g_a : n0 ≤ a) (S_s : StrAt Z h s t ([114, 111, 108, 101, 32] : List Int32)) (V_b : Arv Z h b kb .byte 16 [(.int 0), (.int 0), (.int 0), (.int 0), (.int 0), (.int 0), (.int 0), (.int 0), (.int 0), (.int 0), (.int 0), (.int 0), (.int 0), (.int 0), (.int 0), (.int 0)] (.int 0)) (g_b : n0 ≤ b) (ne_t_b : t ≠ b) :
    Ct l Z consts_1 n0 [] Y15 jdk_68_method_73_code 3 none ({ frames := 2, cells := 0, slots := 0, locals := 33 } : Room) #[(.ref a), (.int (0 : Int32)), (.ref s)] [b] h (fun v _ h' => v = none ∧ Keep h h' [b] ∧ Arv Z h' b kb .byte 16 [(.int (114 : Int32).toInt8.toInt32), (.int (111 : Int32).toInt8.toInt32), (.int (108 : Int32).toInt8.toInt32), (.int (101 : Int32).toInt8.toInt32), (.int (32 : Int32).toInt8.toInt32), (.int 0), (.int 0), (.int 0), (.int 0), (.int 0), (.int 0), (.int 0), (.int 0), (.int 0), (.int 0), (.int 0)] (.int 0)) := by
  refine Ct.intro (plainFor_of_name pn13) O cx.ew ?_
  intro p_ e_ s_ m_ bl_ mt_ c_ T0 W0 hby hml hret hnm
  refine Go.st (fun t_ k_ => castTop (g' := mkF m_ 0 #[.val (.ref a), .val (.int (0 : Int32)), .val (.ref s)] []) (by first | (simp [entryFrame, mkF, argsToLocals, Value.category]; done) | rfl) k_) ?_
  show Go _ _ _ _ (T0.setTop (mkF m_ 0 #[.val (.ref a), .val (.int (0 : Int32)), .val (.ref s)] []))
  have E_s := S_s.1
  have F_coder_s := S_s.2.1
  refine Go.st (fun _ => XS.aloadN W0.here W0.ex rfl (hb hby d23_0) rfl rfl) ?_
  refine Go.st (fun _ => XS.aloadN W0.here W0.ex rfl (hb hby d23_1) rfl rfl) ?_
  show Go _ _ _ _ (T0.setTop (mkF m_ 2 #[.val (.ref a), .val (.int (0 : Int32)), .val (.ref s)] [(.ref s), (.ref a)]))
  refine W0.callV (y := Y12) (z := Y12) (cx.w 153 rfl) (declares_of (cx.w 154 rfl) (cx.w 157 rfl)) (cx.w 156 rfl) (cx.w 154 rfl) (cx.w 111 rfl) (cx.w 157 rfl) (W0.nf (cx.w 156 rfl)) (by decide) E_a (ct_inf cx W0.old a b s t ([114, 111, 108, 101, 32] : List Int32) (0 : Int32) E_a F_value_a F_coder_a F_count_a S_s) all0 (by decide) (Wd := 0) (by decide) (k' := 0) (n' := 0) rfl rfl (by decide) (by decide) (by rw [hml]; rfl) (a := a) (argsL := [(.ref s)]) (rest := []) rfl (lenOf pd12 rfl) rfl (Nat.le_of_eq rfl) (hb hby d23_2) ?_
  intro v1 vm1 T1 h1 L1 W1 q1
  obtain ⟨rfl, eh_⟩ := q1
  subst h1
  refine Go.st (fun _ => XS.aloadN W1.here W1.ex rfl (hb hby d23_5) rfl rfl) ?_
  refine Go.st (fun _ => XS.aloadN W1.here W1.ex rfl (hb hby d23_6) rfl rfl) ?_
  show Go _ _ _ _ (T1.setTop (mkF m_ 7 #[.val (.ref a), .val (.int (0 : Int32)), .val (.ref s)] [(.ref a), (.ref s)]))
  refine W1.getF (cx.w 115 rfl) Via.refl F_value_a (hb hby d23_7) ?_
  intro T2 W2
  refine Go.st (fun _ => XS.iloadN W2.here W2.ex rfl (hb hby d23_10) rfl) ?_
  refine Go.st (fun _ => XS.aloadN W2.here W2.ex rfl (hb hby d23_11) rfl rfl) ?_
  show Go _ _ _ _ (T2.setTop (mkF m_ 12 #[.val (.ref a), .val (.int (0 : Int32)), .val (.ref s)] [(.ref a), (.int (0 : Int32)), (.ref b), (.ref s)]))
  refine W2.getF (cx.w 117 rfl) Via.refl F_coder_a (hb hby d23_12) ?_
  intro T3 W3
  show Go _ _ _ _ (T3.setTop (mkF m_ 15 #[.val (.ref a), .val (.int (0 : Int32)), .val (.ref s)] [(.int (0 : Int32)), (.int (0 : Int32)), (.ref b), (.ref s)]))
  refine W3.callV (y := Y26) (z := Y26) (cx.w 159 rfl) (cx.w 160 rfl) (cx.w 162 rfl) (cx.w 161 rfl) (cx.w 6 rfl) (cx.w 163 rfl) (W3.nf (cx.w 162 rfl)) (by decide) E_s (ct_gb0_5 cx W3.old s t b kb  S_s V_b g_b ne_t_b) (allS (List.mem_of_getElem? (i := 0) rfl) all0) (by decide) (Wd := 0) (by decide) (k' := 0) (n' := 0) rfl rfl (by decide) (by decide) (by rw [hml]; rfl) (a := s) (argsL := [(.ref b), (.int (0 : Int32)), (.int (0 : Int32))]) (rest := []) rfl (lenOf pd13 rfl) rfl (Nat.le_of_eq rfl) (hb hby d23_15) ?_
  intro v4 vm4 T4 h4 L4 W4 q4
  obtain ⟨rfl, K1, V_n⟩ := q4
  show Go _ _ _ _ (T4.setTop (mkF m_ 18 #[.val (.ref a), .val (.int (0 : Int32)), .val (.ref s)] []))
  exact W4.retV hret (hb hby d23_18) (by decide) (by decide) fun vr_ cr_ => ⟨rfl, K1, V_n⟩
theorem ct_aap0_5 {l : Launch} {Z a0 n0 g1 gf em es} (cx : Ctx Z a0 n0 g1 gf em es) {h : Heap} (O : Old Z n0 h) (a s t b : Addr) (kb : ClassId) (E_a : Exa Z h a "java/lang/StringBuilder") (F_value_a : Fld Z h a "java/lang/AbstractStringBuilder" "value" "[B" (.ref b)) (F_coder_a : Fld Z h a "java/lang/AbstractStringBuilder" "coder" "B" (.int (0 : Int32))) (F_count_a : Fld Z h a "java/lang/AbstractStringBuilder" "count" "I" (.int (0 : Int32))) (g_a : n0 ≤ a) (S_s : StrAt Z h s t ([114, 111, 108, 101, 32] : List Int32)) (V_b : Arv Z h b kb .byte 16 [(.int 0), (.int 0), (.int 0), (.int 0), (.int 0), (.int 0), (.int 0), (.int 0), (.int 0), (.int 0), (.int 0), (.int 0), (.int 0), (.int 0), (.int 0), (.int 0)] (.int 0)) (g_b : n0 ≤ b) (ne_t_b : t ≠ b) :
    Ct l Z consts_1 n0 [] Y9 jdk_68_method_22_code 3 (some (.object "java/lang/AbstractStringBuilder")) ({ frames := 3, cells := 0, slots := 0, locals := 47 } : Room) #[(.ref a), (.ref s)] [a, b] h (fun v _ h' => v = some (.ref a) ∧ Keep h h' [a, b] ∧ Exa Z h' a "java/lang/StringBuilder" ∧ Fld Z h' a "java/lang/AbstractStringBuilder" "value" "[B" (.ref b) ∧ Fld Z h' a "java/lang/AbstractStringBuilder" "coder" "B" (.int (0 : Int32)) ∧ Fld Z h' a "java/lang/AbstractStringBuilder" "count" "I" (.int (5 : Int32)) ∧ Arv Z h' b kb .byte 16 [(.int (114 : Int32).toInt8.toInt32), (.int (111 : Int32).toInt8.toInt32), (.int (108 : Int32).toInt8.toInt32), (.int (101 : Int32).toInt8.toInt32), (.int (32 : Int32).toInt8.toInt32), (.int 0), (.int 0), (.int 0), (.int 0), (.int 0), (.int 0), (.int 0), (.int 0), (.int 0), (.int 0), (.int 0)] (.int 0)) := by
  refine Ct.intro (plainFor_of_name pn13) O cx.ew ?_
  intro p_ e_ s_ m_ bl_ mt_ c_ T0 W0 hby hml hret hnm
  refine Go.st (fun t_ k_ => castTop (g' := mkF m_ 0 #[.val (.ref a), .val (.ref s), .unset] []) (by first | (simp [entryFrame, mkF, argsToLocals, Value.category]; done) | rfl) k_) ?_
  show Go _ _ _ _ (T0.setTop (mkF m_ 0 #[.val (.ref a), .val (.ref s), .unset] []))
  have K0 : Keep h h [a, b] := Keep.refl _ _
  have E_s := S_s.1
  have F_coder_s := S_s.2.1
  refine Go.st (fun _ => XS.aloadN W0.here W0.ex rfl (hb hby d19_0) rfl rfl) ?_
  refine Go.st (fun _ => XS.ifnonnullYes W0.here W0.ex rfl (pc0 := 1) (pc' := 9) rfl (hb hby d19_1) rfl (by decide) (by decide)) ?_
  refine Go.st (fun _ => XS.aloadN W0.here W0.ex rfl (hb hby d19_9) rfl rfl) ?_
  show Go _ _ _ _ (T0.setTop (mkF m_ 10 #[.val (.ref a), .val (.ref s), .unset] [(.ref s)]))
  obtain ⟨k1_1, V1_1⟩ := S_s.kb
  refine W0.libV (y := Y27) (z := Y27) (cx.w 130 rfl) (cx.w 131 rfl) (cx.w 133 rfl) (cx.w 132 rfl) (W0.nf (cx.w 133 rfl)) (by decide) E_s (Q := fun v h' L' => v = some (.int (Int32.ofNat (([114, 111, 108, 101, 32] : List Int32)).length)) ∧ L' = [] ∧ h' = h) (ws := []) (Wd := 0) (ck := 0) (cn := 0) (StrChars.Road.lenW (W := 0) W0.hZ cx.lw (kI := 4) (cx.w 5 rfl) (cs := ([114, 111, 108, 101, 32] : List Int32)) S_s.1 S_s.2.2.1 S_s.2.1 V1_1 (StrChars.Road.codOf rfl fun c hc => (S_s.ch c hc).2) S_s.ch.up (cx.cmp.ext W0.e0) cx.g1 S_s.le (by decide) (by decide)) (fun v h' L' q => ⟨by rw [q.2.1]; exact Fr.nil _, by rw [q.2.2]; exact Keep.refl _ _⟩) all0 all0 (k' := 0) (n' := 0) rfl rfl (by decide) (by decide) (by rw [hml]; rfl) (a := s) (argsL := []) (rest := []) rfl (lenOf pd14 rfl) rfl (Nat.le_of_eq rfl) (hb hby d19_10) ?_
  intro v2 T2 h2 M2 L2 W2 q2
  obtain ⟨rfl, -, eh_⟩ := q2
  subst h2
  refine Go.st (fun _ => XS.istoreN W2.here W2.ex rfl (hb hby d19_13) rfl (l' := #[.val (.ref a), .val (.ref s), .val (.int (5 : Int32))]) rfl) ?_
  refine Go.st (fun _ => XS.aloadN W2.here W2.ex rfl (hb hby d19_14) rfl rfl) ?_
  refine Go.st (fun _ => XS.aloadN W2.here W2.ex rfl (hb hby d19_15) rfl rfl) ?_
  show Go _ _ _ _ (T2.setTop (mkF m_ 16 #[.val (.ref a), .val (.ref s), .val (.int (5 : Int32))] [(.ref a), (.ref a)]))
  refine W2.getF (cx.w 141 rfl) Via.refl F_count_a (hb hby d19_16) ?_
  intro T3 W3
  refine Go.st (fun _ => XS.iloadN W3.here W3.ex rfl (hb hby d19_19) rfl) ?_
  refine Go.st (fun _ => XS.iadd W3.here W3.ex rfl (hb hby d19_20) rfl) ?_
  show Go _ _ _ _ (T3.setTop (mkF m_ 21 #[.val (.ref a), .val (.ref s), .val (.int (5 : Int32))] [(.int (5 : Int32)), (.ref a)]))
  refine W3.callV (y := Y10) (z := Y10) (cx.w 143 rfl) (declares_of (cx.w 144 rfl) (cx.w 147 rfl)) (cx.w 146 rfl) (cx.w 144 rfl) (cx.w 111 rfl) (cx.w 147 rfl) (W3.nf (cx.w 146 rfl)) (by decide) E_a (ct_ens5 cx W3.old a b kb (0 : Int32) [(.int 0), (.int 0), (.int 0), (.int 0), (.int 0), (.int 0), (.int 0), (.int 0), (.int 0), (.int 0), (.int 0), (.int 0), (.int 0), (.int 0), (.int 0), (.int 0)] E_a F_value_a F_coder_a F_count_a V_b) all0 (by decide) (Wd := 0) (by decide) (k' := 0) (n' := 0) rfl rfl (by decide) (by decide) (by rw [hml]; rfl) (a := a) (argsL := [(.int (5 : Int32))]) (rest := []) rfl (lenOf pd10 rfl) rfl (Nat.le_of_eq rfl) (hb hby d19_21) ?_
  intro v4 vm4 T4 h4 L4 W4 q4
  obtain ⟨rfl, eh_⟩ := q4
  subst h4
  refine Go.st (fun _ => XS.aloadN W4.here W4.ex rfl (hb hby d19_24) rfl rfl) ?_
  refine Go.st (fun _ => XS.aloadN W4.here W4.ex rfl (hb hby d19_25) rfl rfl) ?_
  show Go _ _ _ _ (T4.setTop (mkF m_ 26 #[.val (.ref a), .val (.ref s), .val (.int (5 : Int32))] [(.ref a), (.ref a)]))
  refine W4.getF (cx.w 141 rfl) Via.refl F_count_a (hb hby d19_26) ?_
  intro T5 W5
  refine Go.st (fun _ => XS.aloadN W5.here W5.ex rfl (hb hby d19_29) rfl rfl) ?_
  show Go _ _ _ _ (T5.setTop (mkF m_ 30 #[.val (.ref a), .val (.ref s), .val (.int (5 : Int32))] [(.ref s), (.int (0 : Int32)), (.ref a)]))
  refine W5.callV (y := Y15) (z := Y15) (cx.w 148 rfl) (declares_of (cx.w 149 rfl) (cx.w 152 rfl)) (cx.w 151 rfl) (cx.w 149 rfl) (cx.w 111 rfl) (cx.w 152 rfl) (W5.nf (cx.w 151 rfl)) (by decide) E_a (ct_psa0_5 cx W5.old a s t b kb  E_a F_value_a F_coder_a F_count_a g_a S_s V_b g_b ne_t_b) (allS (List.mem_of_getElem? (i := 1) rfl) all0) (by decide) (Wd := 0) (by decide) (k' := 0) (n' := 0) rfl rfl (by decide) (by decide) (by rw [hml]; rfl) (a := a) (argsL := [(.int (0 : Int32)), (.ref s)]) (rest := []) rfl (lenOf pd15 rfl) rfl (Nat.le_of_eq rfl) (hb hby d19_30) ?_
  intro v6 vm6 T6 h6 L6 W6 q6
  obtain ⟨rfl, K1, V_n⟩ := q6
  have ne_a_b : a ≠ b := (Exa.neArv E_a V_b (cx.w 102 rfl))
  have ne_s_b : s ≠ b := (Exa.neArv E_s V_b (cx.w 5 rfl))
  replace E_a := E_a.keep K1
  replace F_value_a := F_value_a.keep K1 (ninS ne_a_b nin0)
  replace F_coder_a := F_coder_a.keep K1 (ninS ne_a_b nin0)
  replace F_count_a := F_count_a.keep K1 (ninS ne_a_b nin0)
  replace S_s := S_s.keep K1 (ninS ne_s_b nin0) (ninS ne_t_b nin0)
  replace E_s := E_s.keep K1
  replace F_coder_s := F_coder_s.keep K1 (ninS ne_s_b nin0)
  replace K0 := K0.trans K1 (allS (Or.inl (List.mem_of_getElem? (i := 1) rfl)) all0)
  refine Go.st (fun _ => XS.aloadN W6.here W6.ex rfl (hb hby d19_33) rfl rfl) ?_
  refine Go.st (fun _ => XS.dup W6.here W6.ex rfl (hb hby d19_34) rfl rfl) ?_
  show Go _ _ _ _ (T6.setTop (mkF m_ 35 #[.val (.ref a), .val (.ref s), .val (.int (5 : Int32))] [(.ref a), (.ref a)]))
  refine W6.getF (cx.w 141 rfl) Via.refl F_count_a (hb hby d19_35) ?_
  intro T7 W7
  refine Go.st (fun _ => XS.iloadN W7.here W7.ex rfl (hb hby d19_38) rfl) ?_
  refine Go.st (fun _ => XS.iadd W7.here W7.ex rfl (hb hby d19_39) rfl) ?_
  show Go _ _ _ _ (T7.setTop (mkF m_ 40 #[.val (.ref a), .val (.ref s), .val (.int (5 : Int32))] [(.int (5 : Int32)), (.ref a)]))
  refine W7.putF (cx.w 141 rfl) Via.refl F_count_a E_a (Or.inl (cx.w 142 rfl)) (cx.w 102 rfl) (ty := .int) (by decide) rfl rfl (List.mem_of_getElem? (i := 0) rfl) g_a (hb hby d19_40) ?_
  intro T8 h8 L8 W8 w8
  have ne_s_a : s ≠ a := (ne_exa E_s E_a (by decide))
  have ne_t_a : t ≠ a := (Ne.symm (Ne.symm (S_s.neT E_a (cx.w 102 rfl))))
  replace E_a := E_a.wr w8
  replace F_value_a := F_value_a.other w8 (Or.inr (slot_ne (Or.inl (cx.w 116 rfl)) (Or.inl (cx.w 142 rfl)) (by decide) (t := (.array .byte)) (t' := .int) (by decide) (by decide)))
  replace F_coder_a := F_coder_a.other w8 (Or.inr (slot_ne (Or.inl (cx.w 118 rfl)) (Or.inl (cx.w 142 rfl)) (by decide) (t := .byte) (t' := .int) (by decide) (by decide)))
  replace F_count_a := F_count_a.same w8
  replace S_s := S_s.wr w8 ne_s_a ne_t_a
  replace E_s := E_s.wr w8
  replace F_coder_s := F_coder_s.other w8 (Or.inl ne_s_a)
  replace V_n := V_n.other w8 (Ne.symm ne_a_b)
  replace K0 := K0.wr w8 (Or.inl (List.mem_of_getElem? (i := 0) rfl))
  refine Go.st (fun _ => XS.aloadN W8.here W8.ex rfl (hb hby d19_43) rfl rfl) ?_
  show Go _ _ _ _ (T8.setTop (mkF m_ 44 #[.val (.ref a), .val (.ref s), .val (.int (5 : Int32))] [(.ref a)]))
  exact W8.retA hret rfl rfl (hb hby d19_44) (by decide) (by decide) fun vr_ cr_ => ⟨rfl, K0, E_a, F_value_a, F_coder_a, F_count_a, V_n⟩
theorem ct_app0_5 {l : Launch} {Z a0 n0 g1 gf em es} (cx : Ctx Z a0 n0 g1 gf em es) {h : Heap} (O : Old Z n0 h) (a s t b : Addr) (kb : ClassId) (E_a : Exa Z h a "java/lang/StringBuilder") (F_value_a : Fld Z h a "java/lang/AbstractStringBuilder" "value" "[B" (.ref b)) (F_coder_a : Fld Z h a "java/lang/AbstractStringBuilder" "coder" "B" (.int (0 : Int32))) (F_count_a : Fld Z h a "java/lang/AbstractStringBuilder" "count" "I" (.int (0 : Int32))) (g_a : n0 ≤ a) (S_s : StrAt Z h s t ([114, 111, 108, 101, 32] : List Int32)) (V_b : Arv Z h b kb .byte 16 [(.int 0), (.int 0), (.int 0), (.int 0), (.int 0), (.int 0), (.int 0), (.int 0), (.int 0), (.int 0), (.int 0), (.int 0), (.int 0), (.int 0), (.int 0), (.int 0)] (.int 0)) (g_b : n0 ≤ b) (ne_t_b : t ≠ b) :
    Ct l Z consts_1 n0 [] Y29 jdk_67_method_7_code 2 (some (.object "java/lang/StringBuilder")) ({ frames := 4, cells := 0, slots := 0, locals := 61 } : Room) #[(.ref a), (.ref s)] [a, b] h (fun v _ h' => v = some (.ref a) ∧ Keep h h' [a, b] ∧ Exa Z h' a "java/lang/StringBuilder" ∧ Fld Z h' a "java/lang/AbstractStringBuilder" "value" "[B" (.ref b) ∧ Fld Z h' a "java/lang/AbstractStringBuilder" "coder" "B" (.int (0 : Int32)) ∧ Fld Z h' a "java/lang/AbstractStringBuilder" "count" "I" (.int (5 : Int32)) ∧ Arv Z h' b kb .byte 16 [(.int (114 : Int32).toInt8.toInt32), (.int (111 : Int32).toInt8.toInt32), (.int (108 : Int32).toInt8.toInt32), (.int (101 : Int32).toInt8.toInt32), (.int (32 : Int32).toInt8.toInt32), (.int 0), (.int 0), (.int 0), (.int 0), (.int 0), (.int 0), (.int 0), (.int 0), (.int 0), (.int 0), (.int 0)] (.int 0)) := by
  refine Ct.intro (plainFor_of_name pn14) O cx.ew ?_
  intro p_ e_ s_ m_ bl_ mt_ c_ T0 W0 hby hml hret hnm
  refine Go.st (fun t_ k_ => castTop (g' := mkF m_ 0 #[.val (.ref a), .val (.ref s)] []) (by first | (simp [entryFrame, mkF, argsToLocals, Value.category]; done) | rfl) k_) ?_
  refine Go.st (fun _ => XS.aloadN W0.here W0.ex rfl (hb hby d18_0) rfl rfl) ?_
  refine Go.st (fun _ => XS.aloadN W0.here W0.ex rfl (hb hby d18_1) rfl rfl) ?_
  show Go _ _ _ _ (T0.setTop (mkF m_ 2 #[.val (.ref a), .val (.ref s)] [(.ref s), (.ref a)]))
  refine W0.callU (y := Y9) (y' := Y10) (cx.w 125 rfl) (cx.w 146 rfl) rfl (cx.w 127 rfl) (cx.w 126 rfl) (cx.w 111 rfl) (cx.w 129 rfl) (by decide) (by decide) (Ins.self E_a) (ct_aap0_5 cx W0.old a s t b kb  E_a F_value_a F_coder_a F_count_a g_a S_s V_b g_b ne_t_b) (allS (List.mem_of_getElem? (i := 0) rfl) (allS (List.mem_of_getElem? (i := 1) rfl) all0)) (by decide) (Wd := 0) (by decide) (k' := 0) (n' := 0) rfl rfl (by decide) (by decide) (by rw [hml]; rfl) (a := a) (argsL := [(.ref s)]) (rest := []) rfl (lenOf pd16 rfl) rfl (Nat.le_of_eq rfl) (hb hby d18_2) ?_
  intro v1 vm1 T1 h1 L1 W1 q1
  obtain ⟨rfl, K1, E_n, G1, G2, G3, V_n⟩ := q1
  refine Go.st (fun _ => XS.pop W1.here W1.ex rfl (hb hby d18_5) rfl rfl) ?_
  refine Go.st (fun _ => XS.aloadN W1.here W1.ex rfl (hb hby d18_6) rfl rfl) ?_
  show Go _ _ _ _ (T1.setTop (mkF m_ 7 #[.val (.ref a), .val (.ref s)] [(.ref a)]))
  exact W1.retA hret rfl rfl (hb hby d18_7) (by decide) (by decide) fun vr_ cr_ => ⟨rfl, K1, E_n, G1, G2, G3, V_n⟩
theorem ct_gb5_0 {l : Launch} {Z a0 n0 g1 gf em es} (cx : Ctx Z a0 n0 g1 gf em es) {h : Heap} (O : Old Z n0 h) (s t b : Addr) (kb : ClassId) (S_s : StrAt Z h s t ([] : List Int32)) (V_b : Arv Z h b kb .byte 16 [(.int (114 : Int32).toInt8.toInt32), (.int (111 : Int32).toInt8.toInt32), (.int (108 : Int32).toInt8.toInt32), (.int (101 : Int32).toInt8.toInt32), (.int (32 : Int32).toInt8.toInt32), (.int 0), (.int 0), (.int 0), (.int 0), (.int 0), (.int 0), (.int 0), (.int 0), (.int 0), (.int 0), (.int 0)] (.int 0)) (g_b : n0 ≤ b) (ne_t_b : t ≠ b) :
    Ct l Z consts_1 n0 [] Y26 jdk_42_method_147_code 4 none ({ frames := 1, cells := 0, slots := 0, locals := 18 } : Room) #[(.ref s), (.ref b), (.int (5 : Int32)), (.int (0 : Int32))] [b] h (fun v _ h' => v = none ∧ Keep h h' [b] ∧ Arv Z h' b kb .byte 16 [(.int (114 : Int32).toInt8.toInt32), (.int (111 : Int32).toInt8.toInt32), (.int (108 : Int32).toInt8.toInt32), (.int (101 : Int32).toInt8.toInt32), (.int (32 : Int32).toInt8.toInt32), (.int 0), (.int 0), (.int 0), (.int 0), (.int 0), (.int 0), (.int 0), (.int 0), (.int 0), (.int 0), (.int 0)] (.int 0)) := by
  refine Ct.intro (plainFor_of_name pn0) O cx.ew ?_
  intro p_ e_ s_ m_ bl_ mt_ c_ T0 W0 hby hml hret hnm
  refine Go.st (fun t_ k_ => castTop (g' := mkF m_ 0 #[.val (.ref s), .val (.ref b), .val (.int (5 : Int32)), .val (.int (0 : Int32))] []) (by first | (simp [entryFrame, mkF, argsToLocals, Value.category]; done) | rfl) k_) ?_
  show Go _ _ _ _ (T0.setTop (mkF m_ 0 #[.val (.ref s), .val (.ref b), .val (.int (5 : Int32)), .val (.int (0 : Int32))] []))
  have K0 : Keep h h [b] := Keep.refl _ _
  have E_s := S_s.1
  have F_coder_s := S_s.2.1
  have F_value_s := S_s.2.2.1
  obtain ⟨k_t, V_t⟩ := S_s.kb
  replace V_t : Arv Z h t k_t .byte (0 : Int32) [] (.int 0) := V_t
  refine Go.st (fun _ => XS.aloadN W0.here W0.ex rfl (hb hby d25_0) rfl rfl) ?_
  show Go _ _ _ _ (T0.setTop (mkF m_ 1 #[.val (.ref s), .val (.ref b), .val (.int (5 : Int32)), .val (.int (0 : Int32))] [(.ref s)]))
  refine W0.callV (y := Y24) (z := Y24) (cx.w 135 rfl) (cx.w 136 rfl) (cx.w 138 rfl) (cx.w 137 rfl) (cx.w 6 rfl) (cx.w 139 rfl) (W0.nf (cx.w 138 rfl)) (by decide) E_s (ct_cod cx W0.old s t ([] : List Int32) S_s) all0 (by decide) (Wd := 0) (by decide) (k' := 0) (n' := 0) rfl rfl (by decide) (by decide) (by rw [hml]; rfl) (a := s) (argsL := []) (rest := []) rfl (lenOf pd11 rfl) rfl (Nat.le_of_eq rfl) (hb hby d25_1) ?_
  intro v1 vm1 T1 h1 L1 W1 q1
  obtain ⟨rfl, eh_⟩ := q1
  subst h1
  refine Go.st (fun _ => XS.iloadN W1.here W1.ex rfl (hb hby d25_4) rfl) ?_
  refine Go.st (fun _ => XS.icmpNo W1.here W1.ex rfl (hb hby d25_5) rfl (teq (rfl : (0 : Int32) = (0 : Int32))).2) ?_
  refine Go.st (fun _ => XS.aloadN W1.here W1.ex rfl (hb hby d25_8) rfl rfl) ?_
  show Go _ _ _ _ (T1.setTop (mkF m_ 9 #[.val (.ref s), .val (.ref b), .val (.int (5 : Int32)), .val (.int (0 : Int32))] [(.ref s)]))
  refine W1.getF (cx.w 24 rfl) Via.refl F_value_s (hb hby d25_9) ?_
  intro T2 W2
  refine Go.st (fun _ => XS.iconst W2.here W2.ex rfl (hb hby d25_12)) ?_
  refine Go.st (fun _ => XS.aloadN W2.here W2.ex rfl (hb hby d25_13) rfl rfl) ?_
  refine Go.st (fun _ => XS.iloadN W2.here W2.ex rfl (hb hby d25_14) rfl) ?_
  show Go _ _ _ _ (T2.setTop (mkF m_ 15 #[.val (.ref s), .val (.ref b), .val (.int (5 : Int32)), .val (.int (0 : Int32))] [(.int (5 : Int32)), (.ref b), (.int (0 : Int32)), (.ref t)]))
  refine Go.st (fun _ => XS.iloadN W2.here W2.ex rfl (hb hby d25_15) rfl) ?_
  refine Go.st (fun _ => XS.ishl W2.here W2.ex rfl (hb hby d25_16) rfl) ?_
  refine Go.st (fun _ => XS.aloadN W2.here W2.ex rfl (hb hby d25_17) rfl rfl) ?_
  show Go _ _ _ _ (T2.setTop (mkF m_ 18 #[.val (.ref s), .val (.ref b), .val (.int (5 : Int32)), .val (.int (0 : Int32))] [(.ref s), (.int (5 : Int32)), (.ref b), (.int (0 : Int32)), (.ref t)]))
  refine W2.getF (cx.w 24 rfl) Via.refl F_value_s (hb hby d25_18) ?_
  intro T3 W3
  show Go _ _ _ _ (T3.setTop (mkF m_ 21 #[.val (.ref s), .val (.ref b), .val (.int (5 : Int32)), .val (.int (0 : Int32))] [(.ref t), (.int (5 : Int32)), (.ref b), (.int (0 : Int32)), (.ref t)]))
  refine W3.alen V_t (hb hby d25_21) ?_
  show Go _ _ _ _ (T3.setTop (mkF m_ 22 #[.val (.ref s), .val (.ref b), .val (.int (5 : Int32)), .val (.int (0 : Int32))] [(.int (0 : Int32)), (.int (5 : Int32)), (.ref b), (.int (0 : Int32)), (.ref t)]))
  refine W3.cpP (cx.w 164 rfl) (cx.w 167 rfl) (cx.w 165 rfl) (cx.w 166 rfl) V_t V_b rfl (by decide) (by decide) (by decide) (by decide) (by decide) (us := []) rfl (Nat.le_of_ble_eq_true rfl) (List.mem_of_getElem? (i := 0) rfl) g_b (by rw [hml]; rfl) (hb hby d25_22) (by decide) (Wd := 0) (Nat.le_of_eq rfl) (by decide) ?_
  intro T4 h4 L4 W4 Kc4 V_new
  have ne_s_b : s ≠ b := (Exa.neArv E_s V_b (cx.w 5 rfl))
  replace S_s := S_s.keep Kc4 (ninS ne_s_b nin0) (ninS ne_t_b nin0)
  replace E_s := E_s.keep Kc4
  replace F_coder_s := F_coder_s.keep Kc4 (ninS ne_s_b nin0)
  replace F_value_s := F_value_s.keep Kc4 (ninS ne_s_b nin0)
  replace V_t := V_t.keep Kc4 (ninS ne_t_b nin0)
  replace K0 := K0.trans Kc4 (allS (Or.inl (List.mem_of_getElem? (i := 0) rfl)) all0)
  replace V_b : Arv Z h4 b kb .byte (16 : Int32) [(.int (114 : Int32).toInt8.toInt32), (.int (111 : Int32).toInt8.toInt32), (.int (108 : Int32).toInt8.toInt32), (.int (101 : Int32).toInt8.toInt32), (.int (32 : Int32).toInt8.toInt32), (.int 0), (.int 0), (.int 0), (.int 0), (.int 0), (.int 0), (.int 0), (.int 0), (.int 0), (.int 0), (.int 0)] (.int 0) := V_new
  clear V_new
  refine Go.st (fun _ => XS.goto W4.here W4.ex rfl (pc0 := 25) (pc' := 43) rfl (hb hby d25_25) (by decide) (by decide)) ?_
  show Go _ _ _ _ (T4.setTop (mkF m_ 43 #[.val (.ref s), .val (.ref b), .val (.int (5 : Int32)), .val (.int (0 : Int32))] []))
  exact W4.retV hret (hb hby d25_43) (by decide) (by decide) fun vr_ cr_ => ⟨rfl, K0, V_b⟩
theorem ct_psa5_0 {l : Launch} {Z a0 n0 g1 gf em es} (cx : Ctx Z a0 n0 g1 gf em es) {h : Heap} (O : Old Z n0 h) (a s t b : Addr) (kb : ClassId) (E_a : Exa Z h a "java/lang/StringBuilder") (F_value_a : Fld Z h a "java/lang/AbstractStringBuilder" "value" "[B" (.ref b)) (F_coder_a : Fld Z h a "java/lang/AbstractStringBuilder" "coder" "B" (.int (0 : Int32))) (F_count_a : Fld Z h a "java/lang/AbstractStringBuilder" "count" "I" (.int (5 : Int32))) (g_a : n0 ≤ a) (S_s : StrAt Z h s t ([] : List Int32)) (V_b : Arv Z h b kb .byte 16 [(.int (114 : Int32).toInt8.toInt32), (.int (111 : Int32).toInt8.toInt32), (.int (108 : Int32).toInt8.toInt32), (.int (101 : Int32).toInt8.toInt32), (.int (32 : Int32).toInt8.toInt32), (.int 0), (.int 0), (.int 0), (.int 0), (.int 0), (.int 0), (.int 0), (.int 0), (.int 0), (.int 0), (.int 0)] (.int 0)) (g_b : n0 ≤ b) (ne_t_b : t ≠ b) :
    Ct l Z consts_1 n0 [] Y15 jdk_68_method_73_code 3 none ({ frames := 2, cells := 0, slots := 0, locals := 33 } : Room) #[(.ref a), (.int (5 : Int32)), (.ref s)] [b] h (fun v _ h' => v = none ∧ Keep h h' [b] ∧ Arv Z h' b kb .byte 16 [(.int (114 : Int32).toInt8.toInt32), (.int (111 : Int32).toInt8.toInt32), (.int (108 : Int32).toInt8.toInt32), (.int (101 : Int32).toInt8.toInt32), (.int (32 : Int32).toInt8.toInt32), (.int 0), (.int 0), (.int 0), (.int 0), (.int 0), (.int 0), (.int 0), (.int 0), (.int 0), (.int 0), (.int 0)] (.int 0)) := by
  refine Ct.intro (plainFor_of_name pn13) O cx.ew ?_
  intro p_ e_ s_ m_ bl_ mt_ c_ T0 W0 hby hml hret hnm
  refine Go.st (fun t_ k_ => castTop (g' := mkF m_ 0 #[.val (.ref a), .val (.int (5 : Int32)), .val (.ref s)] []) (by first | (simp [entryFrame, mkF, argsToLocals, Value.category]; done) | rfl) k_) ?_
  show Go _ _ _ _ (T0.setTop (mkF m_ 0 #[.val (.ref a), .val (.int (5 : Int32)), .val (.ref s)] []))
  have E_s := S_s.1
  have F_coder_s := S_s.2.1
  refine Go.st (fun _ => XS.aloadN W0.here W0.ex rfl (hb hby d23_0) rfl rfl) ?_
  refine Go.st (fun _ => XS.aloadN W0.here W0.ex rfl (hb hby d23_1) rfl rfl) ?_
  show Go _ _ _ _ (T0.setTop (mkF m_ 2 #[.val (.ref a), .val (.int (5 : Int32)), .val (.ref s)] [(.ref s), (.ref a)]))
  refine W0.callV (y := Y12) (z := Y12) (cx.w 153 rfl) (declares_of (cx.w 154 rfl) (cx.w 157 rfl)) (cx.w 156 rfl) (cx.w 154 rfl) (cx.w 111 rfl) (cx.w 157 rfl) (W0.nf (cx.w 156 rfl)) (by decide) E_a (ct_inf cx W0.old a b s t ([] : List Int32) (5 : Int32) E_a F_value_a F_coder_a F_count_a S_s) all0 (by decide) (Wd := 0) (by decide) (k' := 0) (n' := 0) rfl rfl (by decide) (by decide) (by rw [hml]; rfl) (a := a) (argsL := [(.ref s)]) (rest := []) rfl (lenOf pd12 rfl) rfl (Nat.le_of_eq rfl) (hb hby d23_2) ?_
  intro v1 vm1 T1 h1 L1 W1 q1
  obtain ⟨rfl, eh_⟩ := q1
  subst h1
  refine Go.st (fun _ => XS.aloadN W1.here W1.ex rfl (hb hby d23_5) rfl rfl) ?_
  refine Go.st (fun _ => XS.aloadN W1.here W1.ex rfl (hb hby d23_6) rfl rfl) ?_
  show Go _ _ _ _ (T1.setTop (mkF m_ 7 #[.val (.ref a), .val (.int (5 : Int32)), .val (.ref s)] [(.ref a), (.ref s)]))
  refine W1.getF (cx.w 115 rfl) Via.refl F_value_a (hb hby d23_7) ?_
  intro T2 W2
  refine Go.st (fun _ => XS.iloadN W2.here W2.ex rfl (hb hby d23_10) rfl) ?_
  refine Go.st (fun _ => XS.aloadN W2.here W2.ex rfl (hb hby d23_11) rfl rfl) ?_
  show Go _ _ _ _ (T2.setTop (mkF m_ 12 #[.val (.ref a), .val (.int (5 : Int32)), .val (.ref s)] [(.ref a), (.int (5 : Int32)), (.ref b), (.ref s)]))
  refine W2.getF (cx.w 117 rfl) Via.refl F_coder_a (hb hby d23_12) ?_
  intro T3 W3
  show Go _ _ _ _ (T3.setTop (mkF m_ 15 #[.val (.ref a), .val (.int (5 : Int32)), .val (.ref s)] [(.int (0 : Int32)), (.int (5 : Int32)), (.ref b), (.ref s)]))
  refine W3.callV (y := Y26) (z := Y26) (cx.w 159 rfl) (cx.w 160 rfl) (cx.w 162 rfl) (cx.w 161 rfl) (cx.w 6 rfl) (cx.w 163 rfl) (W3.nf (cx.w 162 rfl)) (by decide) E_s (ct_gb5_0 cx W3.old s t b kb  S_s V_b g_b ne_t_b) (allS (List.mem_of_getElem? (i := 0) rfl) all0) (by decide) (Wd := 0) (by decide) (k' := 0) (n' := 0) rfl rfl (by decide) (by decide) (by rw [hml]; rfl) (a := s) (argsL := [(.ref b), (.int (5 : Int32)), (.int (0 : Int32))]) (rest := []) rfl (lenOf pd13 rfl) rfl (Nat.le_of_eq rfl) (hb hby d23_15) ?_
  intro v4 vm4 T4 h4 L4 W4 q4
  obtain ⟨rfl, K1, V_n⟩ := q4
  show Go _ _ _ _ (T4.setTop (mkF m_ 18 #[.val (.ref a), .val (.int (5 : Int32)), .val (.ref s)] []))
  exact W4.retV hret (hb hby d23_18) (by decide) (by decide) fun vr_ cr_ => ⟨rfl, K1, V_n⟩
theorem ct_aap5_0 {l : Launch} {Z a0 n0 g1 gf em es} (cx : Ctx Z a0 n0 g1 gf em es) {h : Heap} (O : Old Z n0 h) (a s t b : Addr) (kb : ClassId) (E_a : Exa Z h a "java/lang/StringBuilder") (F_value_a : Fld Z h a "java/lang/AbstractStringBuilder" "value" "[B" (.ref b)) (F_coder_a : Fld Z h a "java/lang/AbstractStringBuilder" "coder" "B" (.int (0 : Int32))) (F_count_a : Fld Z h a "java/lang/AbstractStringBuilder" "count" "I" (.int (5 : Int32))) (g_a : n0 ≤ a) (S_s : StrAt Z h s t ([] : List Int32)) (V_b : Arv Z h b kb .byte 16 [(.int (114 : Int32).toInt8.toInt32), (.int (111 : Int32).toInt8.toInt32), (.int (108 : Int32).toInt8.toInt32), (.int (101 : Int32).toInt8.toInt32), (.int (32 : Int32).toInt8.toInt32), (.int 0), (.int 0), (.int 0), (.int 0), (.int 0), (.int 0), (.int 0), (.int 0), (.int 0), (.int 0), (.int 0)] (.int 0)) (g_b : n0 ≤ b) (ne_t_b : t ≠ b) :
    Ct l Z consts_1 n0 [] Y9 jdk_68_method_22_code 3 (some (.object "java/lang/AbstractStringBuilder")) ({ frames := 3, cells := 0, slots := 0, locals := 47 } : Room) #[(.ref a), (.ref s)] [a, b] h (fun v _ h' => v = some (.ref a) ∧ Keep h h' [a, b] ∧ Exa Z h' a "java/lang/StringBuilder" ∧ Fld Z h' a "java/lang/AbstractStringBuilder" "value" "[B" (.ref b) ∧ Fld Z h' a "java/lang/AbstractStringBuilder" "coder" "B" (.int (0 : Int32)) ∧ Fld Z h' a "java/lang/AbstractStringBuilder" "count" "I" (.int (5 : Int32)) ∧ Arv Z h' b kb .byte 16 [(.int (114 : Int32).toInt8.toInt32), (.int (111 : Int32).toInt8.toInt32), (.int (108 : Int32).toInt8.toInt32), (.int (101 : Int32).toInt8.toInt32), (.int (32 : Int32).toInt8.toInt32), (.int 0), (.int 0), (.int 0), (.int 0), (.int 0), (.int 0), (.int 0), (.int 0), (.int 0), (.int 0), (.int 0)] (.int 0)) := by
  refine Ct.intro (plainFor_of_name pn13) O cx.ew ?_
  intro p_ e_ s_ m_ bl_ mt_ c_ T0 W0 hby hml hret hnm
  refine Go.st (fun t_ k_ => castTop (g' := mkF m_ 0 #[.val (.ref a), .val (.ref s), .unset] []) (by first | (simp [entryFrame, mkF, argsToLocals, Value.category]; done) | rfl) k_) ?_
  show Go _ _ _ _ (T0.setTop (mkF m_ 0 #[.val (.ref a), .val (.ref s), .unset] []))
  have K0 : Keep h h [a, b] := Keep.refl _ _
  have E_s := S_s.1
  have F_coder_s := S_s.2.1
  refine Go.st (fun _ => XS.aloadN W0.here W0.ex rfl (hb hby d19_0) rfl rfl) ?_
  refine Go.st (fun _ => XS.ifnonnullYes W0.here W0.ex rfl (pc0 := 1) (pc' := 9) rfl (hb hby d19_1) rfl (by decide) (by decide)) ?_
  refine Go.st (fun _ => XS.aloadN W0.here W0.ex rfl (hb hby d19_9) rfl rfl) ?_
  show Go _ _ _ _ (T0.setTop (mkF m_ 10 #[.val (.ref a), .val (.ref s), .unset] [(.ref s)]))
  obtain ⟨k1_1, V1_1⟩ := S_s.kb
  refine W0.libV (y := Y27) (z := Y27) (cx.w 130 rfl) (cx.w 131 rfl) (cx.w 133 rfl) (cx.w 132 rfl) (W0.nf (cx.w 133 rfl)) (by decide) E_s (Q := fun v h' L' => v = some (.int (Int32.ofNat (([] : List Int32)).length)) ∧ L' = [] ∧ h' = h) (ws := []) (Wd := 0) (ck := 0) (cn := 0) (StrChars.Road.lenW (W := 0) W0.hZ cx.lw (kI := 4) (cx.w 5 rfl) (cs := ([] : List Int32)) S_s.1 S_s.2.2.1 S_s.2.1 V1_1 (StrChars.Road.codOf rfl fun c hc => (S_s.ch c hc).2) S_s.ch.up (cx.cmp.ext W0.e0) cx.g1 S_s.le (by decide) (by decide)) (fun v h' L' q => ⟨by rw [q.2.1]; exact Fr.nil _, by rw [q.2.2]; exact Keep.refl _ _⟩) all0 all0 (k' := 0) (n' := 0) rfl rfl (by decide) (by decide) (by rw [hml]; rfl) (a := s) (argsL := []) (rest := []) rfl (lenOf pd14 rfl) rfl (Nat.le_of_eq rfl) (hb hby d19_10) ?_
  intro v2 T2 h2 M2 L2 W2 q2
  obtain ⟨rfl, -, eh_⟩ := q2
  subst h2
  refine Go.st (fun _ => XS.istoreN W2.here W2.ex rfl (hb hby d19_13) rfl (l' := #[.val (.ref a), .val (.ref s), .val (.int (0 : Int32))]) rfl) ?_
  refine Go.st (fun _ => XS.aloadN W2.here W2.ex rfl (hb hby d19_14) rfl rfl) ?_
  refine Go.st (fun _ => XS.aloadN W2.here W2.ex rfl (hb hby d19_15) rfl rfl) ?_
  show Go _ _ _ _ (T2.setTop (mkF m_ 16 #[.val (.ref a), .val (.ref s), .val (.int (0 : Int32))] [(.ref a), (.ref a)]))
  refine W2.getF (cx.w 141 rfl) Via.refl F_count_a (hb hby d19_16) ?_
  intro T3 W3
  refine Go.st (fun _ => XS.iloadN W3.here W3.ex rfl (hb hby d19_19) rfl) ?_
  refine Go.st (fun _ => XS.iadd W3.here W3.ex rfl (hb hby d19_20) rfl) ?_
  show Go _ _ _ _ (T3.setTop (mkF m_ 21 #[.val (.ref a), .val (.ref s), .val (.int (0 : Int32))] [(.int (5 : Int32)), (.ref a)]))
  refine W3.callV (y := Y10) (z := Y10) (cx.w 143 rfl) (declares_of (cx.w 144 rfl) (cx.w 147 rfl)) (cx.w 146 rfl) (cx.w 144 rfl) (cx.w 111 rfl) (cx.w 147 rfl) (W3.nf (cx.w 146 rfl)) (by decide) E_a (ct_ens5 cx W3.old a b kb (5 : Int32) [(.int (114 : Int32).toInt8.toInt32), (.int (111 : Int32).toInt8.toInt32), (.int (108 : Int32).toInt8.toInt32), (.int (101 : Int32).toInt8.toInt32), (.int (32 : Int32).toInt8.toInt32), (.int 0), (.int 0), (.int 0), (.int 0), (.int 0), (.int 0), (.int 0), (.int 0), (.int 0), (.int 0), (.int 0)] E_a F_value_a F_coder_a F_count_a V_b) all0 (by decide) (Wd := 0) (by decide) (k' := 0) (n' := 0) rfl rfl (by decide) (by decide) (by rw [hml]; rfl) (a := a) (argsL := [(.int (5 : Int32))]) (rest := []) rfl (lenOf pd10 rfl) rfl (Nat.le_of_eq rfl) (hb hby d19_21) ?_
  intro v4 vm4 T4 h4 L4 W4 q4
  obtain ⟨rfl, eh_⟩ := q4
  subst h4
  refine Go.st (fun _ => XS.aloadN W4.here W4.ex rfl (hb hby d19_24) rfl rfl) ?_
  refine Go.st (fun _ => XS.aloadN W4.here W4.ex rfl (hb hby d19_25) rfl rfl) ?_
  show Go _ _ _ _ (T4.setTop (mkF m_ 26 #[.val (.ref a), .val (.ref s), .val (.int (0 : Int32))] [(.ref a), (.ref a)]))
  refine W4.getF (cx.w 141 rfl) Via.refl F_count_a (hb hby d19_26) ?_
  intro T5 W5
  refine Go.st (fun _ => XS.aloadN W5.here W5.ex rfl (hb hby d19_29) rfl rfl) ?_
  show Go _ _ _ _ (T5.setTop (mkF m_ 30 #[.val (.ref a), .val (.ref s), .val (.int (0 : Int32))] [(.ref s), (.int (5 : Int32)), (.ref a)]))
  refine W5.callV (y := Y15) (z := Y15) (cx.w 148 rfl) (declares_of (cx.w 149 rfl) (cx.w 152 rfl)) (cx.w 151 rfl) (cx.w 149 rfl) (cx.w 111 rfl) (cx.w 152 rfl) (W5.nf (cx.w 151 rfl)) (by decide) E_a (ct_psa5_0 cx W5.old a s t b kb  E_a F_value_a F_coder_a F_count_a g_a S_s V_b g_b ne_t_b) (allS (List.mem_of_getElem? (i := 1) rfl) all0) (by decide) (Wd := 0) (by decide) (k' := 0) (n' := 0) rfl rfl (by decide) (by decide) (by rw [hml]; rfl) (a := a) (argsL := [(.int (5 : Int32)), (.ref s)]) (rest := []) rfl (lenOf pd15 rfl) rfl (Nat.le_of_eq rfl) (hb hby d19_30) ?_
  intro v6 vm6 T6 h6 L6 W6 q6
  obtain ⟨rfl, K1, V_n⟩ := q6
  have ne_a_b : a ≠ b := (Exa.neArv E_a V_b (cx.w 102 rfl))
  have ne_s_b : s ≠ b := (Exa.neArv E_s V_b (cx.w 5 rfl))
  replace E_a := E_a.keep K1
  replace F_value_a := F_value_a.keep K1 (ninS ne_a_b nin0)
  replace F_coder_a := F_coder_a.keep K1 (ninS ne_a_b nin0)
  replace F_count_a := F_count_a.keep K1 (ninS ne_a_b nin0)
  replace S_s := S_s.keep K1 (ninS ne_s_b nin0) (ninS ne_t_b nin0)
  replace E_s := E_s.keep K1
  replace F_coder_s := F_coder_s.keep K1 (ninS ne_s_b nin0)
  replace K0 := K0.trans K1 (allS (Or.inl (List.mem_of_getElem? (i := 1) rfl)) all0)
  refine Go.st (fun _ => XS.aloadN W6.here W6.ex rfl (hb hby d19_33) rfl rfl) ?_
  refine Go.st (fun _ => XS.dup W6.here W6.ex rfl (hb hby d19_34) rfl rfl) ?_
  show Go _ _ _ _ (T6.setTop (mkF m_ 35 #[.val (.ref a), .val (.ref s), .val (.int (0 : Int32))] [(.ref a), (.ref a)]))
  refine W6.getF (cx.w 141 rfl) Via.refl F_count_a (hb hby d19_35) ?_
  intro T7 W7
  refine Go.st (fun _ => XS.iloadN W7.here W7.ex rfl (hb hby d19_38) rfl) ?_
  refine Go.st (fun _ => XS.iadd W7.here W7.ex rfl (hb hby d19_39) rfl) ?_
  show Go _ _ _ _ (T7.setTop (mkF m_ 40 #[.val (.ref a), .val (.ref s), .val (.int (0 : Int32))] [(.int (5 : Int32)), (.ref a)]))
  refine W7.putF (cx.w 141 rfl) Via.refl F_count_a E_a (Or.inl (cx.w 142 rfl)) (cx.w 102 rfl) (ty := .int) (by decide) rfl rfl (List.mem_of_getElem? (i := 0) rfl) g_a (hb hby d19_40) ?_
  intro T8 h8 L8 W8 w8
  have ne_s_a : s ≠ a := (ne_exa E_s E_a (by decide))
  have ne_t_a : t ≠ a := (Ne.symm (Ne.symm (S_s.neT E_a (cx.w 102 rfl))))
  replace E_a := E_a.wr w8
  replace F_value_a := F_value_a.other w8 (Or.inr (slot_ne (Or.inl (cx.w 116 rfl)) (Or.inl (cx.w 142 rfl)) (by decide) (t := (.array .byte)) (t' := .int) (by decide) (by decide)))
  replace F_coder_a := F_coder_a.other w8 (Or.inr (slot_ne (Or.inl (cx.w 118 rfl)) (Or.inl (cx.w 142 rfl)) (by decide) (t := .byte) (t' := .int) (by decide) (by decide)))
  replace F_count_a := F_count_a.same w8
  replace S_s := S_s.wr w8 ne_s_a ne_t_a
  replace E_s := E_s.wr w8
  replace F_coder_s := F_coder_s.other w8 (Or.inl ne_s_a)
  replace V_n := V_n.other w8 (Ne.symm ne_a_b)
  replace K0 := K0.wr w8 (Or.inl (List.mem_of_getElem? (i := 0) rfl))
  refine Go.st (fun _ => XS.aloadN W8.here W8.ex rfl (hb hby d19_43) rfl rfl) ?_
  show Go _ _ _ _ (T8.setTop (mkF m_ 44 #[.val (.ref a), .val (.ref s), .val (.int (0 : Int32))] [(.ref a)]))
  exact W8.retA hret rfl rfl (hb hby d19_44) (by decide) (by decide) fun vr_ cr_ => ⟨rfl, K0, E_a, F_value_a, F_coder_a, F_count_a, V_n⟩
theorem ct_app5_0 {l : Launch} {Z a0 n0 g1 gf em es} (cx : Ctx Z a0 n0 g1 gf em es) {h : Heap} (O : Old Z n0 h) (a s t b : Addr) (kb : ClassId) (E_a : Exa Z h a "java/lang/StringBuilder") (F_value_a : Fld Z h a "java/lang/AbstractStringBuilder" "value" "[B" (.ref b)) (F_coder_a : Fld Z h a "java/lang/AbstractStringBuilder" "coder" "B" (.int (0 : Int32))) (F_count_a : Fld Z h a "java/lang/AbstractStringBuilder" "count" "I" (.int (5 : Int32))) (g_a : n0 ≤ a) (S_s : StrAt Z h s t ([] : List Int32)) (V_b : Arv Z h b kb .byte 16 [(.int (114 : Int32).toInt8.toInt32), (.int (111 : Int32).toInt8.toInt32), (.int (108 : Int32).toInt8.toInt32), (.int (101 : Int32).toInt8.toInt32), (.int (32 : Int32).toInt8.toInt32), (.int 0), (.int 0), (.int 0), (.int 0), (.int 0), (.int 0), (.int 0), (.int 0), (.int 0), (.int 0), (.int 0)] (.int 0)) (g_b : n0 ≤ b) (ne_t_b : t ≠ b) :
    Ct l Z consts_1 n0 [] Y29 jdk_67_method_7_code 2 (some (.object "java/lang/StringBuilder")) ({ frames := 4, cells := 0, slots := 0, locals := 61 } : Room) #[(.ref a), (.ref s)] [a, b] h (fun v _ h' => v = some (.ref a) ∧ Keep h h' [a, b] ∧ Exa Z h' a "java/lang/StringBuilder" ∧ Fld Z h' a "java/lang/AbstractStringBuilder" "value" "[B" (.ref b) ∧ Fld Z h' a "java/lang/AbstractStringBuilder" "coder" "B" (.int (0 : Int32)) ∧ Fld Z h' a "java/lang/AbstractStringBuilder" "count" "I" (.int (5 : Int32)) ∧ Arv Z h' b kb .byte 16 [(.int (114 : Int32).toInt8.toInt32), (.int (111 : Int32).toInt8.toInt32), (.int (108 : Int32).toInt8.toInt32), (.int (101 : Int32).toInt8.toInt32), (.int (32 : Int32).toInt8.toInt32), (.int 0), (.int 0), (.int 0), (.int 0), (.int 0), (.int 0), (.int 0), (.int 0), (.int 0), (.int 0), (.int 0)] (.int 0)) := by
  refine Ct.intro (plainFor_of_name pn14) O cx.ew ?_
  intro p_ e_ s_ m_ bl_ mt_ c_ T0 W0 hby hml hret hnm
  refine Go.st (fun t_ k_ => castTop (g' := mkF m_ 0 #[.val (.ref a), .val (.ref s)] []) (by first | (simp [entryFrame, mkF, argsToLocals, Value.category]; done) | rfl) k_) ?_
  refine Go.st (fun _ => XS.aloadN W0.here W0.ex rfl (hb hby d18_0) rfl rfl) ?_
  refine Go.st (fun _ => XS.aloadN W0.here W0.ex rfl (hb hby d18_1) rfl rfl) ?_
  show Go _ _ _ _ (T0.setTop (mkF m_ 2 #[.val (.ref a), .val (.ref s)] [(.ref s), (.ref a)]))
  refine W0.callU (y := Y9) (y' := Y10) (cx.w 125 rfl) (cx.w 146 rfl) rfl (cx.w 127 rfl) (cx.w 126 rfl) (cx.w 111 rfl) (cx.w 129 rfl) (by decide) (by decide) (Ins.self E_a) (ct_aap5_0 cx W0.old a s t b kb  E_a F_value_a F_coder_a F_count_a g_a S_s V_b g_b ne_t_b) (allS (List.mem_of_getElem? (i := 0) rfl) (allS (List.mem_of_getElem? (i := 1) rfl) all0)) (by decide) (Wd := 0) (by decide) (k' := 0) (n' := 0) rfl rfl (by decide) (by decide) (by rw [hml]; rfl) (a := a) (argsL := [(.ref s)]) (rest := []) rfl (lenOf pd16 rfl) rfl (Nat.le_of_eq rfl) (hb hby d18_2) ?_
  intro v1 vm1 T1 h1 L1 W1 q1
  obtain ⟨rfl, K1, E_n, G1, G2, G3, V_n⟩ := q1
  refine Go.st (fun _ => XS.pop W1.here W1.ex rfl (hb hby d18_5) rfl rfl) ?_
  refine Go.st (fun _ => XS.aloadN W1.here W1.ex rfl (hb hby d18_6) rfl rfl) ?_
  show Go _ _ _ _ (T1.setTop (mkF m_ 7 #[.val (.ref a), .val (.ref s)] [(.ref a)]))
  exact W1.retA hret rfl rfl (hb hby d18_7) (by decide) (by decide) fun vr_ cr_ => ⟨rfl, K1, E_n, G1, G2, G3, V_n⟩
theorem ct_gb5_1 {l : Launch} {Z a0 n0 g1 gf em es} (cx : Ctx Z a0 n0 g1 gf em es) {h : Heap} (O : Old Z n0 h) (s t b : Addr) (kb : ClassId) (c0 : Int32) (S_s : StrAt Z h s t ([c0] : List Int32)) (V_b : Arv Z h b kb .byte 16 [(.int (114 : Int32).toInt8.toInt32), (.int (111 : Int32).toInt8.toInt32), (.int (108 : Int32).toInt8.toInt32), (.int (101 : Int32).toInt8.toInt32), (.int (32 : Int32).toInt8.toInt32), (.int 0), (.int 0), (.int 0), (.int 0), (.int 0), (.int 0), (.int 0), (.int 0), (.int 0), (.int 0), (.int 0)] (.int 0)) (g_b : n0 ≤ b) (ne_t_b : t ≠ b) :
    Ct l Z consts_1 n0 [] Y26 jdk_42_method_147_code 4 none ({ frames := 1, cells := 0, slots := 0, locals := 18 } : Room) #[(.ref s), (.ref b), (.int (5 : Int32)), (.int (0 : Int32))] [b] h (fun v _ h' => v = none ∧ Keep h h' [b] ∧ Arv Z h' b kb .byte 16 [(.int (114 : Int32).toInt8.toInt32), (.int (111 : Int32).toInt8.toInt32), (.int (108 : Int32).toInt8.toInt32), (.int (101 : Int32).toInt8.toInt32), (.int (32 : Int32).toInt8.toInt32), (.int c0.toInt8.toInt32), (.int 0), (.int 0), (.int 0), (.int 0), (.int 0), (.int 0), (.int 0), (.int 0), (.int 0), (.int 0)] (.int 0)) := by
  refine Ct.intro (plainFor_of_name pn0) O cx.ew ?_
  intro p_ e_ s_ m_ bl_ mt_ c_ T0 W0 hby hml hret hnm
  refine Go.st (fun t_ k_ => castTop (g' := mkF m_ 0 #[.val (.ref s), .val (.ref b), .val (.int (5 : Int32)), .val (.int (0 : Int32))] []) (by first | (simp [entryFrame, mkF, argsToLocals, Value.category]; done) | rfl) k_) ?_
  show Go _ _ _ _ (T0.setTop (mkF m_ 0 #[.val (.ref s), .val (.ref b), .val (.int (5 : Int32)), .val (.int (0 : Int32))] []))
  have K0 : Keep h h [b] := Keep.refl _ _
  have E_s := S_s.1
  have F_coder_s := S_s.2.1
  have F_value_s := S_s.2.2.1
  obtain ⟨k_t, V_t⟩ := S_s.kb
  replace V_t : Arv Z h t k_t .byte (1 : Int32) [(.int c0.toInt8.toInt32)] (.int 0) := V_t
  refine Go.st (fun _ => XS.aloadN W0.here W0.ex rfl (hb hby d25_0) rfl rfl) ?_
  show Go _ _ _ _ (T0.setTop (mkF m_ 1 #[.val (.ref s), .val (.ref b), .val (.int (5 : Int32)), .val (.int (0 : Int32))] [(.ref s)]))
  refine W0.callV (y := Y24) (z := Y24) (cx.w 135 rfl) (cx.w 136 rfl) (cx.w 138 rfl) (cx.w 137 rfl) (cx.w 6 rfl) (cx.w 139 rfl) (W0.nf (cx.w 138 rfl)) (by decide) E_s (ct_cod cx W0.old s t ([c0] : List Int32) S_s) all0 (by decide) (Wd := 0) (by decide) (k' := 0) (n' := 0) rfl rfl (by decide) (by decide) (by rw [hml]; rfl) (a := s) (argsL := []) (rest := []) rfl (lenOf pd11 rfl) rfl (Nat.le_of_eq rfl) (hb hby d25_1) ?_
  intro v1 vm1 T1 h1 L1 W1 q1
  obtain ⟨rfl, eh_⟩ := q1
  subst h1
  refine Go.st (fun _ => XS.iloadN W1.here W1.ex rfl (hb hby d25_4) rfl) ?_
  refine Go.st (fun _ => XS.icmpNo W1.here W1.ex rfl (hb hby d25_5) rfl (teq (rfl : (0 : Int32) = (0 : Int32))).2) ?_
  refine Go.st (fun _ => XS.aloadN W1.here W1.ex rfl (hb hby d25_8) rfl rfl) ?_
  show Go _ _ _ _ (T1.setTop (mkF m_ 9 #[.val (.ref s), .val (.ref b), .val (.int (5 : Int32)), .val (.int (0 : Int32))] [(.ref s)]))
  refine W1.getF (cx.w 24 rfl) Via.refl F_value_s (hb hby d25_9) ?_
  intro T2 W2
  refine Go.st (fun _ => XS.iconst W2.here W2.ex rfl (hb hby d25_12)) ?_
  refine Go.st (fun _ => XS.aloadN W2.here W2.ex rfl (hb hby d25_13) rfl rfl) ?_
  refine Go.st (fun _ => XS.iloadN W2.here W2.ex rfl (hb hby d25_14) rfl) ?_
  show Go _ _ _ _ (T2.setTop (mkF m_ 15 #[.val (.ref s), .val (.ref b), .val (.int (5 : Int32)), .val (.int (0 : Int32))] [(.int (5 : Int32)), (.ref b), (.int (0 : Int32)), (.ref t)]))
  refine Go.st (fun _ => XS.iloadN W2.here W2.ex rfl (hb hby d25_15) rfl) ?_
  refine Go.st (fun _ => XS.ishl W2.here W2.ex rfl (hb hby d25_16) rfl) ?_
  refine Go.st (fun _ => XS.aloadN W2.here W2.ex rfl (hb hby d25_17) rfl rfl) ?_
  show Go _ _ _ _ (T2.setTop (mkF m_ 18 #[.val (.ref s), .val (.ref b), .val (.int (5 : Int32)), .val (.int (0 : Int32))] [(.ref s), (.int (5 : Int32)), (.ref b), (.int (0 : Int32)), (.ref t)]))
  refine W2.getF (cx.w 24 rfl) Via.refl F_value_s (hb hby d25_18) ?_
  intro T3 W3
  show Go _ _ _ _ (T3.setTop (mkF m_ 21 #[.val (.ref s), .val (.ref b), .val (.int (5 : Int32)), .val (.int (0 : Int32))] [(.ref t), (.int (5 : Int32)), (.ref b), (.int (0 : Int32)), (.ref t)]))
  refine W3.alen V_t (hb hby d25_21) ?_
  show Go _ _ _ _ (T3.setTop (mkF m_ 22 #[.val (.ref s), .val (.ref b), .val (.int (5 : Int32)), .val (.int (0 : Int32))] [(.int (1 : Int32)), (.int (5 : Int32)), (.ref b), (.int (0 : Int32)), (.ref t)]))
  refine W3.cpP (cx.w 164 rfl) (cx.w 167 rfl) (cx.w 165 rfl) (cx.w 166 rfl) V_t V_b rfl (by decide) (by decide) (by decide) (by decide) (by decide) (us := [(.int c0.toInt8.toInt32)]) rfl (Nat.le_of_ble_eq_true rfl) (List.mem_of_getElem? (i := 0) rfl) g_b (by rw [hml]; rfl) (hb hby d25_22) (by decide) (Wd := 0) (Nat.le_of_eq rfl) (by decide) ?_
  intro T4 h4 L4 W4 Kc4 V_new
  have ne_s_b : s ≠ b := (Exa.neArv E_s V_b (cx.w 5 rfl))
  replace S_s := S_s.keep Kc4 (ninS ne_s_b nin0) (ninS ne_t_b nin0)
  replace E_s := E_s.keep Kc4
  replace F_coder_s := F_coder_s.keep Kc4 (ninS ne_s_b nin0)
  replace F_value_s := F_value_s.keep Kc4 (ninS ne_s_b nin0)
  replace V_t := V_t.keep Kc4 (ninS ne_t_b nin0)
  replace K0 := K0.trans Kc4 (allS (Or.inl (List.mem_of_getElem? (i := 0) rfl)) all0)
  replace V_b : Arv Z h4 b kb .byte (16 : Int32) [(.int (114 : Int32).toInt8.toInt32), (.int (111 : Int32).toInt8.toInt32), (.int (108 : Int32).toInt8.toInt32), (.int (101 : Int32).toInt8.toInt32), (.int (32 : Int32).toInt8.toInt32), (.int c0.toInt8.toInt32), (.int 0), (.int 0), (.int 0), (.int 0), (.int 0), (.int 0), (.int 0), (.int 0), (.int 0), (.int 0)] (.int 0) := V_new
  clear V_new
  refine Go.st (fun _ => XS.goto W4.here W4.ex rfl (pc0 := 25) (pc' := 43) rfl (hb hby d25_25) (by decide) (by decide)) ?_
  show Go _ _ _ _ (T4.setTop (mkF m_ 43 #[.val (.ref s), .val (.ref b), .val (.int (5 : Int32)), .val (.int (0 : Int32))] []))
  exact W4.retV hret (hb hby d25_43) (by decide) (by decide) fun vr_ cr_ => ⟨rfl, K0, V_b⟩
theorem ct_psa5_1 {l : Launch} {Z a0 n0 g1 gf em es} (cx : Ctx Z a0 n0 g1 gf em es) {h : Heap} (O : Old Z n0 h) (a s t b : Addr) (kb : ClassId) (c0 : Int32) (E_a : Exa Z h a "java/lang/StringBuilder") (F_value_a : Fld Z h a "java/lang/AbstractStringBuilder" "value" "[B" (.ref b)) (F_coder_a : Fld Z h a "java/lang/AbstractStringBuilder" "coder" "B" (.int (0 : Int32))) (F_count_a : Fld Z h a "java/lang/AbstractStringBuilder" "count" "I" (.int (5 : Int32))) (g_a : n0 ≤ a) (S_s : StrAt Z h s t ([c0] : List Int32)) (V_b : Arv Z h b kb .byte 16 [(.int (114 : Int32).toInt8.toInt32), (.int (111 : Int32).toInt8.toInt32), (.int (108 : Int32).toInt8.toInt32), (.int (101 : Int32).toInt8.toInt32), (.int (32 : Int32).toInt8.toInt32), (.int 0), (.int 0), (.int 0), (.int 0), (.int 0), (.int 0), (.int 0), (.int 0), (.int 0), (.int 0), (.int 0)] (.int 0)) (g_b : n0 ≤ b) (ne_t_b : t ≠ b) :
    Ct l Z consts_1 n0 [] Y15 jdk_68_method_73_code 3 none ({ frames := 2, cells := 0, slots := 0, locals := 33 } : Room) #[(.ref a), (.int (5 : Int32)), (.ref s)] [b] h (fun v _ h' => v = none ∧ Keep h h' [b] ∧ Arv Z h' b kb .byte 16 [(.int (114 : Int32).toInt8.toInt32), (.int (111 : Int32).toInt8.toInt32), (.int (108 : Int32).toInt8.toInt32), (.int (101 : Int32).toInt8.toInt32), (.int (32 : Int32).toInt8.toInt32), (.int c0.toInt8.toInt32), (.int 0), (.int 0), (.int 0), (.int 0), (.int 0), (.int 0), (.int 0), (.int 0), (.int 0), (.int 0)] (.int 0)) := by
  refine Ct.intro (plainFor_of_name pn13) O cx.ew ?_
  intro p_ e_ s_ m_ bl_ mt_ c_ T0 W0 hby hml hret hnm
  refine Go.st (fun t_ k_ => castTop (g' := mkF m_ 0 #[.val (.ref a), .val (.int (5 : Int32)), .val (.ref s)] []) (by first | (simp [entryFrame, mkF, argsToLocals, Value.category]; done) | rfl) k_) ?_
  show Go _ _ _ _ (T0.setTop (mkF m_ 0 #[.val (.ref a), .val (.int (5 : Int32)), .val (.ref s)] []))
  have E_s := S_s.1
  have F_coder_s := S_s.2.1
  refine Go.st (fun _ => XS.aloadN W0.here W0.ex rfl (hb hby d23_0) rfl rfl) ?_
  refine Go.st (fun _ => XS.aloadN W0.here W0.ex rfl (hb hby d23_1) rfl rfl) ?_
  show Go _ _ _ _ (T0.setTop (mkF m_ 2 #[.val (.ref a), .val (.int (5 : Int32)), .val (.ref s)] [(.ref s), (.ref a)]))
  refine W0.callV (y := Y12) (z := Y12) (cx.w 153 rfl) (declares_of (cx.w 154 rfl) (cx.w 157 rfl)) (cx.w 156 rfl) (cx.w 154 rfl) (cx.w 111 rfl) (cx.w 157 rfl) (W0.nf (cx.w 156 rfl)) (by decide) E_a (ct_inf cx W0.old a b s t ([c0] : List Int32) (5 : Int32) E_a F_value_a F_coder_a F_count_a S_s) all0 (by decide) (Wd := 0) (by decide) (k' := 0) (n' := 0) rfl rfl (by decide) (by decide) (by rw [hml]; rfl) (a := a) (argsL := [(.ref s)]) (rest := []) rfl (lenOf pd12 rfl) rfl (Nat.le_of_eq rfl) (hb hby d23_2) ?_
  intro v1 vm1 T1 h1 L1 W1 q1
  obtain ⟨rfl, eh_⟩ := q1
  subst h1
  refine Go.st (fun _ => XS.aloadN W1.here W1.ex rfl (hb hby d23_5) rfl rfl) ?_
  refine Go.st (fun _ => XS.aloadN W1.here W1.ex rfl (hb hby d23_6) rfl rfl) ?_
  show Go _ _ _ _ (T1.setTop (mkF m_ 7 #[.val (.ref a), .val (.int (5 : Int32)), .val (.ref s)] [(.ref a), (.ref s)]))
  refine W1.getF (cx.w 115 rfl) Via.refl F_value_a (hb hby d23_7) ?_
  intro T2 W2
  refine Go.st (fun _ => XS.iloadN W2.here W2.ex rfl (hb hby d23_10) rfl) ?_
  refine Go.st (fun _ => XS.aloadN W2.here W2.ex rfl (hb hby d23_11) rfl rfl) ?_
  show Go _ _ _ _ (T2.setTop (mkF m_ 12 #[.val (.ref a), .val (.int (5 : Int32)), .val (.ref s)] [(.ref a), (.int (5 : Int32)), (.ref b), (.ref s)]))
  refine W2.getF (cx.w 117 rfl) Via.refl F_coder_a (hb hby d23_12) ?_
  intro T3 W3
  show Go _ _ _ _ (T3.setTop (mkF m_ 15 #[.val (.ref a), .val (.int (5 : Int32)), .val (.ref s)] [(.int (0 : Int32)), (.int (5 : Int32)), (.ref b), (.ref s)]))
  refine W3.callV (y := Y26) (z := Y26) (cx.w 159 rfl) (cx.w 160 rfl) (cx.w 162 rfl) (cx.w 161 rfl) (cx.w 6 rfl) (cx.w 163 rfl) (W3.nf (cx.w 162 rfl)) (by decide) E_s (ct_gb5_1 cx W3.old s t b kb c0 S_s V_b g_b ne_t_b) (allS (List.mem_of_getElem? (i := 0) rfl) all0) (by decide) (Wd := 0) (by decide) (k' := 0) (n' := 0) rfl rfl (by decide) (by decide) (by rw [hml]; rfl) (a := s) (argsL := [(.ref b), (.int (5 : Int32)), (.int (0 : Int32))]) (rest := []) rfl (lenOf pd13 rfl) rfl (Nat.le_of_eq rfl) (hb hby d23_15) ?_
  intro v4 vm4 T4 h4 L4 W4 q4
  obtain ⟨rfl, K1, V_n⟩ := q4
  show Go _ _ _ _ (T4.setTop (mkF m_ 18 #[.val (.ref a), .val (.int (5 : Int32)), .val (.ref s)] []))
  exact W4.retV hret (hb hby d23_18) (by decide) (by decide) fun vr_ cr_ => ⟨rfl, K1, V_n⟩
theorem ct_aap5_1 {l : Launch} {Z a0 n0 g1 gf em es} (cx : Ctx Z a0 n0 g1 gf em es) {h : Heap} (O : Old Z n0 h) (a s t b : Addr) (kb : ClassId) (c0 : Int32) (E_a : Exa Z h a "java/lang/StringBuilder") (F_value_a : Fld Z h a "java/lang/AbstractStringBuilder" "value" "[B" (.ref b)) (F_coder_a : Fld Z h a "java/lang/AbstractStringBuilder" "coder" "B" (.int (0 : Int32))) (F_count_a : Fld Z h a "java/lang/AbstractStringBuilder" "count" "I" (.int (5 : Int32))) (g_a : n0 ≤ a) (S_s : StrAt Z h s t ([c0] : List Int32)) (V_b : Arv Z h b kb .byte 16 [(.int (114 : Int32).toInt8.toInt32), (.int (111 : Int32).toInt8.toInt32), (.int (108 : Int32).toInt8.toInt32), (.int (101 : Int32).toInt8.toInt32), (.int (32 : Int32).toInt8.toInt32), (.int 0), (.int 0), (.int 0), (.int 0), (.int 0), (.int 0), (.int 0), (.int 0), (.int 0), (.int 0), (.int 0)] (.int 0)) (g_b : n0 ≤ b) (ne_t_b : t ≠ b) :
    Ct l Z consts_1 n0 [] Y9 jdk_68_method_22_code 3 (some (.object "java/lang/AbstractStringBuilder")) ({ frames := 3, cells := 0, slots := 0, locals := 47 } : Room) #[(.ref a), (.ref s)] [a, b] h (fun v _ h' => v = some (.ref a) ∧ Keep h h' [a, b] ∧ Exa Z h' a "java/lang/StringBuilder" ∧ Fld Z h' a "java/lang/AbstractStringBuilder" "value" "[B" (.ref b) ∧ Fld Z h' a "java/lang/AbstractStringBuilder" "coder" "B" (.int (0 : Int32)) ∧ Fld Z h' a "java/lang/AbstractStringBuilder" "count" "I" (.int (6 : Int32)) ∧ Arv Z h' b kb .byte 16 [(.int (114 : Int32).toInt8.toInt32), (.int (111 : Int32).toInt8.toInt32), (.int (108 : Int32).toInt8.toInt32), (.int (101 : Int32).toInt8.toInt32), (.int (32 : Int32).toInt8.toInt32), (.int c0.toInt8.toInt32), (.int 0), (.int 0), (.int 0), (.int 0), (.int 0), (.int 0), (.int 0), (.int 0), (.int 0), (.int 0)] (.int 0)) := by
  refine Ct.intro (plainFor_of_name pn13) O cx.ew ?_
  intro p_ e_ s_ m_ bl_ mt_ c_ T0 W0 hby hml hret hnm
  refine Go.st (fun t_ k_ => castTop (g' := mkF m_ 0 #[.val (.ref a), .val (.ref s), .unset] []) (by first | (simp [entryFrame, mkF, argsToLocals, Value.category]; done) | rfl) k_) ?_
  show Go _ _ _ _ (T0.setTop (mkF m_ 0 #[.val (.ref a), .val (.ref s), .unset] []))
  have K0 : Keep h h [a, b] := Keep.refl _ _
  have E_s := S_s.1
  have F_coder_s := S_s.2.1
  refine Go.st (fun _ => XS.aloadN W0.here W0.ex rfl (hb hby d19_0) rfl rfl) ?_
  refine Go.st (fun _ => XS.ifnonnullYes W0.here W0.ex rfl (pc0 := 1) (pc' := 9) rfl (hb hby d19_1) rfl (by decide) (by decide)) ?_
  refine Go.st (fun _ => XS.aloadN W0.here W0.ex rfl (hb hby d19_9) rfl rfl) ?_
  show Go _ _ _ _ (T0.setTop (mkF m_ 10 #[.val (.ref a), .val (.ref s), .unset] [(.ref s)]))
  obtain ⟨k1_1, V1_1⟩ := S_s.kb
  refine W0.libV (y := Y27) (z := Y27) (cx.w 130 rfl) (cx.w 131 rfl) (cx.w 133 rfl) (cx.w 132 rfl) (W0.nf (cx.w 133 rfl)) (by decide) E_s (Q := fun v h' L' => v = some (.int (Int32.ofNat (([c0] : List Int32)).length)) ∧ L' = [] ∧ h' = h) (ws := []) (Wd := 0) (ck := 0) (cn := 0) (StrChars.Road.lenW (W := 0) W0.hZ cx.lw (kI := 4) (cx.w 5 rfl) (cs := ([c0] : List Int32)) S_s.1 S_s.2.2.1 S_s.2.1 V1_1 (StrChars.Road.codOf rfl fun c hc => (S_s.ch c hc).2) S_s.ch.up (cx.cmp.ext W0.e0) cx.g1 S_s.le (by decide) (by decide)) (fun v h' L' q => ⟨by rw [q.2.1]; exact Fr.nil _, by rw [q.2.2]; exact Keep.refl _ _⟩) all0 all0 (k' := 0) (n' := 0) rfl rfl (by decide) (by decide) (by rw [hml]; rfl) (a := s) (argsL := []) (rest := []) rfl (lenOf pd14 rfl) rfl (Nat.le_of_eq rfl) (hb hby d19_10) ?_
  intro v2 T2 h2 M2 L2 W2 q2
  obtain ⟨rfl, -, eh_⟩ := q2
  subst h2
  refine Go.st (fun _ => XS.istoreN W2.here W2.ex rfl (hb hby d19_13) rfl (l' := #[.val (.ref a), .val (.ref s), .val (.int (1 : Int32))]) rfl) ?_
  refine Go.st (fun _ => XS.aloadN W2.here W2.ex rfl (hb hby d19_14) rfl rfl) ?_
  refine Go.st (fun _ => XS.aloadN W2.here W2.ex rfl (hb hby d19_15) rfl rfl) ?_
  show Go _ _ _ _ (T2.setTop (mkF m_ 16 #[.val (.ref a), .val (.ref s), .val (.int (1 : Int32))] [(.ref a), (.ref a)]))
  refine W2.getF (cx.w 141 rfl) Via.refl F_count_a (hb hby d19_16) ?_
  intro T3 W3
  refine Go.st (fun _ => XS.iloadN W3.here W3.ex rfl (hb hby d19_19) rfl) ?_
  refine Go.st (fun _ => XS.iadd W3.here W3.ex rfl (hb hby d19_20) rfl) ?_
  show Go _ _ _ _ (T3.setTop (mkF m_ 21 #[.val (.ref a), .val (.ref s), .val (.int (1 : Int32))] [(.int (6 : Int32)), (.ref a)]))
  refine W3.callV (y := Y10) (z := Y10) (cx.w 143 rfl) (declares_of (cx.w 144 rfl) (cx.w 147 rfl)) (cx.w 146 rfl) (cx.w 144 rfl) (cx.w 111 rfl) (cx.w 147 rfl) (W3.nf (cx.w 146 rfl)) (by decide) E_a (ct_ens6 cx W3.old a b kb (5 : Int32) [(.int (114 : Int32).toInt8.toInt32), (.int (111 : Int32).toInt8.toInt32), (.int (108 : Int32).toInt8.toInt32), (.int (101 : Int32).toInt8.toInt32), (.int (32 : Int32).toInt8.toInt32), (.int 0), (.int 0), (.int 0), (.int 0), (.int 0), (.int 0), (.int 0), (.int 0), (.int 0), (.int 0), (.int 0)] E_a F_value_a F_coder_a F_count_a V_b) all0 (by decide) (Wd := 0) (by decide) (k' := 0) (n' := 0) rfl rfl (by decide) (by decide) (by rw [hml]; rfl) (a := a) (argsL := [(.int (6 : Int32))]) (rest := []) rfl (lenOf pd10 rfl) rfl (Nat.le_of_eq rfl) (hb hby d19_21) ?_
  intro v4 vm4 T4 h4 L4 W4 q4
  obtain ⟨rfl, eh_⟩ := q4
  subst h4
  refine Go.st (fun _ => XS.aloadN W4.here W4.ex rfl (hb hby d19_24) rfl rfl) ?_
  refine Go.st (fun _ => XS.aloadN W4.here W4.ex rfl (hb hby d19_25) rfl rfl) ?_
  show Go _ _ _ _ (T4.setTop (mkF m_ 26 #[.val (.ref a), .val (.ref s), .val (.int (1 : Int32))] [(.ref a), (.ref a)]))
  refine W4.getF (cx.w 141 rfl) Via.refl F_count_a (hb hby d19_26) ?_
  intro T5 W5
  refine Go.st (fun _ => XS.aloadN W5.here W5.ex rfl (hb hby d19_29) rfl rfl) ?_
  show Go _ _ _ _ (T5.setTop (mkF m_ 30 #[.val (.ref a), .val (.ref s), .val (.int (1 : Int32))] [(.ref s), (.int (5 : Int32)), (.ref a)]))
  refine W5.callV (y := Y15) (z := Y15) (cx.w 148 rfl) (declares_of (cx.w 149 rfl) (cx.w 152 rfl)) (cx.w 151 rfl) (cx.w 149 rfl) (cx.w 111 rfl) (cx.w 152 rfl) (W5.nf (cx.w 151 rfl)) (by decide) E_a (ct_psa5_1 cx W5.old a s t b kb c0 E_a F_value_a F_coder_a F_count_a g_a S_s V_b g_b ne_t_b) (allS (List.mem_of_getElem? (i := 1) rfl) all0) (by decide) (Wd := 0) (by decide) (k' := 0) (n' := 0) rfl rfl (by decide) (by decide) (by rw [hml]; rfl) (a := a) (argsL := [(.int (5 : Int32)), (.ref s)]) (rest := []) rfl (lenOf pd15 rfl) rfl (Nat.le_of_eq rfl) (hb hby d19_30) ?_
  intro v6 vm6 T6 h6 L6 W6 q6
  obtain ⟨rfl, K1, V_n⟩ := q6
  have ne_a_b : a ≠ b := (Exa.neArv E_a V_b (cx.w 102 rfl))
  have ne_s_b : s ≠ b := (Exa.neArv E_s V_b (cx.w 5 rfl))
  replace E_a := E_a.keep K1
  replace F_value_a := F_value_a.keep K1 (ninS ne_a_b nin0)
  replace F_coder_a := F_coder_a.keep K1 (ninS ne_a_b nin0)
  replace F_count_a := F_count_a.keep K1 (ninS ne_a_b nin0)
  replace S_s := S_s.keep K1 (ninS ne_s_b nin0) (ninS ne_t_b nin0)
  replace E_s := E_s.keep K1
  replace F_coder_s := F_coder_s.keep K1 (ninS ne_s_b nin0)
  replace K0 := K0.trans K1 (allS (Or.inl (List.mem_of_getElem? (i := 1) rfl)) all0)
  refine Go.st (fun _ => XS.aloadN W6.here W6.ex rfl (hb hby d19_33) rfl rfl) ?_
  refine Go.st (fun _ => XS.dup W6.here W6.ex rfl (hb hby d19_34) rfl rfl) ?_
  show Go _ _ _ _ (T6.setTop (mkF m_ 35 #[.val (.ref a), .val (.ref s), .val (.int (1 : Int32))] [(.ref a), (.ref a)]))
  refine W6.getF (cx.w 141 rfl) Via.refl F_count_a (hb hby d19_35) ?_
  intro T7 W7
  refine Go.st (fun _ => XS.iloadN W7.here W7.ex rfl (hb hby d19_38) rfl) ?_
  refine Go.st (fun _ => XS.iadd W7.here W7.ex rfl (hb hby d19_39) rfl) ?_
  show Go _ _ _ _ (T7.setTop (mkF m_ 40 #[.val (.ref a), .val (.ref s), .val (.int (1 : Int32))] [(.int (6 : Int32)), (.ref a)]))
  refine W7.putF (cx.w 141 rfl) Via.refl F_count_a E_a (Or.inl (cx.w 142 rfl)) (cx.w 102 rfl) (ty := .int) (by decide) rfl rfl (List.mem_of_getElem? (i := 0) rfl) g_a (hb hby d19_40) ?_
  intro T8 h8 L8 W8 w8
  have ne_s_a : s ≠ a := (ne_exa E_s E_a (by decide))
  have ne_t_a : t ≠ a := (Ne.symm (Ne.symm (S_s.neT E_a (cx.w 102 rfl))))
  replace E_a := E_a.wr w8
  replace F_value_a := F_value_a.other w8 (Or.inr (slot_ne (Or.inl (cx.w 116 rfl)) (Or.inl (cx.w 142 rfl)) (by decide) (t := (.array .byte)) (t' := .int) (by decide) (by decide)))
  replace F_coder_a := F_coder_a.other w8 (Or.inr (slot_ne (Or.inl (cx.w 118 rfl)) (Or.inl (cx.w 142 rfl)) (by decide) (t := .byte) (t' := .int) (by decide) (by decide)))
  replace F_count_a := F_count_a.same w8
  replace S_s := S_s.wr w8 ne_s_a ne_t_a
  replace E_s := E_s.wr w8
  replace F_coder_s := F_coder_s.other w8 (Or.inl ne_s_a)
  replace V_n := V_n.other w8 (Ne.symm ne_a_b)
  replace K0 := K0.wr w8 (Or.inl (List.mem_of_getElem? (i := 0) rfl))
  refine Go.st (fun _ => XS.aloadN W8.here W8.ex rfl (hb hby d19_43) rfl rfl) ?_
  show Go _ _ _ _ (T8.setTop (mkF m_ 44 #[.val (.ref a), .val (.ref s), .val (.int (1 : Int32))] [(.ref a)]))
  exact W8.retA hret rfl rfl (hb hby d19_44) (by decide) (by decide) fun vr_ cr_ => ⟨rfl, K0, E_a, F_value_a, F_coder_a, F_count_a, V_n⟩
theorem ct_app5_1 {l : Launch} {Z a0 n0 g1 gf em es} (cx : Ctx Z a0 n0 g1 gf em es) {h : Heap} (O : Old Z n0 h) (a s t b : Addr) (kb : ClassId) (c0 : Int32) (E_a : Exa Z h a "java/lang/StringBuilder") (F_value_a : Fld Z h a "java/lang/AbstractStringBuilder" "value" "[B" (.ref b)) (F_coder_a : Fld Z h a "java/lang/AbstractStringBuilder" "coder" "B" (.int (0 : Int32))) (F_count_a : Fld Z h a "java/lang/AbstractStringBuilder" "count" "I" (.int (5 : Int32))) (g_a : n0 ≤ a) (S_s : StrAt Z h s t ([c0] : List Int32)) (V_b : Arv Z h b kb .byte 16 [(.int (114 : Int32).toInt8.toInt32), (.int (111 : Int32).toInt8.toInt32), (.int (108 : Int32).toInt8.toInt32), (.int (101 : Int32).toInt8.toInt32), (.int (32 : Int32).toInt8.toInt32), (.int 0), (.int 0), (.int 0), (.int 0), (.int 0), (.int 0), (.int 0), (.int 0), (.int 0), (.int 0), (.int 0)] (.int 0)) (g_b : n0 ≤ b) (ne_t_b : t ≠ b) :
    Ct l Z consts_1 n0 [] Y29 jdk_67_method_7_code 2 (some (.object "java/lang/StringBuilder")) ({ frames := 4, cells := 0, slots := 0, locals := 61 } : Room) #[(.ref a), (.ref s)] [a, b] h (fun v _ h' => v = some (.ref a) ∧ Keep h h' [a, b] ∧ Exa Z h' a "java/lang/StringBuilder" ∧ Fld Z h' a "java/lang/AbstractStringBuilder" "value" "[B" (.ref b) ∧ Fld Z h' a "java/lang/AbstractStringBuilder" "coder" "B" (.int (0 : Int32)) ∧ Fld Z h' a "java/lang/AbstractStringBuilder" "count" "I" (.int (6 : Int32)) ∧ Arv Z h' b kb .byte 16 [(.int (114 : Int32).toInt8.toInt32), (.int (111 : Int32).toInt8.toInt32), (.int (108 : Int32).toInt8.toInt32), (.int (101 : Int32).toInt8.toInt32), (.int (32 : Int32).toInt8.toInt32), (.int c0.toInt8.toInt32), (.int 0), (.int 0), (.int 0), (.int 0), (.int 0), (.int 0), (.int 0), (.int 0), (.int 0), (.int 0)] (.int 0)) := by
  refine Ct.intro (plainFor_of_name pn14) O cx.ew ?_
  intro p_ e_ s_ m_ bl_ mt_ c_ T0 W0 hby hml hret hnm
  refine Go.st (fun t_ k_ => castTop (g' := mkF m_ 0 #[.val (.ref a), .val (.ref s)] []) (by first | (simp [entryFrame, mkF, argsToLocals, Value.category]; done) | rfl) k_) ?_
  refine Go.st (fun _ => XS.aloadN W0.here W0.ex rfl (hb hby d18_0) rfl rfl) ?_
  refine Go.st (fun _ => XS.aloadN W0.here W0.ex rfl (hb hby d18_1) rfl rfl) ?_
  show Go _ _ _ _ (T0.setTop (mkF m_ 2 #[.val (.ref a), .val (.ref s)] [(.ref s), (.ref a)]))
  refine W0.callU (y := Y9) (y' := Y10) (cx.w 125 rfl) (cx.w 146 rfl) rfl (cx.w 127 rfl) (cx.w 126 rfl) (cx.w 111 rfl) (cx.w 129 rfl) (by decide) (by decide) (Ins.self E_a) (ct_aap5_1 cx W0.old a s t b kb c0 E_a F_value_a F_coder_a F_count_a g_a S_s V_b g_b ne_t_b) (allS (List.mem_of_getElem? (i := 0) rfl) (allS (List.mem_of_getElem? (i := 1) rfl) all0)) (by decide) (Wd := 0) (by decide) (k' := 0) (n' := 0) rfl rfl (by decide) (by decide) (by rw [hml]; rfl) (a := a) (argsL := [(.ref s)]) (rest := []) rfl (lenOf pd16 rfl) rfl (Nat.le_of_eq rfl) (hb hby d18_2) ?_
  intro v1 vm1 T1 h1 L1 W1 q1
  obtain ⟨rfl, K1, E_n, G1, G2, G3, V_n⟩ := q1
  refine Go.st (fun _ => XS.pop W1.here W1.ex rfl (hb hby d18_5) rfl rfl) ?_
  refine Go.st (fun _ => XS.aloadN W1.here W1.ex rfl (hb hby d18_6) rfl rfl) ?_
  show Go _ _ _ _ (T1.setTop (mkF m_ 7 #[.val (.ref a), .val (.ref s)] [(.ref a)]))
  exact W1.retA hret rfl rfl (hb hby d18_7) (by decide) (by decide) fun vr_ cr_ => ⟨rfl, K1, E_n, G1, G2, G3, V_n⟩
theorem ct_gb5_2 {l : Launch} {Z a0 n0 g1 gf em es} (cx : Ctx Z a0 n0 g1 gf em es) {h : Heap} (O : Old Z n0 h) (s t b : Addr) (kb : ClassId) (c0 c1 : Int32) (S_s : StrAt Z h s t ([c0, c1] : List Int32)) (V_b : Arv Z h b kb .byte 16 [(.int (114 : Int32).toInt8.toInt32), (.int (111 : Int32).toInt8.toInt32), (.int (108 : Int32).toInt8.toInt32), (.int (101 : Int32).toInt8.toInt32), (.int (32 : Int32).toInt8.toInt32), (.int 0), (.int 0), (.int 0), (.int 0), (.int 0), (.int 0), (.int 0), (.int 0), (.int 0), (.int 0), (.int 0)] (.int 0)) (g_b : n0 ≤ b) (ne_t_b : t ≠ b) :
    Ct l Z consts_1 n0 [] Y26 jdk_42_method_147_code 4 none ({ frames := 1, cells := 0, slots := 0, locals := 18 } : Room) #[(.ref s), (.ref b), (.int (5 : Int32)), (.int (0 : Int32))] [b] h (fun v _ h' => v = none ∧ Keep h h' [b] ∧ Arv Z h' b kb .byte 16 [(.int (114 : Int32).toInt8.toInt32), (.int (111 : Int32).toInt8.toInt32), (.int (108 : Int32).toInt8.toInt32), (.int (101 : Int32).toInt8.toInt32), (.int (32 : Int32).toInt8.toInt32), (.int c0.toInt8.toInt32), (.int c1.toInt8.toInt32), (.int 0), (.int 0), (.int 0), (.int 0), (.int 0), (.int 0), (.int 0), (.int 0), (.int 0)] (.int 0)) := by
  refine Ct.intro (plainFor_of_name pn0) O cx.ew ?_
  intro p_ e_ s_ m_ bl_ mt_ c_ T0 W0 hby hml hret hnm
  refine Go.st (fun t_ k_ => castTop (g' := mkF m_ 0 #[.val (.ref s), .val (.ref b), .val (.int (5 : Int32)), .val (.int (0 : Int32))] []) (by first | (simp [entryFrame, mkF, argsToLocals, Value.category]; done) | rfl) k_) ?_
  show Go _ _ _ _ (T0.setTop (mkF m_ 0 #[.val (.ref s), .val (.ref b), .val (.int (5 : Int32)), .val (.int (0 : Int32))] []))
  have K0 : Keep h h [b] := Keep.refl _ _
  have E_s := S_s.1
  have F_coder_s := S_s.2.1
  have F_value_s := S_s.2.2.1
  obtain ⟨k_t, V_t⟩ := S_s.kb
  replace V_t : Arv Z h t k_t .byte (2 : Int32) [(.int c0.toInt8.toInt32), (.int c1.toInt8.toInt32)] (.int 0) := V_t
  refine Go.st (fun _ => XS.aloadN W0.here W0.ex rfl (hb hby d25_0) rfl rfl) ?_
  show Go _ _ _ _ (T0.setTop (mkF m_ 1 #[.val (.ref s), .val (.ref b), .val (.int (5 : Int32)), .val (.int (0 : Int32))] [(.ref s)]))
  refine W0.callV (y := Y24) (z := Y24) (cx.w 135 rfl) (cx.w 136 rfl) (cx.w 138 rfl) (cx.w 137 rfl) (cx.w 6 rfl) (cx.w 139 rfl) (W0.nf (cx.w 138 rfl)) (by decide) E_s (ct_cod cx W0.old s t ([c0, c1] : List Int32) S_s) all0 (by decide) (Wd := 0) (by decide) (k' := 0) (n' := 0) rfl rfl (by decide) (by decide) (by rw [hml]; rfl) (a := s) (argsL := []) (rest := []) rfl (lenOf pd11 rfl) rfl (Nat.le_of_eq rfl) (hb hby d25_1) ?_
  intro v1 vm1 T1 h1 L1 W1 q1
  obtain ⟨rfl, eh_⟩ := q1
  subst h1
  refine Go.st (fun _ => XS.iloadN W1.here W1.ex rfl (hb hby d25_4) rfl) ?_
  refine Go.st (fun _ => XS.icmpNo W1.here W1.ex rfl (hb hby d25_5) rfl (teq (rfl : (0 : Int32) = (0 : Int32))).2) ?_
  refine Go.st (fun _ => XS.aloadN W1.here W1.ex rfl (hb hby d25_8) rfl rfl) ?_
  show Go _ _ _ _ (T1.setTop (mkF m_ 9 #[.val (.ref s), .val (.ref b), .val (.int (5 : Int32)), .val (.int (0 : Int32))] [(.ref s)]))
  refine W1.getF (cx.w 24 rfl) Via.refl F_value_s (hb hby d25_9) ?_
  intro T2 W2
  refine Go.st (fun _ => XS.iconst W2.here W2.ex rfl (hb hby d25_12)) ?_
  refine Go.st (fun _ => XS.aloadN W2.here W2.ex rfl (hb hby d25_13) rfl rfl) ?_
  refine Go.st (fun _ => XS.iloadN W2.here W2.ex rfl (hb hby d25_14) rfl) ?_
  show Go _ _ _ _ (T2.setTop (mkF m_ 15 #[.val (.ref s), .val (.ref b), .val (.int (5 : Int32)), .val (.int (0 : Int32))] [(.int (5 : Int32)), (.ref b), (.int (0 : Int32)), (.ref t)]))
  refine Go.st (fun _ => XS.iloadN W2.here W2.ex rfl (hb hby d25_15) rfl) ?_
  refine Go.st (fun _ => XS.ishl W2.here W2.ex rfl (hb hby d25_16) rfl) ?_
  refine Go.st (fun _ => XS.aloadN W2.here W2.ex rfl (hb hby d25_17) rfl rfl) ?_
  show Go _ _ _ _ (T2.setTop (mkF m_ 18 #[.val (.ref s), .val (.ref b), .val (.int (5 : Int32)), .val (.int (0 : Int32))] [(.ref s), (.int (5 : Int32)), (.ref b), (.int (0 : Int32)), (.ref t)]))
  refine W2.getF (cx.w 24 rfl) Via.refl F_value_s (hb hby d25_18) ?_
  intro T3 W3
  show Go _ _ _ _ (T3.setTop (mkF m_ 21 #[.val (.ref s), .val (.ref b), .val (.int (5 : Int32)), .val (.int (0 : Int32))] [(.ref t), (.int (5 : Int32)), (.ref b), (.int (0 : Int32)), (.ref t)]))
  refine W3.alen V_t (hb hby d25_21) ?_
  show Go _ _ _ _ (T3.setTop (mkF m_ 22 #[.val (.ref s), .val (.ref b), .val (.int (5 : Int32)), .val (.int (0 : Int32))] [(.int (2 : Int32)), (.int (5 : Int32)), (.ref b), (.int (0 : Int32)), (.ref t)]))
  refine W3.cpP (cx.w 164 rfl) (cx.w 167 rfl) (cx.w 165 rfl) (cx.w 166 rfl) V_t V_b rfl (by decide) (by decide) (by decide) (by decide) (by decide) (us := [(.int c0.toInt8.toInt32), (.int c1.toInt8.toInt32)]) rfl (Nat.le_of_ble_eq_true rfl) (List.mem_of_getElem? (i := 0) rfl) g_b (by rw [hml]; rfl) (hb hby d25_22) (by decide) (Wd := 0) (Nat.le_of_eq rfl) (by decide) ?_
  intro T4 h4 L4 W4 Kc4 V_new
  have ne_s_b : s ≠ b := (Exa.neArv E_s V_b (cx.w 5 rfl))
  replace S_s := S_s.keep Kc4 (ninS ne_s_b nin0) (ninS ne_t_b nin0)
  replace E_s := E_s.keep Kc4
  replace F_coder_s := F_coder_s.keep Kc4 (ninS ne_s_b nin0)
  replace F_value_s := F_value_s.keep Kc4 (ninS ne_s_b nin0)
  replace V_t := V_t.keep Kc4 (ninS ne_t_b nin0)
  replace K0 := K0.trans Kc4 (allS (Or.inl (List.mem_of_getElem? (i := 0) rfl)) all0)
  replace V_b : Arv Z h4 b kb .byte (16 : Int32) [(.int (114 : Int32).toInt8.toInt32), (.int (111 : Int32).toInt8.toInt32), (.int (108 : Int32).toInt8.toInt32), (.int (101 : Int32).toInt8.toInt32), (.int (32 : Int32).toInt8.toInt32), (.int c0.toInt8.toInt32), (.int c1.toInt8.toInt32), (.int 0), (.int 0), (.int 0), (.int 0), (.int 0), (.int 0), (.int 0), (.int 0), (.int 0)] (.int 0) := V_new
  clear V_new
  refine Go.st (fun _ => XS.goto W4.here W4.ex rfl (pc0 := 25) (pc' := 43) rfl (hb hby d25_25) (by decide) (by decide)) ?_
  show Go _ _ _ _ (T4.setTop (mkF m_ 43 #[.val (.ref s), .val (.ref b), .val (.int (5 : Int32)), .val (.int (0 : Int32))] []))
  exact W4.retV hret (hb hby d25_43) (by decide) (by decide) fun vr_ cr_ => ⟨rfl, K0, V_b⟩
theorem ct_psa5_2 {l : Launch} {Z a0 n0 g1 gf em es} (cx : Ctx Z a0 n0 g1 gf em es) {h : Heap} (O : Old Z n0 h) (a s t b : Addr) (kb : ClassId) (c0 c1 : Int32) (E_a : Exa Z h a "java/lang/StringBuilder") (F_value_a : Fld Z h a "java/lang/AbstractStringBuilder" "value" "[B" (.ref b)) (F_coder_a : Fld Z h a "java/lang/AbstractStringBuilder" "coder" "B" (.int (0 : Int32))) (F_count_a : Fld Z h a "java/lang/AbstractStringBuilder" "count" "I" (.int (5 : Int32))) (g_a : n0 ≤ a) (S_s : StrAt Z h s t ([c0, c1] : List Int32)) (V_b : Arv Z h b kb .byte 16 [(.int (114 : Int32).toInt8.toInt32), (.int (111 : Int32).toInt8.toInt32), (.int (108 : Int32).toInt8.toInt32), (.int (101 : Int32).toInt8.toInt32), (.int (32 : Int32).toInt8.toInt32), (.int 0), (.int 0), (.int 0), (.int 0), (.int 0), (.int 0), (.int 0), (.int 0), (.int 0), (.int 0), (.int 0)] (.int 0)) (g_b : n0 ≤ b) (ne_t_b : t ≠ b) :
    Ct l Z consts_1 n0 [] Y15 jdk_68_method_73_code 3 none ({ frames := 2, cells := 0, slots := 0, locals := 33 } : Room) #[(.ref a), (.int (5 : Int32)), (.ref s)] [b] h (fun v _ h' => v = none ∧ Keep h h' [b] ∧ Arv Z h' b kb .byte 16 [(.int (114 : Int32).toInt8.toInt32), (.int (111 : Int32).toInt8.toInt32), (.int (108 : Int32).toInt8.toInt32), (.int (101 : Int32).toInt8.toInt32), (.int (32 : Int32).toInt8.toInt32), (.int c0.toInt8.toInt32), (.int c1.toInt8.toInt32), (.int 0), (.int 0), (.int 0), (.int 0), (.int 0), (.int 0), (.int 0), (.int 0), (.int 0)] (.int 0)) := by
  refine Ct.intro (plainFor_of_name pn13) O cx.ew ?_
  intro p_ e_ s_ m_ bl_ mt_ c_ T0 W0 hby hml hret hnm
  refine Go.st (fun t_ k_ => castTop (g' := mkF m_ 0 #[.val (.ref a), .val (.int (5 : Int32)), .val (.ref s)] []) (by first | (simp [entryFrame, mkF, argsToLocals, Value.category]; done) | rfl) k_) ?_
  show Go _ _ _ _ (T0.setTop (mkF m_ 0 #[.val (.ref a), .val (.int (5 : Int32)), .val (.ref s)] []))
  have E_s := S_s.1
  have F_coder_s := S_s.2.1
  refine Go.st (fun _ => XS.aloadN W0.here W0.ex rfl (hb hby d23_0) rfl rfl) ?_
  refine Go.st (fun _ => XS.aloadN W0.here W0.ex rfl (hb hby d23_1) rfl rfl) ?_
  show Go _ _ _ _ (T0.setTop (mkF m_ 2 #[.val (.ref a), .val (.int (5 : Int32)), .val (.ref s)] [(.ref s), (.ref a)]))
  refine W0.callV (y := Y12) (z := Y12) (cx.w 153 rfl) (declares_of (cx.w 154 rfl) (cx.w 157 rfl)) (cx.w 156 rfl) (cx.w 154 rfl) (cx.w 111 rfl) (cx.w 157 rfl) (W0.nf (cx.w 156 rfl)) (by decide) E_a (ct_inf cx W0.old a b s t ([c0, c1] : List Int32) (5 : Int32) E_a F_value_a F_coder_a F_count_a S_s) all0 (by decide) (Wd := 0) (by decide) (k' := 0) (n' := 0) rfl rfl (by decide) (by decide) (by rw [hml]; rfl) (a := a) (argsL := [(.ref s)]) (rest := []) rfl (lenOf pd12 rfl) rfl (Nat.le_of_eq rfl) (hb hby d23_2) ?_
  intro v1 vm1 T1 h1 L1 W1 q1
  obtain ⟨rfl, eh_⟩ := q1
  subst h1
  refine Go.st (fun _ => XS.aloadN W1.here W1.ex rfl (hb hby d23_5) rfl rfl) ?_
  refine Go.st (fun _ => XS.aloadN W1.here W1.ex rfl (hb hby d23_6) rfl rfl) ?_
  show Go _ _ _ _ (T1.setTop (mkF m_ 7 #[.val (.ref a), .val (.int (5 : Int32)), .val (.ref s)] [(.ref a), (.ref s)]))
  refine W1.getF (cx.w 115 rfl) Via.refl F_value_a (hb hby d23_7) ?_
  intro T2 W2
  refine Go.st (fun _ => XS.iloadN W2.here W2.ex rfl (hb hby d23_10) rfl) ?_
  refine Go.st (fun _ => XS.aloadN W2.here W2.ex rfl (hb hby d23_11) rfl rfl) ?_
  show Go _ _ _ _ (T2.setTop (mkF m_ 12 #[.val (.ref a), .val (.int (5 : Int32)), .val (.ref s)] [(.ref a), (.int (5 : Int32)), (.ref b), (.ref s)]))
  refine W2.getF (cx.w 117 rfl) Via.refl F_coder_a (hb hby d23_12) ?_
  intro T3 W3
  show Go _ _ _ _ (T3.setTop (mkF m_ 15 #[.val (.ref a), .val (.int (5 : Int32)), .val (.ref s)] [(.int (0 : Int32)), (.int (5 : Int32)), (.ref b), (.ref s)]))
  refine W3.callV (y := Y26) (z := Y26) (cx.w 159 rfl) (cx.w 160 rfl) (cx.w 162 rfl) (cx.w 161 rfl) (cx.w 6 rfl) (cx.w 163 rfl) (W3.nf (cx.w 162 rfl)) (by decide) E_s (ct_gb5_2 cx W3.old s t b kb c0 c1 S_s V_b g_b ne_t_b) (allS (List.mem_of_getElem? (i := 0) rfl) all0) (by decide) (Wd := 0) (by decide) (k' := 0) (n' := 0) rfl rfl (by decide) (by decide) (by rw [hml]; rfl) (a := s) (argsL := [(.ref b), (.int (5 : Int32)), (.int (0 : Int32))]) (rest := []) rfl (lenOf pd13 rfl) rfl (Nat.le_of_eq rfl) (hb hby d23_15) ?_
  intro v4 vm4 T4 h4 L4 W4 q4
  obtain ⟨rfl, K1, V_n⟩ := q4
  show Go _ _ _ _ (T4.setTop (mkF m_ 18 #[.val (.ref a), .val (.int (5 : Int32)), .val (.ref s)] []))
  exact W4.retV hret (hb hby d23_18) (by decide) (by decide) fun vr_ cr_ => ⟨rfl, K1, V_n⟩
theorem ct_aap5_2 {l : Launch} {Z a0 n0 g1 gf em es} (cx : Ctx Z a0 n0 g1 gf em es) {h : Heap} (O : Old Z n0 h) (a s t b : Addr) (kb : ClassId) (c0 c1 : Int32) (E_a : Exa Z h a "java/lang/StringBuilder") (F_value_a : Fld Z h a "java/lang/AbstractStringBuilder" "value" "[B" (.ref b)) (F_coder_a : Fld Z h a "java/lang/AbstractStringBuilder" "coder" "B" (.int (0 : Int32))) (F_count_a : Fld Z h a "java/lang/AbstractStringBuilder" "count" "I" (.int (5 : Int32))) (g_a : n0 ≤ a) (S_s : StrAt Z h s t ([c0, c1] : List Int32)) (V_b : Arv Z h b kb .byte 16 [(.int (114 : Int32).toInt8.toInt32), (.int (111 : Int32).toInt8.toInt32), (.int (108 : Int32).toInt8.toInt32), (.int (101 : Int32).toInt8.toInt32), (.int (32 : Int32).toInt8.toInt32), (.int 0), (.int 0), (.int 0), (.int 0), (.int 0), (.int 0), (.int 0), (.int 0), (.int 0), (.int 0), (.int 0)] (.int 0)) (g_b : n0 ≤ b) (ne_t_b : t ≠ b) :
    Ct l Z consts_1 n0 [] Y9 jdk_68_method_22_code 3 (some (.object "java/lang/AbstractStringBuilder")) ({ frames := 3, cells := 0, slots := 0, locals := 47 } : Room) #[(.ref a), (.ref s)] [a, b] h (fun v _ h' => v = some (.ref a) ∧ Keep h h' [a, b] ∧ Exa Z h' a "java/lang/StringBuilder" ∧ Fld Z h' a "java/lang/AbstractStringBuilder" "value" "[B" (.ref b) ∧ Fld Z h' a "java/lang/AbstractStringBuilder" "coder" "B" (.int (0 : Int32)) ∧ Fld Z h' a "java/lang/AbstractStringBuilder" "count" "I" (.int (7 : Int32)) ∧ Arv Z h' b kb .byte 16 [(.int (114 : Int32).toInt8.toInt32), (.int (111 : Int32).toInt8.toInt32), (.int (108 : Int32).toInt8.toInt32), (.int (101 : Int32).toInt8.toInt32), (.int (32 : Int32).toInt8.toInt32), (.int c0.toInt8.toInt32), (.int c1.toInt8.toInt32), (.int 0), (.int 0), (.int 0), (.int 0), (.int 0), (.int 0), (.int 0), (.int 0), (.int 0)] (.int 0)) := by
  refine Ct.intro (plainFor_of_name pn13) O cx.ew ?_
  intro p_ e_ s_ m_ bl_ mt_ c_ T0 W0 hby hml hret hnm
  refine Go.st (fun t_ k_ => castTop (g' := mkF m_ 0 #[.val (.ref a), .val (.ref s), .unset] []) (by first | (simp [entryFrame, mkF, argsToLocals, Value.category]; done) | rfl) k_) ?_
  show Go _ _ _ _ (T0.setTop (mkF m_ 0 #[.val (.ref a), .val (.ref s), .unset] []))
  have K0 : Keep h h [a, b] := Keep.refl _ _
  have E_s := S_s.1
  have F_coder_s := S_s.2.1
  refine Go.st (fun _ => XS.aloadN W0.here W0.ex rfl (hb hby d19_0) rfl rfl) ?_
  refine Go.st (fun _ => XS.ifnonnullYes W0.here W0.ex rfl (pc0 := 1) (pc' := 9) rfl (hb hby d19_1) rfl (by decide) (by decide)) ?_
  refine Go.st (fun _ => XS.aloadN W0.here W0.ex rfl (hb hby d19_9) rfl rfl) ?_
  show Go _ _ _ _ (T0.setTop (mkF m_ 10 #[.val (.ref a), .val (.ref s), .unset] [(.ref s)]))
  obtain ⟨k1_1, V1_1⟩ := S_s.kb
  refine W0.libV (y := Y27) (z := Y27) (cx.w 130 rfl) (cx.w 131 rfl) (cx.w 133 rfl) (cx.w 132 rfl) (W0.nf (cx.w 133 rfl)) (by decide) E_s (Q := fun v h' L' => v = some (.int (Int32.ofNat (([c0, c1] : List Int32)).length)) ∧ L' = [] ∧ h' = h) (ws := []) (Wd := 0) (ck := 0) (cn := 0) (StrChars.Road.lenW (W := 0) W0.hZ cx.lw (kI := 4) (cx.w 5 rfl) (cs := ([c0, c1] : List Int32)) S_s.1 S_s.2.2.1 S_s.2.1 V1_1 (StrChars.Road.codOf rfl fun c hc => (S_s.ch c hc).2) S_s.ch.up (cx.cmp.ext W0.e0) cx.g1 S_s.le (by decide) (by decide)) (fun v h' L' q => ⟨by rw [q.2.1]; exact Fr.nil _, by rw [q.2.2]; exact Keep.refl _ _⟩) all0 all0 (k' := 0) (n' := 0) rfl rfl (by decide) (by decide) (by rw [hml]; rfl) (a := s) (argsL := []) (rest := []) rfl (lenOf pd14 rfl) rfl (Nat.le_of_eq rfl) (hb hby d19_10) ?_
  intro v2 T2 h2 M2 L2 W2 q2
  obtain ⟨rfl, -, eh_⟩ := q2
  subst h2
  refine Go.st (fun _ => XS.istoreN W2.here W2.ex rfl (hb hby d19_13) rfl (l' := #[.val (.ref a), .val (.ref s), .val (.int (2 : Int32))]) rfl) ?_
  refine Go.st (fun _ => XS.aloadN W2.here W2.ex rfl (hb hby d19_14) rfl rfl) ?_
  refine Go.st (fun _ => XS.aloadN W2.here W2.ex rfl (hb hby d19_15) rfl rfl) ?_
  show Go _ _ _ _ (T2.setTop (mkF m_ 16 #[.val (.ref a), .val (.ref s), .val (.int (2 : Int32))] [(.ref a), (.ref a)]))
  refine W2.getF (cx.w 141 rfl) Via.refl F_count_a (hb hby d19_16) ?_
  intro T3 W3
  refine Go.st (fun _ => XS.iloadN W3.here W3.ex rfl (hb hby d19_19) rfl) ?_
  refine Go.st (fun _ => XS.iadd W3.here W3.ex rfl (hb hby d19_20) rfl) ?_
  show Go _ _ _ _ (T3.setTop (mkF m_ 21 #[.val (.ref a), .val (.ref s), .val (.int (2 : Int32))] [(.int (7 : Int32)), (.ref a)]))
  refine W3.callV (y := Y10) (z := Y10) (cx.w 143 rfl) (declares_of (cx.w 144 rfl) (cx.w 147 rfl)) (cx.w 146 rfl) (cx.w 144 rfl) (cx.w 111 rfl) (cx.w 147 rfl) (W3.nf (cx.w 146 rfl)) (by decide) E_a (ct_ens7 cx W3.old a b kb (5 : Int32) [(.int (114 : Int32).toInt8.toInt32), (.int (111 : Int32).toInt8.toInt32), (.int (108 : Int32).toInt8.toInt32), (.int (101 : Int32).toInt8.toInt32), (.int (32 : Int32).toInt8.toInt32), (.int 0), (.int 0), (.int 0), (.int 0), (.int 0), (.int 0), (.int 0), (.int 0), (.int 0), (.int 0), (.int 0)] E_a F_value_a F_coder_a F_count_a V_b) all0 (by decide) (Wd := 0) (by decide) (k' := 0) (n' := 0) rfl rfl (by decide) (by decide) (by rw [hml]; rfl) (a := a) (argsL := [(.int (7 : Int32))]) (rest := []) rfl (lenOf pd10 rfl) rfl (Nat.le_of_eq rfl) (hb hby d19_21) ?_
  intro v4 vm4 T4 h4 L4 W4 q4
  obtain ⟨rfl, eh_⟩ := q4
  subst h4
  refine Go.st (fun _ => XS.aloadN W4.here W4.ex rfl (hb hby d19_24) rfl rfl) ?_
  refine Go.st (fun _ => XS.aloadN W4.here W4.ex rfl (hb hby d19_25) rfl rfl) ?_
  show Go _ _ _ _ (T4.setTop (mkF m_ 26 #[.val (.ref a), .val (.ref s), .val (.int (2 : Int32))] [(.ref a), (.ref a)]))
  refine W4.getF (cx.w 141 rfl) Via.refl F_count_a (hb hby d19_26) ?_
  intro T5 W5
  refine Go.st (fun _ => XS.aloadN W5.here W5.ex rfl (hb hby d19_29) rfl rfl) ?_
  show Go _ _ _ _ (T5.setTop (mkF m_ 30 #[.val (.ref a), .val (.ref s), .val (.int (2 : Int32))] [(.ref s), (.int (5 : Int32)), (.ref a)]))
  refine W5.callV (y := Y15) (z := Y15) (cx.w 148 rfl) (declares_of (cx.w 149 rfl) (cx.w 152 rfl)) (cx.w 151 rfl) (cx.w 149 rfl) (cx.w 111 rfl) (cx.w 152 rfl) (W5.nf (cx.w 151 rfl)) (by decide) E_a (ct_psa5_2 cx W5.old a s t b kb c0 c1 E_a F_value_a F_coder_a F_count_a g_a S_s V_b g_b ne_t_b) (allS (List.mem_of_getElem? (i := 1) rfl) all0) (by decide) (Wd := 0) (by decide) (k' := 0) (n' := 0) rfl rfl (by decide) (by decide) (by rw [hml]; rfl) (a := a) (argsL := [(.int (5 : Int32)), (.ref s)]) (rest := []) rfl (lenOf pd15 rfl) rfl (Nat.le_of_eq rfl) (hb hby d19_30) ?_
  intro v6 vm6 T6 h6 L6 W6 q6
  obtain ⟨rfl, K1, V_n⟩ := q6
  have ne_a_b : a ≠ b := (Exa.neArv E_a V_b (cx.w 102 rfl))
  have ne_s_b : s ≠ b := (Exa.neArv E_s V_b (cx.w 5 rfl))
  replace E_a := E_a.keep K1
  replace F_value_a := F_value_a.keep K1 (ninS ne_a_b nin0)
  replace F_coder_a := F_coder_a.keep K1 (ninS ne_a_b nin0)
  replace F_count_a := F_count_a.keep K1 (ninS ne_a_b nin0)
  replace S_s := S_s.keep K1 (ninS ne_s_b nin0) (ninS ne_t_b nin0)
  replace E_s := E_s.keep K1
  replace F_coder_s := F_coder_s.keep K1 (ninS ne_s_b nin0)
  replace K0 := K0.trans K1 (allS (Or.inl (List.mem_of_getElem? (i := 1) rfl)) all0)
  refine Go.st (fun _ => XS.aloadN W6.here W6.ex rfl (hb hby d19_33) rfl rfl) ?_
  refine Go.st (fun _ => XS.dup W6.here W6.ex rfl (hb hby d19_34) rfl rfl) ?_
  show Go _ _ _ _ (T6.setTop (mkF m_ 35 #[.val (.ref a), .val (.ref s), .val (.int (2 : Int32))] [(.ref a), (.ref a)]))
  refine W6.getF (cx.w 141 rfl) Via.refl F_count_a (hb hby d19_35) ?_
  intro T7 W7
  refine Go.st (fun _ => XS.iloadN W7.here W7.ex rfl (hb hby d19_38) rfl) ?_
  refine Go.st (fun _ => XS.iadd W7.here W7.ex rfl (hb hby d19_39) rfl) ?_
  show Go _ _ _ _ (T7.setTop (mkF m_ 40 #[.val (.ref a), .val (.ref s), .val (.int (2 : Int32))] [(.int (7 : Int32)), (.ref a)]))
  refine W7.putF (cx.w 141 rfl) Via.refl F_count_a E_a (Or.inl (cx.w 142 rfl)) (cx.w 102 rfl) (ty := .int) (by decide) rfl rfl (List.mem_of_getElem? (i := 0) rfl) g_a (hb hby d19_40) ?_
  intro T8 h8 L8 W8 w8
  have ne_s_a : s ≠ a := (ne_exa E_s E_a (by decide))
  have ne_t_a : t ≠ a := (Ne.symm (Ne.symm (S_s.neT E_a (cx.w 102 rfl))))
  replace E_a := E_a.wr w8
  replace F_value_a := F_value_a.other w8 (Or.inr (slot_ne (Or.inl (cx.w 116 rfl)) (Or.inl (cx.w 142 rfl)) (by decide) (t := (.array .byte)) (t' := .int) (by decide) (by decide)))
  replace F_coder_a := F_coder_a.other w8 (Or.inr (slot_ne (Or.inl (cx.w 118 rfl)) (Or.inl (cx.w 142 rfl)) (by decide) (t := .byte) (t' := .int) (by decide) (by decide)))
  replace F_count_a := F_count_a.same w8
  replace S_s := S_s.wr w8 ne_s_a ne_t_a
  replace E_s := E_s.wr w8
  replace F_coder_s := F_coder_s.other w8 (Or.inl ne_s_a)
  replace V_n := V_n.other w8 (Ne.symm ne_a_b)
  replace K0 := K0.wr w8 (Or.inl (List.mem_of_getElem? (i := 0) rfl))
  refine Go.st (fun _ => XS.aloadN W8.here W8.ex rfl (hb hby d19_43) rfl rfl) ?_
  show Go _ _ _ _ (T8.setTop (mkF m_ 44 #[.val (.ref a), .val (.ref s), .val (.int (2 : Int32))] [(.ref a)]))
  exact W8.retA hret rfl rfl (hb hby d19_44) (by decide) (by decide) fun vr_ cr_ => ⟨rfl, K0, E_a, F_value_a, F_coder_a, F_count_a, V_n⟩
theorem ct_app5_2 {l : Launch} {Z a0 n0 g1 gf em es} (cx : Ctx Z a0 n0 g1 gf em es) {h : Heap} (O : Old Z n0 h) (a s t b : Addr) (kb : ClassId) (c0 c1 : Int32) (E_a : Exa Z h a "java/lang/StringBuilder") (F_value_a : Fld Z h a "java/lang/AbstractStringBuilder" "value" "[B" (.ref b)) (F_coder_a : Fld Z h a "java/lang/AbstractStringBuilder" "coder" "B" (.int (0 : Int32))) (F_count_a : Fld Z h a "java/lang/AbstractStringBuilder" "count" "I" (.int (5 : Int32))) (g_a : n0 ≤ a) (S_s : StrAt Z h s t ([c0, c1] : List Int32)) (V_b : Arv Z h b kb .byte 16 [(.int (114 : Int32).toInt8.toInt32), (.int (111 : Int32).toInt8.toInt32), (.int (108 : Int32).toInt8.toInt32), (.int (101 : Int32).toInt8.toInt32), (.int (32 : Int32).toInt8.toInt32), (.int 0), (.int 0), (.int 0), (.int 0), (.int 0), (.int 0), (.int 0), (.int 0), (.int 0), (.int 0), (.int 0)] (.int 0)) (g_b : n0 ≤ b) (ne_t_b : t ≠ b) :
    Ct l Z consts_1 n0 [] Y29 jdk_67_method_7_code 2 (some (.object "java/lang/StringBuilder")) ({ frames := 4, cells := 0, slots := 0, locals := 61 } : Room) #[(.ref a), (.ref s)] [a, b] h (fun v _ h' => v = some (.ref a) ∧ Keep h h' [a, b] ∧ Exa Z h' a "java/lang/StringBuilder" ∧ Fld Z h' a "java/lang/AbstractStringBuilder" "value" "[B" (.ref b) ∧ Fld Z h' a "java/lang/AbstractStringBuilder" "coder" "B" (.int (0 : Int32)) ∧ Fld Z h' a "java/lang/AbstractStringBuilder" "count" "I" (.int (7 : Int32)) ∧ Arv Z h' b kb .byte 16 [(.int (114 : Int32).toInt8.toInt32), (.int (111 : Int32).toInt8.toInt32), (.int (108 : Int32).toInt8.toInt32), (.int (101 : Int32).toInt8.toInt32), (.int (32 : Int32).toInt8.toInt32), (.int c0.toInt8.toInt32), (.int c1.toInt8.toInt32), (.int 0), (.int 0), (.int 0), (.int 0), (.int 0), (.int 0), (.int 0), (.int 0), (.int 0)] (.int 0)) := by
  refine Ct.intro (plainFor_of_name pn14) O cx.ew ?_
  intro p_ e_ s_ m_ bl_ mt_ c_ T0 W0 hby hml hret hnm
  refine Go.st (fun t_ k_ => castTop (g' := mkF m_ 0 #[.val (.ref a), .val (.ref s)] []) (by first | (simp [entryFrame, mkF, argsToLocals, Value.category]; done) | rfl) k_) ?_
  refine Go.st (fun _ => XS.aloadN W0.here W0.ex rfl (hb hby d18_0) rfl rfl) ?_
  refine Go.st (fun _ => XS.aloadN W0.here W0.ex rfl (hb hby d18_1) rfl rfl) ?_
  show Go _ _ _ _ (T0.setTop (mkF m_ 2 #[.val (.ref a), .val (.ref s)] [(.ref s), (.ref a)]))
  refine W0.callU (y := Y9) (y' := Y10) (cx.w 125 rfl) (cx.w 146 rfl) rfl (cx.w 127 rfl) (cx.w 126 rfl) (cx.w 111 rfl) (cx.w 129 rfl) (by decide) (by decide) (Ins.self E_a) (ct_aap5_2 cx W0.old a s t b kb c0 c1 E_a F_value_a F_coder_a F_count_a g_a S_s V_b g_b ne_t_b) (allS (List.mem_of_getElem? (i := 0) rfl) (allS (List.mem_of_getElem? (i := 1) rfl) all0)) (by decide) (Wd := 0) (by decide) (k' := 0) (n' := 0) rfl rfl (by decide) (by decide) (by rw [hml]; rfl) (a := a) (argsL := [(.ref s)]) (rest := []) rfl (lenOf pd16 rfl) rfl (Nat.le_of_eq rfl) (hb hby d18_2) ?_
  intro v1 vm1 T1 h1 L1 W1 q1
  obtain ⟨rfl, K1, E_n, G1, G2, G3, V_n⟩ := q1
  refine Go.st (fun _ => XS.pop W1.here W1.ex rfl (hb hby d18_5) rfl rfl) ?_
  refine Go.st (fun _ => XS.aloadN W1.here W1.ex rfl (hb hby d18_6) rfl rfl) ?_
  show Go _ _ _ _ (T1.setTop (mkF m_ 7 #[.val (.ref a), .val (.ref s)] [(.ref a)]))
  exact W1.retA hret rfl rfl (hb hby d18_7) (by decide) (by decide) fun vr_ cr_ => ⟨rfl, K1, E_n, G1, G2, G3, V_n⟩
theorem ct_gb5_3 {l : Launch} {Z a0 n0 g1 gf em es} (cx : Ctx Z a0 n0 g1 gf em es) {h : Heap} (O : Old Z n0 h) (s t b : Addr) (kb : ClassId) (c0 c1 c2 : Int32) (S_s : StrAt Z h s t ([c0, c1, c2] : List Int32)) (V_b : Arv Z h b kb .byte 16 [(.int (114 : Int32).toInt8.toInt32), (.int (111 : Int32).toInt8.toInt32), (.int (108 : Int32).toInt8.toInt32), (.int (101 : Int32).toInt8.toInt32), (.int (32 : Int32).toInt8.toInt32), (.int 0), (.int 0), (.int 0), (.int 0), (.int 0), (.int 0), (.int 0), (.int 0), (.int 0), (.int 0), (.int 0)] (.int 0)) (g_b : n0 ≤ b) (ne_t_b : t ≠ b) :
    Ct l Z consts_1 n0 [] Y26 jdk_42_method_147_code 4 none ({ frames := 1, cells := 0, slots := 0, locals := 18 } : Room) #[(.ref s), (.ref b), (.int (5 : Int32)), (.int (0 : Int32))] [b] h (fun v _ h' => v = none ∧ Keep h h' [b] ∧ Arv Z h' b kb .byte 16 [(.int (114 : Int32).toInt8.toInt32), (.int (111 : Int32).toInt8.toInt32), (.int (108 : Int32).toInt8.toInt32), (.int (101 : Int32).toInt8.toInt32), (.int (32 : Int32).toInt8.toInt32), (.int c0.toInt8.toInt32), (.int c1.toInt8.toInt32), (.int c2.toInt8.toInt32), (.int 0), (.int 0), (.int 0), (.int 0), (.int 0), (.int 0), (.int 0), (.int 0)] (.int 0)) := by
  refine Ct.intro (plainFor_of_name pn0) O cx.ew ?_
  intro p_ e_ s_ m_ bl_ mt_ c_ T0 W0 hby hml hret hnm
  refine Go.st (fun t_ k_ => castTop (g' := mkF m_ 0 #[.val (.ref s), .val (.ref b), .val (.int (5 : Int32)), .val (.int (0 : Int32))] []) (by first | (simp [entryFrame, mkF, argsToLocals, Value.category]; done) | rfl) k_) ?_
  show Go _ _ _ _ (T0.setTop (mkF m_ 0 #[.val (.ref s), .val (.ref b), .val (.int (5 : Int32)), .val (.int (0 : Int32))] []))
  have K0 : Keep h h [b] := Keep.refl _ _
  have E_s := S_s.1
  have F_coder_s := S_s.2.1
  have F_value_s := S_s.2.2.1
  obtain ⟨k_t, V_t⟩ := S_s.kb
  replace V_t : Arv Z h t k_t .byte (3 : Int32) [(.int c0.toInt8.toInt32), (.int c1.toInt8.toInt32), (.int c2.toInt8.toInt32)] (.int 0) := V_t
  refine Go.st (fun _ => XS.aloadN W0.here W0.ex rfl (hb hby d25_0) rfl rfl) ?_
  show Go _ _ _ _ (T0.setTop (mkF m_ 1 #[.val (.ref s), .val (.ref b), .val (.int (5 : Int32)), .val (.int (0 : Int32))] [(.ref s)]))
  refine W0.callV (y := Y24) (z := Y24) (cx.w 135 rfl) (cx.w 136 rfl) (cx.w 138 rfl) (cx.w 137 rfl) (cx.w 6 rfl) (cx.w 139 rfl) (W0.nf (cx.w 138 rfl)) (by decide) E_s (ct_cod cx W0.old s t ([c0, c1, c2] : List Int32) S_s) all0 (by decide) (Wd := 0) (by decide) (k' := 0) (n' := 0) rfl rfl (by decide) (by decide) (by rw [hml]; rfl) (a := s) (argsL := []) (rest := []) rfl (lenOf pd11 rfl) rfl (Nat.le_of_eq rfl) (hb hby d25_1) ?_
  intro v1 vm1 T1 h1 L1 W1 q1
  obtain ⟨rfl, eh_⟩ := q1
  subst h1
  refine Go.st (fun _ => XS.iloadN W1.here W1.ex rfl (hb hby d25_4) rfl) ?_
  refine Go.st (fun _ => XS.icmpNo W1.here W1.ex rfl (hb hby d25_5) rfl (teq (rfl : (0 : Int32) = (0 : Int32))).2) ?_
  refine Go.st (fun _ => XS.aloadN W1.here W1.ex rfl (hb hby d25_8) rfl rfl) ?_
  show Go _ _ _ _ (T1.setTop (mkF m_ 9 #[.val (.ref s), .val (.ref b), .val (.int (5 : Int32)), .val (.int (0 : Int32))] [(.ref s)]))
  refine W1.getF (cx.w 24 rfl) Via.refl F_value_s (hb hby d25_9) ?_
  intro T2 W2
  refine Go.st (fun _ => XS.iconst W2.here W2.ex rfl (hb hby d25_12)) ?_
  refine Go.st (fun _ => XS.aloadN W2.here W2.ex rfl (hb hby d25_13) rfl rfl) ?_
  refine Go.st (fun _ => XS.iloadN W2.here W2.ex rfl (hb hby d25_14) rfl) ?_
  show Go _ _ _ _ (T2.setTop (mkF m_ 15 #[.val (.ref s), .val (.ref b), .val (.int (5 : Int32)), .val (.int (0 : Int32))] [(.int (5 : Int32)), (.ref b), (.int (0 : Int32)), (.ref t)]))
  refine Go.st (fun _ => XS.iloadN W2.here W2.ex rfl (hb hby d25_15) rfl) ?_
  refine Go.st (fun _ => XS.ishl W2.here W2.ex rfl (hb hby d25_16) rfl) ?_
  refine Go.st (fun _ => XS.aloadN W2.here W2.ex rfl (hb hby d25_17) rfl rfl) ?_
  show Go _ _ _ _ (T2.setTop (mkF m_ 18 #[.val (.ref s), .val (.ref b), .val (.int (5 : Int32)), .val (.int (0 : Int32))] [(.ref s), (.int (5 : Int32)), (.ref b), (.int (0 : Int32)), (.ref t)]))
  refine W2.getF (cx.w 24 rfl) Via.refl F_value_s (hb hby d25_18) ?_
  intro T3 W3
  show Go _ _ _ _ (T3.setTop (mkF m_ 21 #[.val (.ref s), .val (.ref b), .val (.int (5 : Int32)), .val (.int (0 : Int32))] [(.ref t), (.int (5 : Int32)), (.ref b), (.int (0 : Int32)), (.ref t)]))
  refine W3.alen V_t (hb hby d25_21) ?_
  show Go _ _ _ _ (T3.setTop (mkF m_ 22 #[.val (.ref s), .val (.ref b), .val (.int (5 : Int32)), .val (.int (0 : Int32))] [(.int (3 : Int32)), (.int (5 : Int32)), (.ref b), (.int (0 : Int32)), (.ref t)]))
  refine W3.cpP (cx.w 164 rfl) (cx.w 167 rfl) (cx.w 165 rfl) (cx.w 166 rfl) V_t V_b rfl (by decide) (by decide) (by decide) (by decide) (by decide) (us := [(.int c0.toInt8.toInt32), (.int c1.toInt8.toInt32), (.int c2.toInt8.toInt32)]) rfl (Nat.le_of_ble_eq_true rfl) (List.mem_of_getElem? (i := 0) rfl) g_b (by rw [hml]; rfl) (hb hby d25_22) (by decide) (Wd := 0) (Nat.le_of_eq rfl) (by decide) ?_
  intro T4 h4 L4 W4 Kc4 V_new
  have ne_s_b : s ≠ b := (Exa.neArv E_s V_b (cx.w 5 rfl))
  replace S_s := S_s.keep Kc4 (ninS ne_s_b nin0) (ninS ne_t_b nin0)
  replace E_s := E_s.keep Kc4
  replace F_coder_s := F_coder_s.keep Kc4 (ninS ne_s_b nin0)
  replace F_value_s := F_value_s.keep Kc4 (ninS ne_s_b nin0)
  replace V_t := V_t.keep Kc4 (ninS ne_t_b nin0)
  replace K0 := K0.trans Kc4 (allS (Or.inl (List.mem_of_getElem? (i := 0) rfl)) all0)
  replace V_b : Arv Z h4 b kb .byte (16 : Int32) [(.int (114 : Int32).toInt8.toInt32), (.int (111 : Int32).toInt8.toInt32), (.int (108 : Int32).toInt8.toInt32), (.int (101 : Int32).toInt8.toInt32), (.int (32 : Int32).toInt8.toInt32), (.int c0.toInt8.toInt32), (.int c1.toInt8.toInt32), (.int c2.toInt8.toInt32), (.int 0), (.int 0), (.int 0), (.int 0), (.int 0), (.int 0), (.int 0), (.int 0)] (.int 0) := V_new
  clear V_new
  refine Go.st (fun _ => XS.goto W4.here W4.ex rfl (pc0 := 25) (pc' := 43) rfl (hb hby d25_25) (by decide) (by decide)) ?_
  show Go _ _ _ _ (T4.setTop (mkF m_ 43 #[.val (.ref s), .val (.ref b), .val (.int (5 : Int32)), .val (.int (0 : Int32))] []))
  exact W4.retV hret (hb hby d25_43) (by decide) (by decide) fun vr_ cr_ => ⟨rfl, K0, V_b⟩
theorem ct_psa5_3 {l : Launch} {Z a0 n0 g1 gf em es} (cx : Ctx Z a0 n0 g1 gf em es) {h : Heap} (O : Old Z n0 h) (a s t b : Addr) (kb : ClassId) (c0 c1 c2 : Int32) (E_a : Exa Z h a "java/lang/StringBuilder") (F_value_a : Fld Z h a "java/lang/AbstractStringBuilder" "value" "[B" (.ref b)) (F_coder_a : Fld Z h a "java/lang/AbstractStringBuilder" "coder" "B" (.int (0 : Int32))) (F_count_a : Fld Z h a "java/lang/AbstractStringBuilder" "count" "I" (.int (5 : Int32))) (g_a : n0 ≤ a) (S_s : StrAt Z h s t ([c0, c1, c2] : List Int32)) (V_b : Arv Z h b kb .byte 16 [(.int (114 : Int32).toInt8.toInt32), (.int (111 : Int32).toInt8.toInt32), (.int (108 : Int32).toInt8.toInt32), (.int (101 : Int32).toInt8.toInt32), (.int (32 : Int32).toInt8.toInt32), (.int 0), (.int 0), (.int 0), (.int 0), (.int 0), (.int 0), (.int 0), (.int 0), (.int 0), (.int 0), (.int 0)] (.int 0)) (g_b : n0 ≤ b) (ne_t_b : t ≠ b) :
    Ct l Z consts_1 n0 [] Y15 jdk_68_method_73_code 3 none ({ frames := 2, cells := 0, slots := 0, locals := 33 } : Room) #[(.ref a), (.int (5 : Int32)), (.ref s)] [b] h (fun v _ h' => v = none ∧ Keep h h' [b] ∧ Arv Z h' b kb .byte 16 [(.int (114 : Int32).toInt8.toInt32), (.int (111 : Int32).toInt8.toInt32), (.int (108 : Int32).toInt8.toInt32), (.int (101 : Int32).toInt8.toInt32), (.int (32 : Int32).toInt8.toInt32), (.int c0.toInt8.toInt32), (.int c1.toInt8.toInt32), (.int c2.toInt8.toInt32), (.int 0), (.int 0), (.int 0), (.int 0), (.int 0), (.int 0), (.int 0), (.int 0)] (.int 0)) := by
  refine Ct.intro (plainFor_of_name pn13) O cx.ew ?_
  intro p_ e_ s_ m_ bl_ mt_ c_ T0 W0 hby hml hret hnm
  refine Go.st (fun t_ k_ => castTop (g' := mkF m_ 0 #[.val (.ref a), .val (.int (5 : Int32)), .val (.ref s)] []) (by first | (simp [entryFrame, mkF, argsToLocals, Value.category]; done) | rfl) k_) ?_
  show Go _ _ _ _ (T0.setTop (mkF m_ 0 #[.val (.ref a), .val (.int (5 : Int32)), .val (.ref s)] []))
  have E_s := S_s.1
  have F_coder_s := S_s.2.1
  refine Go.st (fun _ => XS.aloadN W0.here W0.ex rfl (hb hby d23_0) rfl rfl) ?_
  refine Go.st (fun _ => XS.aloadN W0.here W0.ex rfl (hb hby d23_1) rfl rfl) ?_
  show Go _ _ _ _ (T0.setTop (mkF m_ 2 #[.val (.ref a), .val (.int (5 : Int32)), .val (.ref s)] [(.ref s), (.ref a)]))
  refine W0.callV (y := Y12) (z := Y12) (cx.w 153 rfl) (declares_of (cx.w 154 rfl) (cx.w 157 rfl)) (cx.w 156 rfl) (cx.w 154 rfl) (cx.w 111 rfl) (cx.w 157 rfl) (W0.nf (cx.w 156 rfl)) (by decide) E_a (ct_inf cx W0.old a b s t ([c0, c1, c2] : List Int32) (5 : Int32) E_a F_value_a F_coder_a F_count_a S_s) all0 (by decide) (Wd := 0) (by decide) (k' := 0) (n' := 0) rfl rfl (by decide) (by decide) (by rw [hml]; rfl) (a := a) (argsL := [(.ref s)]) (rest := []) rfl (lenOf pd12 rfl) rfl (Nat.le_of_eq rfl) (hb hby d23_2) ?_
  intro v1 vm1 T1 h1 L1 W1 q1
  obtain ⟨rfl, eh_⟩ := q1
  subst h1
  refine Go.st (fun _ => XS.aloadN W1.here W1.ex rfl (hb hby d23_5) rfl rfl) ?_
  refine Go.st (fun _ => XS.aloadN W1.here W1.ex rfl (hb hby d23_6) rfl rfl) ?_
  show Go _ _ _ _ (T1.setTop (mkF m_ 7 #[.val (.ref a), .val (.int (5 : Int32)), .val (.ref s)] [(.ref a), (.ref s)]))
  refine W1.getF (cx.w 115 rfl) Via.refl F_value_a (hb hby d23_7) ?_
  intro T2 W2
  refine Go.st (fun _ => XS.iloadN W2.here W2.ex rfl (hb hby d23_10) rfl) ?_
  refine Go.st (fun _ => XS.aloadN W2.here W2.ex rfl (hb hby d23_11) rfl rfl) ?_
  show Go _ _ _ _ (T2.setTop (mkF m_ 12 #[.val (.ref a), .val (.int (5 : Int32)), .val (.ref s)] [(.ref a), (.int (5 : Int32)), (.ref b), (.ref s)]))
  refine W2.getF (cx.w 117 rfl) Via.refl F_coder_a (hb hby d23_12) ?_
  intro T3 W3
  show Go _ _ _ _ (T3.setTop (mkF m_ 15 #[.val (.ref a), .val (.int (5 : Int32)), .val (.ref s)] [(.int (0 : Int32)), (.int (5 : Int32)), (.ref b), (.ref s)]))
  refine W3.callV (y := Y26) (z := Y26) (cx.w 159 rfl) (cx.w 160 rfl) (cx.w 162 rfl) (cx.w 161 rfl) (cx.w 6 rfl) (cx.w 163 rfl) (W3.nf (cx.w 162 rfl)) (by decide) E_s (ct_gb5_3 cx W3.old s t b kb c0 c1 c2 S_s V_b g_b ne_t_b) (allS (List.mem_of_getElem? (i := 0) rfl) all0) (by decide) (Wd := 0) (by decide) (k' := 0) (n' := 0) rfl rfl (by decide) (by decide) (by rw [hml]; rfl) (a := s) (argsL := [(.ref b), (.int (5 : Int32)), (.int (0 : Int32))]) (rest := []) rfl (lenOf pd13 rfl) rfl (Nat.le_of_eq rfl) (hb hby d23_15) ?_
  intro v4 vm4 T4 h4 L4 W4 q4
  obtain ⟨rfl, K1, V_n⟩ := q4
  show Go _ _ _ _ (T4.setTop (mkF m_ 18 #[.val (.ref a), .val (.int (5 : Int32)), .val (.ref s)] []))
  exact W4.retV hret (hb hby d23_18) (by decide) (by decide) fun vr_ cr_ => ⟨rfl, K1, V_n⟩
theorem ct_aap5_3 {l : Launch} {Z a0 n0 g1 gf em es} (cx : Ctx Z a0 n0 g1 gf em es) {h : Heap} (O : Old Z n0 h) (a s t b : Addr) (kb : ClassId) (c0 c1 c2 : Int32) (E_a : Exa Z h a "java/lang/StringBuilder") (F_value_a : Fld Z h a "java/lang/AbstractStringBuilder" "value" "[B" (.ref b)) (F_coder_a : Fld Z h a "java/lang/AbstractStringBuilder" "coder" "B" (.int (0 : Int32))) (F_count_a : Fld Z h a "java/lang/AbstractStringBuilder" "count" "I" (.int (5 : Int32))) (g_a : n0 ≤ a) (S_s : StrAt Z h s t ([c0, c1, c2] : List Int32)) (V_b : Arv Z h b kb .byte 16 [(.int (114 : Int32).toInt8.toInt32), (.int (111 : Int32).toInt8.toInt32), (.int (108 : Int32).toInt8.toInt32), (.int (101 : Int32).toInt8.toInt32), (.int (32 : Int32).toInt8.toInt32), (.int 0), (.int 0), (.int 0), (.int 0), (.int 0), (.int 0), (.int 0), (.int 0), (.int 0), (.int 0), (.int 0)] (.int 0)) (g_b : n0 ≤ b) (ne_t_b : t ≠ b) :
    Ct l Z consts_1 n0 [] Y9 jdk_68_method_22_code 3 (some (.object "java/lang/AbstractStringBuilder")) ({ frames := 3, cells := 0, slots := 0, locals := 47 } : Room) #[(.ref a), (.ref s)] [a, b] h (fun v _ h' => v = some (.ref a) ∧ Keep h h' [a, b] ∧ Exa Z h' a "java/lang/StringBuilder" ∧ Fld Z h' a "java/lang/AbstractStringBuilder" "value" "[B" (.ref b) ∧ Fld Z h' a "java/lang/AbstractStringBuilder" "coder" "B" (.int (0 : Int32)) ∧ Fld Z h' a "java/lang/AbstractStringBuilder" "count" "I" (.int (8 : Int32)) ∧ Arv Z h' b kb .byte 16 [(.int (114 : Int32).toInt8.toInt32), (.int (111 : Int32).toInt8.toInt32), (.int (108 : Int32).toInt8.toInt32), (.int (101 : Int32).toInt8.toInt32), (.int (32 : Int32).toInt8.toInt32), (.int c0.toInt8.toInt32), (.int c1.toInt8.toInt32), (.int c2.toInt8.toInt32), (.int 0), (.int 0), (.int 0), (.int 0), (.int 0), (.int 0), (.int 0), (.int 0)] (.int 0)) := by
  refine Ct.intro (plainFor_of_name pn13) O cx.ew ?_
  intro p_ e_ s_ m_ bl_ mt_ c_ T0 W0 hby hml hret hnm
  refine Go.st (fun t_ k_ => castTop (g' := mkF m_ 0 #[.val (.ref a), .val (.ref s), .unset] []) (by first | (simp [entryFrame, mkF, argsToLocals, Value.category]; done) | rfl) k_) ?_
  show Go _ _ _ _ (T0.setTop (mkF m_ 0 #[.val (.ref a), .val (.ref s), .unset] []))
  have K0 : Keep h h [a, b] := Keep.refl _ _
  have E_s := S_s.1
  have F_coder_s := S_s.2.1
  refine Go.st (fun _ => XS.aloadN W0.here W0.ex rfl (hb hby d19_0) rfl rfl) ?_
  refine Go.st (fun _ => XS.ifnonnullYes W0.here W0.ex rfl (pc0 := 1) (pc' := 9) rfl (hb hby d19_1) rfl (by decide) (by decide)) ?_
  refine Go.st (fun _ => XS.aloadN W0.here W0.ex rfl (hb hby d19_9) rfl rfl) ?_
  show Go _ _ _ _ (T0.setTop (mkF m_ 10 #[.val (.ref a), .val (.ref s), .unset] [(.ref s)]))
  obtain ⟨k1_1, V1_1⟩ := S_s.kb
  refine W0.libV (y := Y27) (z := Y27) (cx.w 130 rfl) (cx.w 131 rfl) (cx.w 133 rfl) (cx.w 132 rfl) (W0.nf (cx.w 133 rfl)) (by decide) E_s (Q := fun v h' L' => v = some (.int (Int32.ofNat (([c0, c1, c2] : List Int32)).length)) ∧ L' = [] ∧ h' = h) (ws := []) (Wd := 0) (ck := 0) (cn := 0) (StrChars.Road.lenW (W := 0) W0.hZ cx.lw (kI := 4) (cx.w 5 rfl) (cs := ([c0, c1, c2] : List Int32)) S_s.1 S_s.2.2.1 S_s.2.1 V1_1 (StrChars.Road.codOf rfl fun c hc => (S_s.ch c hc).2) S_s.ch.up (cx.cmp.ext W0.e0) cx.g1 S_s.le (by decide) (by decide)) (fun v h' L' q => ⟨by rw [q.2.1]; exact Fr.nil _, by rw [q.2.2]; exact Keep.refl _ _⟩) all0 all0 (k' := 0) (n' := 0) rfl rfl (by decide) (by decide) (by rw [hml]; rfl) (a := s) (argsL := []) (rest := []) rfl (lenOf pd14 rfl) rfl (Nat.le_of_eq rfl) (hb hby d19_10) ?_
  intro v2 T2 h2 M2 L2 W2 q2
  obtain ⟨rfl, -, eh_⟩ := q2
  subst h2
  refine Go.st (fun _ => XS.istoreN W2.here W2.ex rfl (hb hby d19_13) rfl (l' := #[.val (.ref a), .val (.ref s), .val (.int (3 : Int32))]) rfl) ?_
  refine Go.st (fun _ => XS.aloadN W2.here W2.ex rfl (hb hby d19_14) rfl rfl) ?_
  refine Go.st (fun _ => XS.aloadN W2.here W2.ex rfl (hb hby d19_15) rfl rfl) ?_
  show Go _ _ _ _ (T2.setTop (mkF m_ 16 #[.val (.ref a), .val (.ref s), .val (.int (3 : Int32))] [(.ref a), (.ref a)]))
  refine W2.getF (cx.w 141 rfl) Via.refl F_count_a (hb hby d19_16) ?_
  intro T3 W3
  refine Go.st (fun _ => XS.iloadN W3.here W3.ex rfl (hb hby d19_19) rfl) ?_
  refine Go.st (fun _ => XS.iadd W3.here W3.ex rfl (hb hby d19_20) rfl) ?_
  show Go _ _ _ _ (T3.setTop (mkF m_ 21 #[.val (.ref a), .val (.ref s), .val (.int (3 : Int32))] [(.int (8 : Int32)), (.ref a)]))
  refine W3.callV (y := Y10) (z := Y10) (cx.w 143 rfl) (declares_of (cx.w 144 rfl) (cx.w 147 rfl)) (cx.w 146 rfl) (cx.w 144 rfl) (cx.w 111 rfl) (cx.w 147 rfl) (W3.nf (cx.w 146 rfl)) (by decide) E_a (ct_ens8 cx W3.old a b kb (5 : Int32) [(.int (114 : Int32).toInt8.toInt32), (.int (111 : Int32).toInt8.toInt32), (.int (108 : Int32).toInt8.toInt32), (.int (101 : Int32).toInt8.toInt32), (.int (32 : Int32).toInt8.toInt32), (.int 0), (.int 0), (.int 0), (.int 0), (.int 0), (.int 0), (.int 0), (.int 0), (.int 0), (.int 0), (.int 0)] E_a F_value_a F_coder_a F_count_a V_b) all0 (by decide) (Wd := 0) (by decide) (k' := 0) (n' := 0) rfl rfl (by decide) (by decide) (by rw [hml]; rfl) (a := a) (argsL := [(.int (8 : Int32))]) (rest := []) rfl (lenOf pd10 rfl) rfl (Nat.le_of_eq rfl) (hb hby d19_21) ?_
  intro v4 vm4 T4 h4 L4 W4 q4
  obtain ⟨rfl, eh_⟩ := q4
  subst h4
  refine Go.st (fun _ => XS.aloadN W4.here W4.ex rfl (hb hby d19_24) rfl rfl) ?_
  refine Go.st (fun _ => XS.aloadN W4.here W4.ex rfl (hb hby d19_25) rfl rfl) ?_
  show Go _ _ _ _ (T4.setTop (mkF m_ 26 #[.val (.ref a), .val (.ref s), .val (.int (3 : Int32))] [(.ref a), (.ref a)]))
  refine W4.getF (cx.w 141 rfl) Via.refl F_count_a (hb hby d19_26) ?_
  intro T5 W5
  refine Go.st (fun _ => XS.aloadN W5.here W5.ex rfl (hb hby d19_29) rfl rfl) ?_
  show Go _ _ _ _ (T5.setTop (mkF m_ 30 #[.val (.ref a), .val (.ref s), .val (.int (3 : Int32))] [(.ref s), (.int (5 : Int32)), (.ref a)]))
  refine W5.callV (y := Y15) (z := Y15) (cx.w 148 rfl) (declares_of (cx.w 149 rfl) (cx.w 152 rfl)) (cx.w 151 rfl) (cx.w 149 rfl) (cx.w 111 rfl) (cx.w 152 rfl) (W5.nf (cx.w 151 rfl)) (by decide) E_a (ct_psa5_3 cx W5.old a s t b kb c0 c1 c2 E_a F_value_a F_coder_a F_count_a g_a S_s V_b g_b ne_t_b) (allS (List.mem_of_getElem? (i := 1) rfl) all0) (by decide) (Wd := 0) (by decide) (k' := 0) (n' := 0) rfl rfl (by decide) (by decide) (by rw [hml]; rfl) (a := a) (argsL := [(.int (5 : Int32)), (.ref s)]) (rest := []) rfl (lenOf pd15 rfl) rfl (Nat.le_of_eq rfl) (hb hby d19_30) ?_
  intro v6 vm6 T6 h6 L6 W6 q6
  obtain ⟨rfl, K1, V_n⟩ := q6
  have ne_a_b : a ≠ b := (Exa.neArv E_a V_b (cx.w 102 rfl))
  have ne_s_b : s ≠ b := (Exa.neArv E_s V_b (cx.w 5 rfl))
  replace E_a := E_a.keep K1
  replace F_value_a := F_value_a.keep K1 (ninS ne_a_b nin0)
  replace F_coder_a := F_coder_a.keep K1 (ninS ne_a_b nin0)
  replace F_count_a := F_count_a.keep K1 (ninS ne_a_b nin0)
  replace S_s := S_s.keep K1 (ninS ne_s_b nin0) (ninS ne_t_b nin0)
  replace E_s := E_s.keep K1
  replace F_coder_s := F_coder_s.keep K1 (ninS ne_s_b nin0)
  replace K0 := K0.trans K1 (allS (Or.inl (List.mem_of_getElem? (i := 1) rfl)) all0)
  refine Go.st (fun _ => XS.aloadN W6.here W6.ex rfl (hb hby d19_33) rfl rfl) ?_
  refine Go.st (fun _ => XS.dup W6.here W6.ex rfl (hb hby d19_34) rfl rfl) ?_
  show Go _ _ _ _ (T6.setTop (mkF m_ 35 #[.val (.ref a), .val (.ref s), .val (.int (3 : Int32))] [(.ref a), (.ref a)]))
  refine W6.getF (cx.w 141 rfl) Via.refl F_count_a (hb hby d19_35) ?_
  intro T7 W7
  refine Go.st (fun _ => XS.iloadN W7.here W7.ex rfl (hb hby d19_38) rfl) ?_
  refine Go.st (fun _ => XS.iadd W7.here W7.ex rfl (hb hby d19_39) rfl) ?_
  show Go _ _ _ _ (T7.setTop (mkF m_ 40 #[.val (.ref a), .val (.ref s), .val (.int (3 : Int32))] [(.int (8 : Int32)), (.ref a)]))
  refine W7.putF (cx.w 141 rfl) Via.refl F_count_a E_a (Or.inl (cx.w 142 rfl)) (cx.w 102 rfl) (ty := .int) (by decide) rfl rfl (List.mem_of_getElem? (i := 0) rfl) g_a (hb hby d19_40) ?_
  intro T8 h8 L8 W8 w8
  have ne_s_a : s ≠ a := (ne_exa E_s E_a (by decide))
  have ne_t_a : t ≠ a := (Ne.symm (Ne.symm (S_s.neT E_a (cx.w 102 rfl))))
  replace E_a := E_a.wr w8
  replace F_value_a := F_value_a.other w8 (Or.inr (slot_ne (Or.inl (cx.w 116 rfl)) (Or.inl (cx.w 142 rfl)) (by decide) (t := (.array .byte)) (t' := .int) (by decide) (by decide)))
  replace F_coder_a := F_coder_a.other w8 (Or.inr (slot_ne (Or.inl (cx.w 118 rfl)) (Or.inl (cx.w 142 rfl)) (by decide) (t := .byte) (t' := .int) (by decide) (by decide)))
  replace F_count_a := F_count_a.same w8
  replace S_s := S_s.wr w8 ne_s_a ne_t_a
  replace E_s := E_s.wr w8
  replace F_coder_s := F_coder_s.other w8 (Or.inl ne_s_a)
  replace V_n := V_n.other w8 (Ne.symm ne_a_b)
  replace K0 := K0.wr w8 (Or.inl (List.mem_of_getElem? (i := 0) rfl))
  refine Go.st (fun _ => XS.aloadN W8.here W8.ex rfl (hb hby d19_43) rfl rfl) ?_
  show Go _ _ _ _ (T8.setTop (mkF m_ 44 #[.val (.ref a), .val (.ref s), .val (.int (3 : Int32))] [(.ref a)]))
  exact W8.retA hret rfl rfl (hb hby d19_44) (by decide) (by decide) fun vr_ cr_ => ⟨rfl, K0, E_a, F_value_a, F_coder_a, F_count_a, V_n⟩
theorem ct_app5_3 {l : Launch} {Z a0 n0 g1 gf em es} (cx : Ctx Z a0 n0 g1 gf em es) {h : Heap} (O : Old Z n0 h) (a s t b : Addr) (kb : ClassId) (c0 c1 c2 : Int32) (E_a : Exa Z h a "java/lang/StringBuilder") (F_value_a : Fld Z h a "java/lang/AbstractStringBuilder" "value" "[B" (.ref b)) (F_coder_a : Fld Z h a "java/lang/AbstractStringBuilder" "coder" "B" (.int (0 : Int32))) (F_count_a : Fld Z h a "java/lang/AbstractStringBuilder" "count" "I" (.int (5 : Int32))) (g_a : n0 ≤ a) (S_s : StrAt Z h s t ([c0, c1, c2] : List Int32)) (V_b : Arv Z h b kb .byte 16 [(.int (114 : Int32).toInt8.toInt32), (.int (111 : Int32).toInt8.toInt32), (.int (108 : Int32).toInt8.toInt32), (.int (101 : Int32).toInt8.toInt32), (.int (32 : Int32).toInt8.toInt32), (.int 0), (.int 0), (.int 0), (.int 0), (.int 0), (.int 0), (.int 0), (.int 0), (.int 0), (.int 0), (.int 0)] (.int 0)) (g_b : n0 ≤ b) (ne_t_b : t ≠ b) :
    Ct l Z consts_1 n0 [] Y29 jdk_67_method_7_code 2 (some (.object "java/lang/StringBuilder")) ({ frames := 4, cells := 0, slots := 0, locals := 61 } : Room) #[(.ref a), (.ref s)] [a, b] h (fun v _ h' => v = some (.ref a) ∧ Keep h h' [a, b] ∧ Exa Z h' a "java/lang/StringBuilder" ∧ Fld Z h' a "java/lang/AbstractStringBuilder" "value" "[B" (.ref b) ∧ Fld Z h' a "java/lang/AbstractStringBuilder" "coder" "B" (.int (0 : Int32)) ∧ Fld Z h' a "java/lang/AbstractStringBuilder" "count" "I" (.int (8 : Int32)) ∧ Arv Z h' b kb .byte 16 [(.int (114 : Int32).toInt8.toInt32), (.int (111 : Int32).toInt8.toInt32), (.int (108 : Int32).toInt8.toInt32), (.int (101 : Int32).toInt8.toInt32), (.int (32 : Int32).toInt8.toInt32), (.int c0.toInt8.toInt32), (.int c1.toInt8.toInt32), (.int c2.toInt8.toInt32), (.int 0), (.int 0), (.int 0), (.int 0), (.int 0), (.int 0), (.int 0), (.int 0)] (.int 0)) := by
  refine Ct.intro (plainFor_of_name pn14) O cx.ew ?_
  intro p_ e_ s_ m_ bl_ mt_ c_ T0 W0 hby hml hret hnm
  refine Go.st (fun t_ k_ => castTop (g' := mkF m_ 0 #[.val (.ref a), .val (.ref s)] []) (by first | (simp [entryFrame, mkF, argsToLocals, Value.category]; done) | rfl) k_) ?_
  refine Go.st (fun _ => XS.aloadN W0.here W0.ex rfl (hb hby d18_0) rfl rfl) ?_
  refine Go.st (fun _ => XS.aloadN W0.here W0.ex rfl (hb hby d18_1) rfl rfl) ?_
  show Go _ _ _ _ (T0.setTop (mkF m_ 2 #[.val (.ref a), .val (.ref s)] [(.ref s), (.ref a)]))
  refine W0.callU (y := Y9) (y' := Y10) (cx.w 125 rfl) (cx.w 146 rfl) rfl (cx.w 127 rfl) (cx.w 126 rfl) (cx.w 111 rfl) (cx.w 129 rfl) (by decide) (by decide) (Ins.self E_a) (ct_aap5_3 cx W0.old a s t b kb c0 c1 c2 E_a F_value_a F_coder_a F_count_a g_a S_s V_b g_b ne_t_b) (allS (List.mem_of_getElem? (i := 0) rfl) (allS (List.mem_of_getElem? (i := 1) rfl) all0)) (by decide) (Wd := 0) (by decide) (k' := 0) (n' := 0) rfl rfl (by decide) (by decide) (by rw [hml]; rfl) (a := a) (argsL := [(.ref s)]) (rest := []) rfl (lenOf pd16 rfl) rfl (Nat.le_of_eq rfl) (hb hby d18_2) ?_
  intro v1 vm1 T1 h1 L1 W1 q1
  obtain ⟨rfl, K1, E_n, G1, G2, G3, V_n⟩ := q1
  refine Go.st (fun _ => XS.pop W1.here W1.ex rfl (hb hby d18_5) rfl rfl) ?_
  refine Go.st (fun _ => XS.aloadN W1.here W1.ex rfl (hb hby d18_6) rfl rfl) ?_
  show Go _ _ _ _ (T1.setTop (mkF m_ 7 #[.val (.ref a), .val (.ref s)] [(.ref a)]))
  exact W1.retA hret rfl rfl (hb hby d18_7) (by decide) (by decide) fun vr_ cr_ => ⟨rfl, K1, E_n, G1, G2, G3, V_n⟩
theorem ct_gv {l : Launch} {Z a0 n0 g1 gf em es} (cx : Ctx Z a0 n0 g1 gf em es) {h : Heap} (O : Old Z n0 h) (a b : Addr) (z : Int32) (E_a : Exa Z h a "java/lang/StringBuilder") (F_value_a : Fld Z h a "java/lang/AbstractStringBuilder" "value" "[B" (.ref b)) (F_coder_a : Fld Z h a "java/lang/AbstractStringBuilder" "coder" "B" (.int (0 : Int32))) (F_count_a : Fld Z h a "java/lang/AbstractStringBuilder" "count" "I" (.int z)) :
    Ct l Z consts_1 n0 [] Y11 jdk_68_method_64_code 1 (some (.array .byte)) ({ frames := 0, cells := 0, slots := 0, locals := 0 } : Room) #[(.ref a)] [] h (fun v _ h' => v = some (.ref b) ∧ h' = h) := by
  refine Ct.intro (plainFor_of_name pn13) O cx.ew ?_
  intro p_ e_ s_ m_ bl_ mt_ c_ T0 W0 hby hml hret hnm
  refine Go.st (fun t_ k_ => castTop (g' := mkF m_ 0 #[.val (.ref a)] []) (by first | (simp [entryFrame, mkF, argsToLocals, Value.category]; done) | rfl) k_) ?_
  refine Go.st (fun _ => XS.aloadN W0.here W0.ex rfl (hb hby d29_0) rfl rfl) ?_
  show Go _ _ _ _ (T0.setTop (mkF m_ 1 #[.val (.ref a)] [(.ref a)]))
  refine W0.getF (cx.w 115 rfl) Via.refl F_value_a (hb hby d29_1) ?_
  intro T1 W1
  show Go _ _ _ _ (T1.setTop (mkF m_ 4 #[.val (.ref a)] [(.ref b)]))
  exact W1.retA hret rfl rfl (hb hby d29_4) (by decide) (by decide) fun vr_ cr_ => ⟨rfl, rfl⟩
theorem ct_asl {l : Launch} {Z a0 n0 g1 gf em es} (cx : Ctx Z a0 n0 g1 gf em es) {h : Heap} (O : Old Z n0 h) (a b : Addr) (z : Int32) (E_a : Exa Z h a "java/lang/StringBuilder") (F_value_a : Fld Z h a "java/lang/AbstractStringBuilder" "value" "[B" (.ref b)) (F_coder_a : Fld Z h a "java/lang/AbstractStringBuilder" "coder" "B" (.int (0 : Int32))) (F_count_a : Fld Z h a "java/lang/AbstractStringBuilder" "count" "I" (.int z)) :
    Ct l Z consts_1 n0 [] Y14 jdk_68_method_6_code 1 (some .int) ({ frames := 0, cells := 0, slots := 0, locals := 0 } : Room) #[(.ref a)] [] h (fun v _ h' => v = some (.int z) ∧ h' = h) := by
  refine Ct.intro (plainFor_of_name pn13) O cx.ew ?_
  intro p_ e_ s_ m_ bl_ mt_ c_ T0 W0 hby hml hret hnm
  refine Go.st (fun t_ k_ => castTop (g' := mkF m_ 0 #[.val (.ref a)] []) (by first | (simp [entryFrame, mkF, argsToLocals, Value.category]; done) | rfl) k_) ?_
  refine Go.st (fun _ => XS.aloadN W0.here W0.ex rfl (hb hby d31_0) rfl rfl) ?_
  show Go _ _ _ _ (T0.setTop (mkF m_ 1 #[.val (.ref a)] [(.ref a)]))
  refine W0.getF (cx.w 141 rfl) Via.refl F_count_a (hb hby d31_1) ?_
  intro T1 W1
  show Go _ _ _ _ (T1.setTop (mkF m_ 4 #[.val (.ref a)] [(.int z)]))
  exact W1.retI hret (hb hby d31_4) (by decide) (by decide) fun vr_ cr_ => ⟨rfl, rfl⟩
theorem ct_sbl {l : Launch} {Z a0 n0 g1 gf em es} (cx : Ctx Z a0 n0 g1 gf em es) {h : Heap} (O : Old Z n0 h) (a b : Addr) (z : Int32) (E_a : Exa Z h a "java/lang/StringBuilder") (F_value_a : Fld Z h a "java/lang/AbstractStringBuilder" "value" "[B" (.ref b)) (F_coder_a : Fld Z h a "java/lang/AbstractStringBuilder" "coder" "B" (.int (0 : Int32))) (F_count_a : Fld Z h a "java/lang/AbstractStringBuilder" "count" "I" (.int z)) :
    Ct l Z consts_1 n0 [] Y30 jdk_67_method_93_code 1 (some .int) ({ frames := 1, cells := 0, slots := 0, locals := 12 } : Room) #[(.ref a)] [] h (fun v _ h' => v = some (.int z) ∧ h' = h) := by
  refine Ct.intro (plainFor_of_name pn14) O cx.ew ?_
  intro p_ e_ s_ m_ bl_ mt_ c_ T0 W0 hby hml hret hnm
  refine Go.st (fun t_ k_ => castTop (g' := mkF m_ 0 #[.val (.ref a)] []) (by first | (simp [entryFrame, mkF, argsToLocals, Value.category]; done) | rfl) k_) ?_
  refine Go.st (fun _ => XS.aloadN W0.here W0.ex rfl (hb hby d30_0) rfl rfl) ?_
  show Go _ _ _ _ (T0.setTop (mkF m_ 1 #[.val (.ref a)] [(.ref a)]))
  refine W0.callU (y := Y14) (y' := Y10) (cx.w 191 rfl) (cx.w 146 rfl) rfl (cx.w 127 rfl) (cx.w 187 rfl) (cx.w 111 rfl) (cx.w 192 rfl) (by decide) (by decide) (Ins.self E_a) (ct_asl cx W0.old a b z E_a F_value_a F_coder_a F_count_a) all0 (by decide) (Wd := 0) (by decide) (k' := 0) (n' := 0) rfl rfl (by decide) (by decide) (by rw [hml]; rfl) (a := a) (argsL := []) (rest := []) rfl (lenOf pd14 rfl) rfl (Nat.le_of_eq rfl) (hb hby d30_1) ?_
  intro v1 vm1 T1 h1 L1 W1 q1
  obtain ⟨rfl, eh_⟩ := q1
  subst h1
  show Go _ _ _ _ (T1.setTop (mkF m_ 4 #[.val (.ref a)] [(.int z)]))
  exact W1.retI hret (hb hby d30_4) (by decide) (by decide) fun vr_ cr_ => ⟨rfl, rfl⟩
theorem ct_aL1 {l : Launch} {Z a0 n0 g1 gf em es} (cx : Ctx Z a0 n0 g1 gf em es) {h : Heap} (O : Old Z n0 h) (a b : Addr) (z : Int32) (E_a : Exa Z h a "java/lang/StringBuilder") (F_value_a : Fld Z h a "java/lang/AbstractStringBuilder" "value" "[B" (.ref b)) (F_coder_a : Fld Z h a "java/lang/AbstractStringBuilder" "coder" "B" (.int (0 : Int32))) (F_count_a : Fld Z h a "java/lang/AbstractStringBuilder" "count" "I" (.int z)) :
    Ct l Z consts_1 n0 [] Y13 jdk_68_method_68_code 1 (some .boolean) ({ frames := 0, cells := 0, slots := 0, locals := 0 } : Room) #[(.ref a)] [] h (fun v _ h' => v = some (.int 1) ∧ h' = h) := by
  refine Ct.intro (plainFor_of_name pn13) O cx.ew ?_
  intro p_ e_ s_ m_ bl_ mt_ c_ T0 W0 hby hml hret hnm
  refine Go.st (fun t_ k_ => castTop (g' := mkF m_ 0 #[.val (.ref a)] []) (by first | (simp [entryFrame, mkF, argsToLocals, Value.category]; done) | rfl) k_) ?_
  show Go _ _ _ _ (T0.setTop (mkF m_ 0 #[.val (.ref a)] []))
  refine W0.getS (cx.w 114 rfl) Via.refl (cx.cmp.ext W0.e0) (hb hby d32_0) ?_
  intro T1 W1
  refine Go.st (fun _ => XS.ifNo W1.here W1.ex rfl (hb hby d32_3) rfl ((if0 _ _).trans (feq (cx.g1 : ¬ (g1 = (0 : Int32)))).1)) ?_
  refine Go.st (fun _ => XS.aloadN W1.here W1.ex rfl (hb hby d32_6) rfl rfl) ?_
  show Go _ _ _ _ (T1.setTop (mkF m_ 7 #[.val (.ref a)] [(.ref a)]))
  refine W1.getF (cx.w 117 rfl) Via.refl F_coder_a (hb hby d32_7) ?_
  intro T2 W2
  refine Go.st (fun _ => XS.ifNo W2.here W2.ex rfl (hb hby d32_10) rfl ((if0 _ _).trans (teq (rfl : (0 : Int32) = (0 : Int32))).2)) ?_
  refine Go.st (fun _ => XS.iconst W2.here W2.ex rfl (hb hby d32_13)) ?_
  refine Go.st (fun _ => XS.goto W2.here W2.ex rfl (pc0 := 14) (pc' := 18) rfl (hb hby d32_14) (by decide) (by decide)) ?_
  show Go _ _ _ _ (T2.setTop (mkF m_ 18 #[.val (.ref a)] [(.int (1 : Int32))]))
  exact W2.retN hret (by simp) (hb hby d32_18) (by decide) (by decide) fun vr_ cr_ => ⟨rfl, rfl⟩
theorem ct_min5 {l : Launch} {Z a0 n0 g1 gf em es} (cx : Ctx Z a0 n0 g1 gf em es) {h : Heap} (O : Old Z n0 h)   :
    Ct l Z consts_1 n0 [] Y16 jdk_29_method_69_code 2 (some .int) ({ frames := 0, cells := 0, slots := 0, locals := 0 } : Room) #[(.int (16 : Int32)), (.int (5 : Int32))] [] h (fun v _ h' => v = some (.int 5) ∧ h' = h) := by
  refine Ct.intro (Jvm.Free.JP.mathPlain rfl (by decide +kernel)) O cx.ew ?_
  intro p_ e_ s_ m_ bl_ mt_ c_ T0 W0 hby hml hret hnm
  refine Go.st (fun t_ k_ => castTop (g' := mkF m_ 0 #[.val (.int (16 : Int32)), .val (.int (5 : Int32))] []) (by first | (simp [entryFrame, mkF, argsToLocals, Value.category]; done) | rfl) k_) ?_
  refine Go.st (fun _ => XS.iloadN W0.here W0.ex rfl (hb hby d36_0) rfl) ?_
  refine Go.st (fun _ => XS.iloadN W0.here W0.ex rfl (hb hby d36_1) rfl) ?_
  refine Go.st (fun _ => XS.icmpYes W0.here W0.ex rfl (pc0 := 2) (pc' := 9) rfl (hb hby d36_2) rfl (tlt ((by decide) : (5 : Int32) < (16 : Int32))).2.2.1 (by decide) (by decide)) ?_
  show Go _ _ _ _ (T0.setTop (mkF m_ 9 #[.val (.int (16 : Int32)), .val (.int (5 : Int32))] []))
  refine Go.st (fun _ => XS.iloadN W0.here W0.ex rfl (hb hby d36_9) rfl) ?_
  show Go _ _ _ _ (T0.setTop (mkF m_ 10 #[.val (.int (16 : Int32)), .val (.int (5 : Int32))] [(.int (5 : Int32))]))
  exact W0.retI hret (hb hby d36_10) (by decide) (by decide) fun vr_ cr_ => ⟨rfl, rfl⟩
theorem ct_ckl5 {l : Launch} {Z a0 n0 g1 gf em es} (cx : Ctx Z a0 n0 g1 gf em es) {h : Heap} (O : Old Z n0 h)   :
    Ct l Z consts_1 n0 [] Y33 jdk_65_method_131_code 2 none ({ frames := 0, cells := 0, slots := 0, locals := 0 } : Room) #[(.int (0 : Int32)), (.int (5 : Int32))] [] h (fun v _ h' => v = none ∧ h' = h) := by
  refine Ct.intro (plainFor_of_name pn15) O cx.ew ?_
  intro p_ e_ s_ m_ bl_ mt_ c_ T0 W0 hby hml hret hnm
  refine Go.st (fun t_ k_ => castTop (g' := mkF m_ 0 #[.val (.int (0 : Int32)), .val (.int (5 : Int32))] []) (by first | (simp [entryFrame, mkF, argsToLocals, Value.category]; done) | rfl) k_) ?_
  refine Go.st (fun _ => XS.iloadN W0.here W0.ex rfl (hb hby d35_0) rfl) ?_
  refine Go.st (fun _ => XS.iloadN W0.here W0.ex rfl (hb hby d35_1) rfl) ?_
  refine Go.st (fun _ => XS.icmpYes W0.here W0.ex rfl (pc0 := 2) (pc' := 37) rfl (hb hby d35_2) rfl (flt ((by decide) : ¬ ((5 : Int32) < (0 : Int32)))).2.1 (by decide) (by decide)) ?_
  show Go _ _ _ _ (T0.setTop (mkF m_ 37 #[.val (.int (0 : Int32)), .val (.int (5 : Int32))] []))
  exact W0.retV hret (hb hby d35_37) (by decide) (by decide) fun vr_ cr_ => ⟨rfl, rfl⟩
theorem ct_corb5 {l : Launch} {Z a0 n0 g1 gf em es} (cx : Ctx Z a0 n0 g1 gf em es) {h : Heap} (O : Old Z n0 h) (b : Addr) (kb : ClassId) (V_b : Arv Z h b kb .byte 16 [(.int (114 : Int32).toInt8.toInt32), (.int (111 : Int32).toInt8.toInt32), (.int (108 : Int32).toInt8.toInt32), (.int (101 : Int32).toInt8.toInt32), (.int (32 : Int32).toInt8.toInt32), (.int 0), (.int 0), (.int 0), (.int 0), (.int 0), (.int 0), (.int 0), (.int 0), (.int 0), (.int 0), (.int 0)] (.int 0)) :
    Ct l Z consts_1 n0 [] Y35 jdk_65_method_133_code 5 (some (.array .byte)) ({ frames := 1, cells := 1, slots := 5, locals := 18 } : Room) #[(.ref b), (.int (0 : Int32)), (.int (5 : Int32))] [] h (fun v _ h' => ∃ (u : Addr) (ku : ClassId), v = some (.ref u) ∧ h.size ≤ u ∧ n0 ≤ u ∧ Keep h h' [] ∧ Arv Z h' u ku .byte (5 : Int32) [(.int (114 : Int32).toInt8.toInt32), (.int (111 : Int32).toInt8.toInt32), (.int (108 : Int32).toInt8.toInt32), (.int (101 : Int32).toInt8.toInt32), (.int (32 : Int32).toInt8.toInt32)] (.int 0)) := by
  refine Ct.intro (plainFor_of_name pn15) O cx.ew ?_
  intro p_ e_ s_ m_ bl_ mt_ c_ T0 W0 hby hml hret hnm
  refine Go.st (fun t_ k_ => castTop (g' := mkF m_ 0 #[.val (.ref b), .val (.int (0 : Int32)), .val (.int (5 : Int32)), .unset, .unset] []) (by first | (simp [entryFrame, mkF, argsToLocals, Value.category]; done) | rfl) k_) ?_
  show Go _ _ _ _ (T0.setTop (mkF m_ 0 #[.val (.ref b), .val (.int (0 : Int32)), .val (.int (5 : Int32)), .unset, .unset] []))
  have K0 : Keep h h [] := Keep.refl _ _
  refine Go.st (fun _ => XS.iloadN W0.here W0.ex rfl (hb hby d34_0) rfl) ?_
  refine Go.st (fun _ => XS.iloadN W0.here W0.ex rfl (hb hby d34_1) rfl) ?_
  show Go _ _ _ _ (T0.setTop (mkF m_ 2 #[.val (.ref b), .val (.int (0 : Int32)), .val (.int (5 : Int32)), .unset, .unset] [(.int (5 : Int32)), (.int (0 : Int32))]))
  refine W0.callS (y := Y33) (cx.w 205 rfl) (cx.w 206 rfl) (cx.w 200 rfl) (cx.w 207 rfl) (by decide) (ct_ckl5 cx W0.old ) all0 (by decide) (Wd := 0) (by decide) (k' := 0) (n' := 0) rfl rfl (by decide) (by decide) (by rw [hml]; rfl) (argsL := [(.int (0 : Int32)), (.int (5 : Int32))]) (rest := []) rfl (lenOf pd17 rfl) rfl (Nat.le_of_eq rfl) (hb hby d34_2) ?_
  intro v1 vm1 T1 h1 L1 W1 q1
  obtain ⟨rfl, eh_⟩ := q1
  subst h1
  refine Go.st (fun _ => XS.iloadN W1.here W1.ex rfl (hb hby d34_5) rfl) ?_
  refine Go.st (fun _ => XS.iloadN W1.here W1.ex rfl (hb hby d34_6) rfl) ?_
  refine Go.st (fun _ => XS.isub W1.here W1.ex rfl (hb hby d34_7) rfl) ?_
  show Go _ _ _ _ (T1.setTop (mkF m_ 8 #[.val (.ref b), .val (.int (0 : Int32)), .val (.int (5 : Int32)), .unset, .unset] [(.int (5 : Int32))]))
  refine Go.st (fun _ => XS.istoreN W1.here W1.ex rfl (hb hby d34_8) rfl (l' := #[.val (.ref b), .val (.int (0 : Int32)), .val (.int (5 : Int32)), .val (.int (5 : Int32)), .unset]) rfl) ?_
  refine Go.st (fun _ => XS.iloadN W1.here W1.ex rfl (hb hby d34_9) rfl) ?_
  show Go _ _ _ _ (T1.setTop (mkF m_ 10 #[.val (.ref b), .val (.int (0 : Int32)), .val (.int (5 : Int32)), .val (.int (5 : Int32)), .unset] [(.int (5 : Int32))]))
  refine W1.newP (ty := .byte) (dv := .int 0) rfl rfl (cx.w 19 rfl) (hb hby d34_10) (z := (5 : Int32)) (by decide) (cap := 5) (by decide) (by decide) (k' := 1) (n' := 5) rfl rfl (by decide) (by decide) ?_
  intro T2 h2 b2 kA_b2 hb2 g_b2 W2 E2 V_b2
  have ne_b_b2 : b ≠ b2 := Nat.ne_of_lt (Nat.lt_of_lt_of_le V_b.lt (Nat.le_of_eq hb2.symm))
  have sz_b2 : h.size ≤ b2 := Nat.le_trans K0.1 (Nat.le_of_eq hb2.symm)
  replace V_b := V_b.ext E2
  replace K0 := K0.ext E2
  replace V_b2 : Arv Z h2 b2 kA_b2 .byte (5 : Int32) [(.int 0), (.int 0), (.int 0), (.int 0), (.int 0)] (.int 0) := V_b2
  refine Go.st (fun _ => XS.astore W2.here W2.ex rfl (hb hby d34_12) rfl rfl (l' := #[.val (.ref b), .val (.int (0 : Int32)), .val (.int (5 : Int32)), .val (.int (5 : Int32)), .val (.ref b2)]) rfl) ?_
  refine Go.st (fun _ => XS.aloadN W2.here W2.ex rfl (hb hby d34_14) rfl rfl) ?_
  refine Go.st (fun _ => XS.iloadN W2.here W2.ex rfl (hb hby d34_15) rfl) ?_
  show Go _ _ _ _ (T2.setTop (mkF m_ 16 #[.val (.ref b), .val (.int (0 : Int32)), .val (.int (5 : Int32)), .val (.int (5 : Int32)), .val (.ref b2)] [(.int (0 : Int32)), (.ref b)]))
  refine Go.st (fun _ => XS.aload W2.here W2.ex rfl (hb hby d34_16) rfl rfl) ?_
  refine Go.st (fun _ => XS.iconst W2.here W2.ex rfl (hb hby d34_18)) ?_
  refine Go.st (fun _ => XS.aloadN W2.here W2.ex rfl (hb hby d34_19) rfl rfl) ?_
  show Go _ _ _ _ (T2.setTop (mkF m_ 20 #[.val (.ref b), .val (.int (0 : Int32)), .val (.int (5 : Int32)), .val (.int (5 : Int32)), .val (.ref b2)] [(.ref b), (.int (0 : Int32)), (.ref b2), (.int (0 : Int32)), (.ref b)]))
  refine W2.alen V_b (hb hby d34_20) ?_
  refine Go.st (fun _ => XS.iloadN W2.here W2.ex rfl (hb hby d34_21) rfl) ?_
  refine Go.st (fun _ => XS.isub W2.here W2.ex rfl (hb hby d34_22) rfl) ?_
  show Go _ _ _ _ (T2.setTop (mkF m_ 23 #[.val (.ref b), .val (.int (0 : Int32)), .val (.int (5 : Int32)), .val (.int (5 : Int32)), .val (.ref b2)] [(.int (16 : Int32)), (.int (0 : Int32)), (.ref b2), (.int (0 : Int32)), (.ref b)]))
  refine Go.st (fun _ => XS.iloadN W2.here W2.ex rfl (hb hby d34_23) rfl) ?_
  show Go _ _ _ _ (T2.setTop (mkF m_ 24 #[.val (.ref b), .val (.int (0 : Int32)), .val (.int (5 : Int32)), .val (.int (5 : Int32)), .val (.ref b2)] [(.int (5 : Int32)), (.int (16 : Int32)), (.int (0 : Int32)), (.ref b2), (.int (0 : Int32)), (.ref b)]))
  refine W2.callS (y := Y16) (cx.w 208 rfl) (cx.w 209 rfl) (cx.w 210 rfl) (cx.w 211 rfl) (by decide) (ct_min5 cx W2.old ) all0 (by decide) (Wd := 4) (by decide) (k' := 1) (n' := 5) rfl rfl (by decide) (by decide) (by rw [hml]; rfl) (argsL := [(.int (16 : Int32)), (.int (5 : Int32))]) (rest := [(.int (0 : Int32)), (.ref b2), (.int (0 : Int32)), (.ref b)]) rfl (lenOf pd18 rfl) rfl (Nat.le_of_eq rfl) (hb hby d34_24) ?_
  intro v3 vm3 T3 h3 L3 W3 q3
  obtain ⟨rfl, eh_⟩ := q3
  subst h3
  show Go _ _ _ _ (T3.setTop (mkF m_ 27 #[.val (.ref b), .val (.int (0 : Int32)), .val (.int (5 : Int32)), .val (.int (5 : Int32)), .val (.ref b2)] [(.int (5 : Int32)), (.int (0 : Int32)), (.ref b2), (.int (0 : Int32)), (.ref b)]))
  refine W3.cpP (cx.w 212 rfl) (cx.w 167 rfl) (cx.w 165 rfl) (cx.w 166 rfl) V_b V_b2 rfl (by decide) (by decide) (by decide) (by decide) (by decide) (us := [(.int (114 : Int32).toInt8.toInt32), (.int (111 : Int32).toInt8.toInt32), (.int (108 : Int32).toInt8.toInt32), (.int (101 : Int32).toInt8.toInt32), (.int (32 : Int32).toInt8.toInt32)]) rfl (Nat.le_of_ble_eq_true rfl) (List.mem_of_getElem? (i := 0) rfl) g_b2 (by rw [hml]; rfl) (hb hby d34_27) (by decide) (Wd := 0) (Nat.le_of_eq rfl) (by decide) ?_
  intro T4 h4 L4 W4 Kc4 V_new
  replace V_b := V_b.keep Kc4 (ninS ne_b_b2 nin0)
  replace K0 := K0.trans Kc4 (allS (Or.inr sz_b2) all0)
  replace V_b2 : Arv Z h4 b2 kA_b2 .byte (5 : Int32) [(.int (114 : Int32).toInt8.toInt32), (.int (111 : Int32).toInt8.toInt32), (.int (108 : Int32).toInt8.toInt32), (.int (101 : Int32).toInt8.toInt32), (.int (32 : Int32).toInt8.toInt32)] (.int 0) := V_new
  clear V_new
  refine Go.st (fun _ => XS.aload W4.here W4.ex rfl (hb hby d34_30) rfl rfl) ?_
  show Go _ _ _ _ (T4.setTop (mkF m_ 32 #[.val (.ref b), .val (.int (0 : Int32)), .val (.int (5 : Int32)), .val (.int (5 : Int32)), .val (.ref b2)] [(.ref b2)]))
  exact W4.retA hret rfl rfl (hb hby d34_32) (by decide) (by decide) fun vr_ cr_ => ⟨b2, _, rfl, sz_b2, g_b2, K0, V_b2⟩
theorem ct_cor5 {l : Launch} {Z a0 n0 g1 gf em es} (cx : Ctx Z a0 n0 g1 gf em es) {h : Heap} (O : Old Z n0 h) (b : Addr) (kb : ClassId) (V_b : Arv Z h b kb .byte 16 [(.int (114 : Int32).toInt8.toInt32), (.int (111 : Int32).toInt8.toInt32), (.int (108 : Int32).toInt8.toInt32), (.int (101 : Int32).toInt8.toInt32), (.int (32 : Int32).toInt8.toInt32), (.int 0), (.int 0), (.int 0), (.int 0), (.int 0), (.int 0), (.int 0), (.int 0), (.int 0), (.int 0), (.int 0)] (.int 0)) :
    Ct l Z consts_1 n0 [] Y34 jdk_65_method_132_code 3 (some (.array .byte)) ({ frames := 2, cells := 1, slots := 5, locals := 34 } : Room) #[(.ref b), (.int (0 : Int32)), (.int (5 : Int32))] [] h (fun v _ h' => ∃ (u : Addr) (ku : ClassId), v = some (.ref u) ∧ h.size ≤ u ∧ n0 ≤ u ∧ Keep h h' [] ∧ Arv Z h' u ku .byte (5 : Int32) [(.int (114 : Int32).toInt8.toInt32), (.int (111 : Int32).toInt8.toInt32), (.int (108 : Int32).toInt8.toInt32), (.int (101 : Int32).toInt8.toInt32), (.int (32 : Int32).toInt8.toInt32)] (.int 0)) := by
  refine Ct.intro (plainFor_of_name pn15) O cx.ew ?_
  intro p_ e_ s_ m_ bl_ mt_ c_ T0 W0 hby hml hret hnm
  refine Go.st (fun t_ k_ => castTop (g' := mkF m_ 0 #[.val (.ref b), .val (.int (0 : Int32)), .val (.int (5 : Int32))] []) (by first | (simp [entryFrame, mkF, argsToLocals, Value.category]; done) | rfl) k_) ?_
  refine Go.st (fun _ => XS.iloadN W0.here W0.ex rfl (hb hby d33_0) rfl) ?_
  refine Go.st (fun _ => XS.ifNo W0.here W0.ex rfl (hb hby d33_1) rfl ((if0 _ _).trans (teq (rfl : (0 : Int32) = (0 : Int32))).2)) ?_
  refine Go.st (fun _ => XS.iloadN W0.here W0.ex rfl (hb hby d33_4) rfl) ?_
  show Go _ _ _ _ (T0.setTop (mkF m_ 5 #[.val (.ref b), .val (.int (0 : Int32)), .val (.int (5 : Int32))] [(.int (5 : Int32))]))
  refine Go.st (fun _ => XS.aloadN W0.here W0.ex rfl (hb hby d33_5) rfl rfl) ?_
  show Go _ _ _ _ (T0.setTop (mkF m_ 6 #[.val (.ref b), .val (.int (0 : Int32)), .val (.int (5 : Int32))] [(.ref b), (.int (5 : Int32))]))
  refine W0.alen V_b (hb hby d33_6) ?_
  refine Go.st (fun _ => XS.icmpNo W0.here W0.ex rfl (hb hby d33_7) rfl (feq ((by decide) : ¬ ((5 : Int32) = (16 : Int32)))).1) ?_
  refine Go.st (fun _ => XS.aloadN W0.here W0.ex rfl (hb hby d33_10) rfl rfl) ?_
  show Go _ _ _ _ (T0.setTop (mkF m_ 11 #[.val (.ref b), .val (.int (0 : Int32)), .val (.int (5 : Int32))] [(.ref b)]))
  refine Go.st (fun _ => XS.iloadN W0.here W0.ex rfl (hb hby d33_11) rfl) ?_
  refine Go.st (fun _ => XS.iloadN W0.here W0.ex rfl (hb hby d33_12) rfl) ?_
  show Go _ _ _ _ (T0.setTop (mkF m_ 13 #[.val (.ref b), .val (.int (0 : Int32)), .val (.int (5 : Int32))] [(.int (5 : Int32)), (.int (0 : Int32)), (.ref b)]))
  refine W0.callS (y := Y35) (cx.w 202 rfl) (cx.w 203 rfl) (cx.w 200 rfl) (cx.w 204 rfl) (by decide) (ct_corb5 cx W0.old b kb  V_b) all0 (by decide) (Wd := 0) (by decide) (k' := 1) (n' := 5) rfl rfl (by decide) (by decide) (by rw [hml]; rfl) (argsL := [(.ref b), (.int (0 : Int32)), (.int (5 : Int32))]) (rest := []) rfl (lenOf pd19 rfl) rfl (Nat.le_of_eq rfl) (hb hby d33_13) ?_
  intro v1 vm1 T1 h1 L1 W1 q1
  obtain ⟨u, ku, rfl, hz_u, g_u, K1, V_u⟩ := q1
  show Go _ _ _ _ (T1.setTop (mkF m_ 16 #[.val (.ref b), .val (.int (0 : Int32)), .val (.int (5 : Int32))] [(.ref u)]))
  exact W1.retA hret rfl rfl (hb hby d33_16) (by decide) (by decide) fun vr_ cr_ => ⟨u, ku, rfl, hz_u, g_u, K1, V_u⟩
theorem ct_iab5 {l : Launch} {Z a0 n0 g1 gf em es} (cx : Ctx Z a0 n0 g1 gf em es) {h : Heap} (O : Old Z n0 h) (x a b : Addr) (kb : ClassId) (E_x : Exa Z h x "java/lang/String") (F_value_x : Fld Z h x "java/lang/String" "value" "[B" .null) (F_coder_x : Fld Z h x "java/lang/String" "coder" "B" (.int 0)) (g_x : n0 ≤ x) (E_a : Exa Z h a "java/lang/StringBuilder") (F_value_a : Fld Z h a "java/lang/AbstractStringBuilder" "value" "[B" (.ref b)) (F_coder_a : Fld Z h a "java/lang/AbstractStringBuilder" "coder" "B" (.int (0 : Int32))) (F_count_a : Fld Z h a "java/lang/AbstractStringBuilder" "count" "I" (.int (5 : Int32))) (V_b : Arv Z h b kb .byte 16 [(.int (114 : Int32).toInt8.toInt32), (.int (111 : Int32).toInt8.toInt32), (.int (108 : Int32).toInt8.toInt32), (.int (101 : Int32).toInt8.toInt32), (.int (32 : Int32).toInt8.toInt32), (.int 0), (.int 0), (.int 0), (.int 0), (.int 0), (.int 0), (.int 0), (.int 0), (.int 0), (.int 0), (.int 0)] (.int 0)) (ne_b_x : b ≠ x)  :
    Ct l Z consts_1 n0 [] Y19 jdk_42_method_150_code 5 none ({ frames := 3, cells := 1, slots := 5, locals := 49 } : Room) #[(.ref x), (.ref a), .null] [x] h (fun v _ h' => v = none ∧ Keep h h' [x] ∧ ∃ u, StrAt Z h' x u ([114, 111, 108, 101, 32] : List Int32)) := by
  refine Ct.intro (plainFor_of_name pn0) O cx.ew ?_
  intro p_ e_ s_ m_ bl_ mt_ c_ T0 W0 hby hml hret hnm
  refine Go.st (fun t_ k_ => castTop (g' := mkF m_ 0 #[.val (.ref x), .val (.ref a), .val .null, .unset, .unset] []) (by first | (simp [entryFrame, mkF, argsToLocals, Value.category]; done) | rfl) k_) ?_
  show Go _ _ _ _ (T0.setTop (mkF m_ 0 #[.val (.ref x), .val (.ref a), .val .null, .unset, .unset] []))
  have K0 : Keep h h [x] := Keep.refl _ _
  refine Go.st (fun _ => XS.aloadN W0.here W0.ex rfl (hb hby d28_0) rfl rfl) ?_
  show Go _ _ _ _ (T0.setTop (mkF m_ 1 #[.val (.ref x), .val (.ref a), .val .null, .unset, .unset] [(.ref x)]))
  refine W0.initO (cx.w 15 rfl) (cx.w 16 rfl) (cx.w 17 rfl) (by rw [hml]; rfl) (hb hby d28_1) (by decide) (Wd := 0) (Nat.le_of_eq rfl) (by decide) ?_
  intro T1 W1
  refine Go.st (fun _ => XS.aloadN W1.here W1.ex rfl (hb hby d28_4) rfl rfl) ?_
  show Go _ _ _ _ (T1.setTop (mkF m_ 5 #[.val (.ref x), .val (.ref a), .val .null, .unset, .unset] [(.ref a)]))
  refine W1.callV (y := Y11) (z := Y11) (cx.w 180 rfl) (cx.w 181 rfl) (cx.w 183 rfl) (cx.w 182 rfl) (cx.w 111 rfl) (cx.w 184 rfl) (W1.nf (cx.w 183 rfl)) (by decide) E_a (ct_gv cx W1.old a b (5 : Int32) E_a F_value_a F_coder_a F_count_a) all0 (by decide) (Wd := 0) (by decide) (k' := 0) (n' := 0) rfl rfl (by decide) (by decide) (by rw [hml]; rfl) (a := a) (argsL := []) (rest := []) rfl (lenOf pd20 rfl) rfl (Nat.le_of_eq rfl) (hb hby d28_5) ?_
  intro v2 vm2 T2 h2 L2 W2 q2
  obtain ⟨rfl, eh_⟩ := q2
  subst h2
  refine Go.st (fun _ => XS.astoreN W2.here W2.ex rfl (hb hby d28_8) rfl rfl (l' := #[.val (.ref x), .val (.ref a), .val .null, .val (.ref b), .unset]) rfl) ?_
  refine Go.st (fun _ => XS.aloadN W2.here W2.ex rfl (hb hby d28_9) rfl rfl) ?_
  show Go _ _ _ _ (T2.setTop (mkF m_ 10 #[.val (.ref x), .val (.ref a), .val .null, .val (.ref b), .unset] [(.ref a)]))
  refine W2.callV (y := Y14) (z := Y30) (cx.w 185 rfl) (cx.w 186 rfl) (cx.w 188 rfl) (cx.w 189 rfl) (cx.w 103 rfl) (cx.w 190 rfl) (W2.nfc (y' := Y10) (cx.w 146 rfl) rfl) (by decide) E_a (ct_sbl cx W2.old a b (5 : Int32) E_a F_value_a F_coder_a F_count_a) all0 (by decide) (Wd := 0) (by decide) (k' := 0) (n' := 0) rfl rfl (by decide) (by decide) (by rw [hml]; rfl) (a := a) (argsL := []) (rest := []) rfl (lenOf pd14 rfl) rfl (Nat.le_of_eq rfl) (hb hby d28_10) ?_
  intro v3 vm3 T3 h3 L3 W3 q3
  obtain ⟨rfl, eh_⟩ := q3
  subst h3
  refine Go.st (fun _ => XS.istore W3.here W3.ex rfl (hb hby d28_13) rfl (l' := #[.val (.ref x), .val (.ref a), .val .null, .val (.ref b), .val (.int (5 : Int32))]) rfl) ?_
  refine Go.st (fun _ => XS.aloadN W3.here W3.ex rfl (hb hby d28_15) rfl rfl) ?_
  show Go _ _ _ _ (T3.setTop (mkF m_ 16 #[.val (.ref x), .val (.ref a), .val .null, .val (.ref b), .val (.int (5 : Int32))] [(.ref a)]))
  refine W3.callV (y := Y13) (z := Y13) (cx.w 193 rfl) (cx.w 194 rfl) (cx.w 196 rfl) (cx.w 195 rfl) (cx.w 111 rfl) (cx.w 197 rfl) (W3.nf (cx.w 196 rfl)) (by decide) E_a (ct_aL1 cx W3.old a b (5 : Int32) E_a F_value_a F_coder_a F_count_a) all0 (by decide) (Wd := 0) (by decide) (k' := 0) (n' := 0) rfl rfl (by decide) (by decide) (by rw [hml]; rfl) (a := a) (argsL := []) (rest := []) rfl (lenOf pd21 rfl) rfl (Nat.le_of_eq rfl) (hb hby d28_16) ?_
  intro v4 vm4 T4 h4 L4 W4 q4
  obtain ⟨rfl, eh_⟩ := q4
  subst h4
  refine Go.st (fun _ => XS.ifNo W4.here W4.ex rfl (hb hby d28_19) rfl ((if0 _ _).trans (feq ((by decide) : ¬ ((1 : Int32) = (0 : Int32)))).1)) ?_
  refine Go.st (fun _ => XS.aloadN W4.here W4.ex rfl (hb hby d28_22) rfl rfl) ?_
  refine Go.st (fun _ => XS.iconst W4.here W4.ex rfl (hb hby d28_23)) ?_
  show Go _ _ _ _ (T4.setTop (mkF m_ 24 #[.val (.ref x), .val (.ref a), .val .null, .val (.ref b), .val (.int (5 : Int32))] [(.int (0 : Int32)), (.ref x)]))
  refine W4.putF (cx.w 25 rfl) Via.refl F_coder_x E_x (Or.inr ⟨(cx.w 21 rfl), rfl, hnm⟩) (cx.w 5 rfl) (ty := .byte) (by decide) rfl rfl (List.mem_of_getElem? (i := 0) rfl) g_x (hb hby d28_24) ?_
  intro T5 h5 L5 W5 w5
  have ne_a_x : a ≠ x := (ne_exa E_a E_x (by decide))
  replace E_x := E_x.wr w5
  replace F_value_x := F_value_x.other w5 (Or.inr (slot_ne (Or.inr (cx.w 20 rfl)) (Or.inr (cx.w 21 rfl)) (by decide) (t := (.array .byte)) (t' := .byte) (by decide) (by decide)))
  replace F_coder_x := F_coder_x.same w5
  replace E_a := E_a.wr w5
  replace F_value_a := F_value_a.other w5 (Or.inl ne_a_x)
  replace F_coder_a := F_coder_a.other w5 (Or.inl ne_a_x)
  replace F_count_a := F_count_a.other w5 (Or.inl ne_a_x)
  replace V_b := V_b.other w5 ne_b_x
  replace K0 := K0.wr w5 (Or.inl (List.mem_of_getElem? (i := 0) rfl))
  refine Go.st (fun _ => XS.aloadN W5.here W5.ex rfl (hb hby d28_27) rfl rfl) ?_
  refine Go.st (fun _ => XS.aloadN W5.here W5.ex rfl (hb hby d28_28) rfl rfl) ?_
  refine Go.st (fun _ => XS.iconst W5.here W5.ex rfl (hb hby d28_29)) ?_
  show Go _ _ _ _ (T5.setTop (mkF m_ 30 #[.val (.ref x), .val (.ref a), .val .null, .val (.ref b), .val (.int (5 : Int32))] [(.int (0 : Int32)), (.ref b), (.ref x)]))
  refine Go.st (fun _ => XS.iload W5.here W5.ex rfl (hb hby d28_30) rfl) ?_
  show Go _ _ _ _ (T5.setTop (mkF m_ 32 #[.val (.ref x), .val (.ref a), .val .null, .val (.ref b), .val (.int (5 : Int32))] [(.int (5 : Int32)), (.int (0 : Int32)), (.ref b), (.ref x)]))
  refine W5.callS (y := Y34) (cx.w 198 rfl) (cx.w 199 rfl) (cx.w 200 rfl) (cx.w 201 rfl) (by decide) (ct_cor5 cx W5.old b kb  V_b) all0 (by decide) (Wd := 1) (by decide) (k' := 1) (n' := 5) rfl rfl (by decide) (by decide) (by rw [hml]; rfl) (argsL := [(.ref b), (.int (0 : Int32)), (.int (5 : Int32))]) (rest := [(.ref x)]) rfl (lenOf pd19 rfl) rfl (Nat.le_of_eq rfl) (hb hby d28_32) ?_
  intro v6 vm6 T6 h6 L6 W6 q6
  obtain ⟨u, ku, rfl, hz_u, g_u, K1, V_u⟩ := q6
  have ne_x_u : x ≠ u := Nat.ne_of_lt (Nat.lt_of_lt_of_le E_x.lt hz_u)
  have ne_a_u : a ≠ u := Nat.ne_of_lt (Nat.lt_of_lt_of_le E_a.lt hz_u)
  have ne_b_u : b ≠ u := Nat.ne_of_lt (Nat.lt_of_lt_of_le V_b.lt hz_u)
  have sz_u : h.size ≤ u := Nat.le_trans K0.1 hz_u
  replace E_x := E_x.keep K1
  replace F_value_x := F_value_x.keep K1 nin0
  replace F_coder_x := F_coder_x.keep K1 nin0
  replace E_a := E_a.keep K1
  replace F_value_a := F_value_a.keep K1 nin0
  replace F_coder_a := F_coder_a.keep K1 nin0
  replace F_count_a := F_count_a.keep K1 nin0
  replace V_b := V_b.keep K1 nin0
  replace K0 := K0.trans K1 all0
  show Go _ _ _ _ (T6.setTop (mkF m_ 35 #[.val (.ref x), .val (.ref a), .val .null, .val (.ref b), .val (.int (5 : Int32))] [(.ref u), (.ref x)]))
  refine W6.putF (cx.w 24 rfl) Via.refl F_value_x E_x (Or.inr ⟨(cx.w 20 rfl), rfl, hnm⟩) (cx.w 5 rfl) (ty := (.array .byte)) (by decide) rfl rfl (List.mem_of_getElem? (i := 0) rfl) g_x (hb hby d28_35) ?_
  intro T7 h7 L7 W7 w7
  replace E_x := E_x.wr w7
  replace F_value_x := F_value_x.same w7
  replace F_coder_x := F_coder_x.other w7 (Or.inr (slot_ne (Or.inr (cx.w 21 rfl)) (Or.inr (cx.w 20 rfl)) (by decide) (t := .byte) (t' := (.array .byte)) (by decide) (by decide)))
  replace E_a := E_a.wr w7
  replace F_value_a := F_value_a.other w7 (Or.inl ne_a_x)
  replace F_coder_a := F_coder_a.other w7 (Or.inl ne_a_x)
  replace F_count_a := F_count_a.other w7 (Or.inl ne_a_x)
  replace V_b := V_b.other w7 ne_b_x
  replace V_u := V_u.other w7 (Ne.symm ne_x_u)
  replace K0 := K0.wr w7 (Or.inl (List.mem_of_getElem? (i := 0) rfl))
  refine Go.st (fun _ => XS.goto W7.here W7.ex rfl (pc0 := 38) (pc' := 97) rfl (hb hby d28_38) (by decide) (by decide)) ?_
  show Go _ _ _ _ (T7.setTop (mkF m_ 97 #[.val (.ref x), .val (.ref a), .val .null, .val (.ref b), .val (.int (5 : Int32))] []))
  exact W7.retV hret (hb hby d28_97) (by decide) (by decide) fun vr_ cr_ => ⟨rfl, K0, u, E_x, F_coder_x, F_value_x, ⟨ku, V_u⟩, (Ch8.cons (by decide) (Ch8.cons (by decide) (Ch8.cons (by decide) (Ch8.cons (by decide) (Ch8.cons (by decide) Ch8.nil))))), Nat.le_of_ble_eq_true rfl⟩
theorem ct_isb5 {l : Launch} {Z a0 n0 g1 gf em es} (cx : Ctx Z a0 n0 g1 gf em es) {h : Heap} (O : Old Z n0 h) (x a b : Addr) (kb : ClassId) (E_x : Exa Z h x "java/lang/String") (F_value_x : Fld Z h x "java/lang/String" "value" "[B" .null) (F_coder_x : Fld Z h x "java/lang/String" "coder" "B" (.int 0)) (g_x : n0 ≤ x) (E_a : Exa Z h a "java/lang/StringBuilder") (F_value_a : Fld Z h a "java/lang/AbstractStringBuilder" "value" "[B" (.ref b)) (F_coder_a : Fld Z h a "java/lang/AbstractStringBuilder" "coder" "B" (.int (0 : Int32))) (F_count_a : Fld Z h a "java/lang/AbstractStringBuilder" "count" "I" (.int (5 : Int32))) (V_b : Arv Z h b kb .byte 16 [(.int (114 : Int32).toInt8.toInt32), (.int (111 : Int32).toInt8.toInt32), (.int (108 : Int32).toInt8.toInt32), (.int (101 : Int32).toInt8.toInt32), (.int (32 : Int32).toInt8.toInt32), (.int 0), (.int 0), (.int 0), (.int 0), (.int 0), (.int 0), (.int 0), (.int 0), (.int 0), (.int 0), (.int 0)] (.int 0)) (ne_b_x : b ≠ x)  :
    Ct l Z consts_1 n0 [] Y20 jdk_42_method_53_code 2 none ({ frames := 4, cells := 1, slots := 5, locals := 65 } : Room) #[(.ref x), (.ref a)] [x] h (fun v _ h' => v = none ∧ Keep h h' [x] ∧ ∃ u, StrAt Z h' x u ([114, 111, 108, 101, 32] : List Int32)) := by
  refine Ct.intro (plainFor_of_name pn0) O cx.ew ?_
  intro p_ e_ s_ m_ bl_ mt_ c_ T0 W0 hby hml hret hnm
  refine Go.st (fun t_ k_ => castTop (g' := mkF m_ 0 #[.val (.ref x), .val (.ref a)] []) (by first | (simp [entryFrame, mkF, argsToLocals, Value.category]; done) | rfl) k_) ?_
  refine Go.st (fun _ => XS.aloadN W0.here W0.ex rfl (hb hby d27_0) rfl rfl) ?_
  refine Go.st (fun _ => XS.aloadN W0.here W0.ex rfl (hb hby d27_1) rfl rfl) ?_
  refine Go.st (fun _ => XS.aconstNull W0.here W0.ex rfl (hb hby d27_2)) ?_
  show Go _ _ _ _ (T0.setTop (mkF m_ 3 #[.val (.ref x), .val (.ref a)] [.null, (.ref a), (.ref x)]))
  refine W0.callI (y := Y19) rfl (cx.w 177 rfl) (cx.w 178 rfl) (cx.w 6 rfl) (cx.w 179 rfl) (by decide) (ct_iab5 cx W0.old x a b kb  E_x F_value_x F_coder_x g_x E_a F_value_a F_coder_a F_count_a V_b ne_b_x ) (allS (List.mem_of_getElem? (i := 0) rfl) all0) (by decide) (Wd := 0) (by decide) (k' := 1) (n' := 5) rfl rfl (by decide) (by decide) (by rw [hml]; rfl) (a := x) (argsL := [(.ref a), .null]) (rest := []) rfl (lenOf pd22 rfl) rfl (Nat.le_of_eq rfl) (hb hby d27_3) ?_
  intro v1 vm1 T1 h1 L1 W1 q1
  obtain ⟨rfl, K1, u, S_u⟩ := q1
  show Go _ _ _ _ (T1.setTop (mkF m_ 6 #[.val (.ref x), .val (.ref a)] []))
  exact W1.retV hret (hb hby d27_6) (by decide) (by decide) fun vr_ cr_ => ⟨rfl, K1, u, S_u⟩
theorem ct_ts5 {l : Launch} {Z a0 n0 g1 gf em es} (cx : Ctx Z a0 n0 g1 gf em es) {h : Heap} (O : Old Z n0 h) (a b : Addr) (kb : ClassId) (E_a : Exa Z h a "java/lang/StringBuilder") (F_value_a : Fld Z h a "java/lang/AbstractStringBuilder" "value" "[B" (.ref b)) (F_coder_a : Fld Z h a "java/lang/AbstractStringBuilder" "coder" "B" (.int (0 : Int32))) (F_count_a : Fld Z h a "java/lang/AbstractStringBuilder" "count" "I" (.int (5 : Int32))) (V_b : Arv Z h b kb .byte 16 [(.int (114 : Int32).toInt8.toInt32), (.int (111 : Int32).toInt8.toInt32), (.int (108 : Int32).toInt8.toInt32), (.int (101 : Int32).toInt8.toInt32), (.int (32 : Int32).toInt8.toInt32), (.int 0), (.int 0), (.int 0), (.int 0), (.int 0), (.int 0), (.int 0), (.int 0), (.int 0), (.int 0), (.int 0)] (.int 0))  :
    Ct l Z consts_1 n0 [] Y31 jdk_67_method_42_code 1 (some (.object "java/lang/String")) ({ frames := 5, cells := 2, slots := 9, locals := 79 } : Room) #[(.ref a)] [] h (fun v _ h' => ∃ (x u : Addr), v = some (.ref x) ∧ h.size ≤ x ∧ n0 ≤ x ∧ Keep h h' [] ∧ StrAt Z h' x u ([114, 111, 108, 101, 32] : List Int32)) := by
  refine Ct.intro (plainFor_of_name pn14) O cx.ew ?_
  intro p_ e_ s_ m_ bl_ mt_ c_ T0 W0 hby hml hret hnm
  refine Go.st (fun t_ k_ => castTop (g' := mkF m_ 0 #[.val (.ref a)] []) (by first | (simp [entryFrame, mkF, argsToLocals, Value.category]; done) | rfl) k_) ?_
  show Go _ _ _ _ (T0.setTop (mkF m_ 0 #[.val (.ref a)] []))
  have K0 : Keep h h [] := Keep.refl _ _
  refine W0.newO (cx.w 173 rfl) (cx.w 5 rfl) (cx.w 6 rfl) (hb hby d26_0) (k' := 1) (n' := 4) rfl rfl (by decide) (by decide) ?_
  intro T1 h1 b1 hb1 g_b1 W1 E1 E_b1 D1
  have ne_a_b1 : a ≠ b1 := Nat.ne_of_lt (Nat.lt_of_lt_of_le E_a.lt (Nat.le_of_eq hb1.symm))
  have ne_b_b1 : b ≠ b1 := Nat.ne_of_lt (Nat.lt_of_lt_of_le V_b.lt (Nat.le_of_eq hb1.symm))
  have sz_b1 : h.size ≤ b1 := Nat.le_trans K0.1 (Nat.le_of_eq hb1.symm)
  replace E_a := E_a.ext E1
  replace F_value_a := F_value_a.ext E1
  replace F_coder_a := F_coder_a.ext E1
  replace F_count_a := F_count_a.ext E1
  replace V_b := V_b.ext E1
  replace K0 := K0.ext E1
  have F_value_b1 : Fld Z h1 b1 "java/lang/String" "value" "[B" .null := D1 (Or.inr (cx.w 20 rfl)) (ty := (.array .byte)) (by decide)
  have F_coder_b1 : Fld Z h1 b1 "java/lang/String" "coder" "B" (.int (0 : Int32)) := D1 (Or.inr (cx.w 21 rfl)) (ty := .byte) (by decide)
  refine Go.st (fun _ => XS.dup W1.here W1.ex rfl (hb hby d26_3) rfl rfl) ?_
  refine Go.st (fun _ => XS.aloadN W1.here W1.ex rfl (hb hby d26_4) rfl rfl) ?_
  show Go _ _ _ _ (T1.setTop (mkF m_ 5 #[.val (.ref a)] [(.ref a), (.ref b1), (.ref b1)]))
  refine W1.callI (y := Y20) rfl (cx.w 174 rfl) (cx.w 175 rfl) (cx.w 6 rfl) (cx.w 176 rfl) (by decide) (ct_isb5 cx W1.old b1 a b kb  E_b1 F_value_b1 F_coder_b1 g_b1 E_a F_value_a F_coder_a F_count_a V_b ne_b_b1 ) (allS (List.mem_of_getElem? (i := 0) rfl) all0) (by decide) (Wd := 1) (by decide) (k' := 2) (n' := 9) rfl rfl (by decide) (by decide) (by rw [hml]; rfl) (a := b1) (argsL := [(.ref a)]) (rest := [(.ref b1)]) rfl (lenOf pd23 rfl) rfl (Nat.le_of_eq rfl) (hb hby d26_5) ?_
  intro v2 vm2 T2 h2 L2 W2 q2
  obtain ⟨rfl, K1, u, S_u⟩ := q2
  replace E_a := E_a.keep K1
  replace F_value_a := F_value_a.keep K1 (ninS ne_a_b1 nin0)
  replace F_coder_a := F_coder_a.keep K1 (ninS ne_a_b1 nin0)
  replace F_count_a := F_count_a.keep K1 (ninS ne_a_b1 nin0)
  replace V_b := V_b.keep K1 (ninS ne_b_b1 nin0)
  replace E_b1 := E_b1.keep K1
  replace K0 := K0.trans K1 (allS (Or.inr sz_b1) all0)
  show Go _ _ _ _ (T2.setTop (mkF m_ 8 #[.val (.ref a)] [(.ref b1)]))
  exact W2.retA hret rfl rfl (hb hby d26_8) (by decide) (by decide) fun vr_ cr_ => ⟨b1, u, rfl, sz_b1, g_b1, K0, S_u⟩
theorem ct_min6 {l : Launch} {Z a0 n0 g1 gf em es} (cx : Ctx Z a0 n0 g1 gf em es) {h : Heap} (O : Old Z n0 h)   :
    Ct l Z consts_1 n0 [] Y16 jdk_29_method_69_code 2 (some .int) ({ frames := 0, cells := 0, slots := 0, locals := 0 } : Room) #[(.int (16 : Int32)), (.int (6 : Int32))] [] h (fun v _ h' => v = some (.int 6) ∧ h' = h) := by
  refine Ct.intro (Jvm.Free.JP.mathPlain rfl (by decide +kernel)) O cx.ew ?_
  intro p_ e_ s_ m_ bl_ mt_ c_ T0 W0 hby hml hret hnm
  refine Go.st (fun t_ k_ => castTop (g' := mkF m_ 0 #[.val (.int (16 : Int32)), .val (.int (6 : Int32))] []) (by first | (simp [entryFrame, mkF, argsToLocals, Value.category]; done) | rfl) k_) ?_
  refine Go.st (fun _ => XS.iloadN W0.here W0.ex rfl (hb hby d36_0) rfl) ?_
  refine Go.st (fun _ => XS.iloadN W0.here W0.ex rfl (hb hby d36_1) rfl) ?_
  refine Go.st (fun _ => XS.icmpYes W0.here W0.ex rfl (pc0 := 2) (pc' := 9) rfl (hb hby d36_2) rfl (tlt ((by decide) : (6 : Int32) < (16 : Int32))).2.2.1 (by decide) (by decide)) ?_
  show Go _ _ _ _ (T0.setTop (mkF m_ 9 #[.val (.int (16 : Int32)), .val (.int (6 : Int32))] []))
  refine Go.st (fun _ => XS.iloadN W0.here W0.ex rfl (hb hby d36_9) rfl) ?_
  show Go _ _ _ _ (T0.setTop (mkF m_ 10 #[.val (.int (16 : Int32)), .val (.int (6 : Int32))] [(.int (6 : Int32))]))
  exact W0.retI hret (hb hby d36_10) (by decide) (by decide) fun vr_ cr_ => ⟨rfl, rfl⟩
theorem ct_ckl6 {l : Launch} {Z a0 n0 g1 gf em es} (cx : Ctx Z a0 n0 g1 gf em es) {h : Heap} (O : Old Z n0 h)   :
    Ct l Z consts_1 n0 [] Y33 jdk_65_method_131_code 2 none ({ frames := 0, cells := 0, slots := 0, locals := 0 } : Room) #[(.int (0 : Int32)), (.int (6 : Int32))] [] h (fun v _ h' => v = none ∧ h' = h) := by
  refine Ct.intro (plainFor_of_name pn15) O cx.ew ?_
  intro p_ e_ s_ m_ bl_ mt_ c_ T0 W0 hby hml hret hnm
  refine Go.st (fun t_ k_ => castTop (g' := mkF m_ 0 #[.val (.int (0 : Int32)), .val (.int (6 : Int32))] []) (by first | (simp [entryFrame, mkF, argsToLocals, Value.category]; done) | rfl) k_) ?_
  refine Go.st (fun _ => XS.iloadN W0.here W0.ex rfl (hb hby d35_0) rfl) ?_
  refine Go.st (fun _ => XS.iloadN W0.here W0.ex rfl (hb hby d35_1) rfl) ?_
  refine Go.st (fun _ => XS.icmpYes W0.here W0.ex rfl (pc0 := 2) (pc' := 37) rfl (hb hby d35_2) rfl (flt ((by decide) : ¬ ((6 : Int32) < (0 : Int32)))).2.1 (by decide) (by decide)) ?_
  show Go _ _ _ _ (T0.setTop (mkF m_ 37 #[.val (.int (0 : Int32)), .val (.int (6 : Int32))] []))
  exact W0.retV hret (hb hby d35_37) (by decide) (by decide) fun vr_ cr_ => ⟨rfl, rfl⟩
theorem ct_corb6 {l : Launch} {Z a0 n0 g1 gf em es} (cx : Ctx Z a0 n0 g1 gf em es) {h : Heap} (O : Old Z n0 h) (b : Addr) (kb : ClassId) (c0 : Int32) (V_b : Arv Z h b kb .byte 16 [(.int (114 : Int32).toInt8.toInt32), (.int (111 : Int32).toInt8.toInt32), (.int (108 : Int32).toInt8.toInt32), (.int (101 : Int32).toInt8.toInt32), (.int (32 : Int32).toInt8.toInt32), (.int c0.toInt8.toInt32), (.int 0), (.int 0), (.int 0), (.int 0), (.int 0), (.int 0), (.int 0), (.int 0), (.int 0), (.int 0)] (.int 0)) :
    Ct l Z consts_1 n0 [] Y35 jdk_65_method_133_code 5 (some (.array .byte)) ({ frames := 1, cells := 1, slots := 6, locals := 18 } : Room) #[(.ref b), (.int (0 : Int32)), (.int (6 : Int32))] [] h (fun v _ h' => ∃ (u : Addr) (ku : ClassId), v = some (.ref u) ∧ h.size ≤ u ∧ n0 ≤ u ∧ Keep h h' [] ∧ Arv Z h' u ku .byte (6 : Int32) [(.int (114 : Int32).toInt8.toInt32), (.int (111 : Int32).toInt8.toInt32), (.int (108 : Int32).toInt8.toInt32), (.int (101 : Int32).toInt8.toInt32), (.int (32 : Int32).toInt8.toInt32), (.int c0.toInt8.toInt32)] (.int 0)) := by
  refine Ct.intro (plainFor_of_name pn15) O cx.ew ?_
  intro p_ e_ s_ m_ bl_ mt_ c_ T0 W0 hby hml hret hnm
  refine Go.st (fun t_ k_ => castTop (g' := mkF m_ 0 #[.val (.ref b), .val (.int (0 : Int32)), .val (.int (6 : Int32)), .unset, .unset] []) (by first | (simp [entryFrame, mkF, argsToLocals, Value.category]; done) | rfl) k_) ?_
  show Go _ _ _ _ (T0.setTop (mkF m_ 0 #[.val (.ref b), .val (.int (0 : Int32)), .val (.int (6 : Int32)), .unset, .unset] []))
  have K0 : Keep h h [] := Keep.refl _ _
  refine Go.st (fun _ => XS.iloadN W0.here W0.ex rfl (hb hby d34_0) rfl) ?_
  refine Go.st (fun _ => XS.iloadN W0.here W0.ex rfl (hb hby d34_1) rfl) ?_
  show Go _ _ _ _ (T0.setTop (mkF m_ 2 #[.val (.ref b), .val (.int (0 : Int32)), .val (.int (6 : Int32)), .unset, .unset] [(.int (6 : Int32)), (.int (0 : Int32))]))
  refine W0.callS (y := Y33) (cx.w 205 rfl) (cx.w 206 rfl) (cx.w 200 rfl) (cx.w 207 rfl) (by decide) (ct_ckl6 cx W0.old ) all0 (by decide) (Wd := 0) (by decide) (k' := 0) (n' := 0) rfl rfl (by decide) (by decide) (by rw [hml]; rfl) (argsL := [(.int (0 : Int32)), (.int (6 : Int32))]) (rest := []) rfl (lenOf pd17 rfl) rfl (Nat.le_of_eq rfl) (hb hby d34_2) ?_
  intro v1 vm1 T1 h1 L1 W1 q1
  obtain ⟨rfl, eh_⟩ := q1
  subst h1
  refine Go.st (fun _ => XS.iloadN W1.here W1.ex rfl (hb hby d34_5) rfl) ?_
  refine Go.st (fun _ => XS.iloadN W1.here W1.ex rfl (hb hby d34_6) rfl) ?_
  refine Go.st (fun _ => XS.isub W1.here W1.ex rfl (hb hby d34_7) rfl) ?_
  show Go _ _ _ _ (T1.setTop (mkF m_ 8 #[.val (.ref b), .val (.int (0 : Int32)), .val (.int (6 : Int32)), .unset, .unset] [(.int (6 : Int32))]))
  refine Go.st (fun _ => XS.istoreN W1.here W1.ex rfl (hb hby d34_8) rfl (l' := #[.val (.ref b), .val (.int (0 : Int32)), .val (.int (6 : Int32)), .val (.int (6 : Int32)), .unset]) rfl) ?_
  refine Go.st (fun _ => XS.iloadN W1.here W1.ex rfl (hb hby d34_9) rfl) ?_
  show Go _ _ _ _ (T1.setTop (mkF m_ 10 #[.val (.ref b), .val (.int (0 : Int32)), .val (.int (6 : Int32)), .val (.int (6 : Int32)), .unset] [(.int (6 : Int32))]))
  refine W1.newP (ty := .byte) (dv := .int 0) rfl rfl (cx.w 19 rfl) (hb hby d34_10) (z := (6 : Int32)) (by decide) (cap := 6) (by decide) (by decide) (k' := 1) (n' := 6) rfl rfl (by decide) (by decide) ?_
  intro T2 h2 b2 kA_b2 hb2 g_b2 W2 E2 V_b2
  have ne_b_b2 : b ≠ b2 := Nat.ne_of_lt (Nat.lt_of_lt_of_le V_b.lt (Nat.le_of_eq hb2.symm))
  have sz_b2 : h.size ≤ b2 := Nat.le_trans K0.1 (Nat.le_of_eq hb2.symm)
  replace V_b := V_b.ext E2
  replace K0 := K0.ext E2
  replace V_b2 : Arv Z h2 b2 kA_b2 .byte (6 : Int32) [(.int 0), (.int 0), (.int 0), (.int 0), (.int 0), (.int 0)] (.int 0) := V_b2
  refine Go.st (fun _ => XS.astore W2.here W2.ex rfl (hb hby d34_12) rfl rfl (l' := #[.val (.ref b), .val (.int (0 : Int32)), .val (.int (6 : Int32)), .val (.int (6 : Int32)), .val (.ref b2)]) rfl) ?_
  refine Go.st (fun _ => XS.aloadN W2.here W2.ex rfl (hb hby d34_14) rfl rfl) ?_
  refine Go.st (fun _ => XS.iloadN W2.here W2.ex rfl (hb hby d34_15) rfl) ?_
  show Go _ _ _ _ (T2.setTop (mkF m_ 16 #[.val (.ref b), .val (.int (0 : Int32)), .val (.int (6 : Int32)), .val (.int (6 : Int32)), .val (.ref b2)] [(.int (0 : Int32)), (.ref b)]))
  refine Go.st (fun _ => XS.aload W2.here W2.ex rfl (hb hby d34_16) rfl rfl) ?_
  refine Go.st (fun _ => XS.iconst W2.here W2.ex rfl (hb hby d34_18)) ?_
  refine Go.st (fun _ => XS.aloadN W2.here W2.ex rfl (hb hby d34_19) rfl rfl) ?_
  show Go _ _ _ _ (T2.setTop (mkF m_ 20 #[.val (.ref b), .val (.int (0 : Int32)), .val (.int (6 : Int32)), .val (.int (6 : Int32)), .val (.ref b2)] [(.ref b), (.int (0 : Int32)), (.ref b2), (.int (0 : Int32)), (.ref b)]))
  refine W2.alen V_b (hb hby d34_20) ?_
  refine Go.st (fun _ => XS.iloadN W2.here W2.ex rfl (hb hby d34_21) rfl) ?_
  refine Go.st (fun _ => XS.isub W2.here W2.ex rfl (hb hby d34_22) rfl) ?_
  show Go _ _ _ _ (T2.setTop (mkF m_ 23 #[.val (.ref b), .val (.int (0 : Int32)), .val (.int (6 : Int32)), .val (.int (6 : Int32)), .val (.ref b2)] [(.int (16 : Int32)), (.int (0 : Int32)), (.ref b2), (.int (0 : Int32)), (.ref b)]))
  refine Go.st (fun _ => XS.iloadN W2.here W2.ex rfl (hb hby d34_23) rfl) ?_
  show Go _ _ _ _ (T2.setTop (mkF m_ 24 #[.val (.ref b), .val (.int (0 : Int32)), .val (.int (6 : Int32)), .val (.int (6 : Int32)), .val (.ref b2)] [(.int (6 : Int32)), (.int (16 : Int32)), (.int (0 : Int32)), (.ref b2), (.int (0 : Int32)), (.ref b)]))
  refine W2.callS (y := Y16) (cx.w 208 rfl) (cx.w 209 rfl) (cx.w 210 rfl) (cx.w 211 rfl) (by decide) (ct_min6 cx W2.old ) all0 (by decide) (Wd := 4) (by decide) (k' := 1) (n' := 6) rfl rfl (by decide) (by decide) (by rw [hml]; rfl) (argsL := [(.int (16 : Int32)), (.int (6 : Int32))]) (rest := [(.int (0 : Int32)), (.ref b2), (.int (0 : Int32)), (.ref b)]) rfl (lenOf pd18 rfl) rfl (Nat.le_of_eq rfl) (hb hby d34_24) ?_
  intro v3 vm3 T3 h3 L3 W3 q3
  obtain ⟨rfl, eh_⟩ := q3
  subst h3
  show Go _ _ _ _ (T3.setTop (mkF m_ 27 #[.val (.ref b), .val (.int (0 : Int32)), .val (.int (6 : Int32)), .val (.int (6 : Int32)), .val (.ref b2)] [(.int (6 : Int32)), (.int (0 : Int32)), (.ref b2), (.int (0 : Int32)), (.ref b)]))
  refine W3.cpP (cx.w 212 rfl) (cx.w 167 rfl) (cx.w 165 rfl) (cx.w 166 rfl) V_b V_b2 rfl (by decide) (by decide) (by decide) (by decide) (by decide) (us := [(.int (114 : Int32).toInt8.toInt32), (.int (111 : Int32).toInt8.toInt32), (.int (108 : Int32).toInt8.toInt32), (.int (101 : Int32).toInt8.toInt32), (.int (32 : Int32).toInt8.toInt32), (.int c0.toInt8.toInt32)]) rfl (Nat.le_of_ble_eq_true rfl) (List.mem_of_getElem? (i := 0) rfl) g_b2 (by rw [hml]; rfl) (hb hby d34_27) (by decide) (Wd := 0) (Nat.le_of_eq rfl) (by decide) ?_
  intro T4 h4 L4 W4 Kc4 V_new
  replace V_b := V_b.keep Kc4 (ninS ne_b_b2 nin0)
  replace K0 := K0.trans Kc4 (allS (Or.inr sz_b2) all0)
  replace V_b2 : Arv Z h4 b2 kA_b2 .byte (6 : Int32) [(.int (114 : Int32).toInt8.toInt32), (.int (111 : Int32).toInt8.toInt32), (.int (108 : Int32).toInt8.toInt32), (.int (101 : Int32).toInt8.toInt32), (.int (32 : Int32).toInt8.toInt32), (.int c0.toInt8.toInt32)] (.int 0) := V_new
  clear V_new
  refine Go.st (fun _ => XS.aload W4.here W4.ex rfl (hb hby d34_30) rfl rfl) ?_
  show Go _ _ _ _ (T4.setTop (mkF m_ 32 #[.val (.ref b), .val (.int (0 : Int32)), .val (.int (6 : Int32)), .val (.int (6 : Int32)), .val (.ref b2)] [(.ref b2)]))
  exact W4.retA hret rfl rfl (hb hby d34_32) (by decide) (by decide) fun vr_ cr_ => ⟨b2, _, rfl, sz_b2, g_b2, K0, V_b2⟩
theorem ct_cor6 {l : Launch} {Z a0 n0 g1 gf em es} (cx : Ctx Z a0 n0 g1 gf em es) {h : Heap} (O : Old Z n0 h) (b : Addr) (kb : ClassId) (c0 : Int32) (V_b : Arv Z h b kb .byte 16 [(.int (114 : Int32).toInt8.toInt32), (.int (111 : Int32).toInt8.toInt32), (.int (108 : Int32).toInt8.toInt32), (.int (101 : Int32).toInt8.toInt32), (.int (32 : Int32).toInt8.toInt32), (.int c0.toInt8.toInt32), (.int 0), (.int 0), (.int 0), (.int 0), (.int 0), (.int 0), (.int 0), (.int 0), (.int 0), (.int 0)] (.int 0)) :
    Ct l Z consts_1 n0 [] Y34 jdk_65_method_132_code 3 (some (.array .byte)) ({ frames := 2, cells := 1, slots := 6, locals := 34 } : Room) #[(.ref b), (.int (0 : Int32)), (.int (6 : Int32))] [] h (fun v _ h' => ∃ (u : Addr) (ku : ClassId), v = some (.ref u) ∧ h.size ≤ u ∧ n0 ≤ u ∧ Keep h h' [] ∧ Arv Z h' u ku .byte (6 : Int32) [(.int (114 : Int32).toInt8.toInt32), (.int (111 : Int32).toInt8.toInt32), (.int (108 : Int32).toInt8.toInt32), (.int (101 : Int32).toInt8.toInt32), (.int (32 : Int32).toInt8.toInt32), (.int c0.toInt8.toInt32)] (.int 0)) := by
  refine Ct.intro (plainFor_of_name pn15) O cx.ew ?_
  intro p_ e_ s_ m_ bl_ mt_ c_ T0 W0 hby hml hret hnm
  refine Go.st (fun t_ k_ => castTop (g' := mkF m_ 0 #[.val (.ref b), .val (.int (0 : Int32)), .val (.int (6 : Int32))] []) (by first | (simp [entryFrame, mkF, argsToLocals, Value.category]; done) | rfl) k_) ?_
  refine Go.st (fun _ => XS.iloadN W0.here W0.ex rfl (hb hby d33_0) rfl) ?_
  refine Go.st (fun _ => XS.ifNo W0.here W0.ex rfl (hb hby d33_1) rfl ((if0 _ _).trans (teq (rfl : (0 : Int32) = (0 : Int32))).2)) ?_
  refine Go.st (fun _ => XS.iloadN W0.here W0.ex rfl (hb hby d33_4) rfl) ?_
  show Go _ _ _ _ (T0.setTop (mkF m_ 5 #[.val (.ref b), .val (.int (0 : Int32)), .val (.int (6 : Int32))] [(.int (6 : Int32))]))
  refine Go.st (fun _ => XS.aloadN W0.here W0.ex rfl (hb hby d33_5) rfl rfl) ?_
  show Go _ _ _ _ (T0.setTop (mkF m_ 6 #[.val (.ref b), .val (.int (0 : Int32)), .val (.int (6 : Int32))] [(.ref b), (.int (6 : Int32))]))
  refine W0.alen V_b (hb hby d33_6) ?_
  refine Go.st (fun _ => XS.icmpNo W0.here W0.ex rfl (hb hby d33_7) rfl (feq ((by decide) : ¬ ((6 : Int32) = (16 : Int32)))).1) ?_
  refine Go.st (fun _ => XS.aloadN W0.here W0.ex rfl (hb hby d33_10) rfl rfl) ?_
  show Go _ _ _ _ (T0.setTop (mkF m_ 11 #[.val (.ref b), .val (.int (0 : Int32)), .val (.int (6 : Int32))] [(.ref b)]))
  refine Go.st (fun _ => XS.iloadN W0.here W0.ex rfl (hb hby d33_11) rfl) ?_
  refine Go.st (fun _ => XS.iloadN W0.here W0.ex rfl (hb hby d33_12) rfl) ?_
  show Go _ _ _ _ (T0.setTop (mkF m_ 13 #[.val (.ref b), .val (.int (0 : Int32)), .val (.int (6 : Int32))] [(.int (6 : Int32)), (.int (0 : Int32)), (.ref b)]))
  refine W0.callS (y := Y35) (cx.w 202 rfl) (cx.w 203 rfl) (cx.w 200 rfl) (cx.w 204 rfl) (by decide) (ct_corb6 cx W0.old b kb c0 V_b) all0 (by decide) (Wd := 0) (by decide) (k' := 1) (n' := 6) rfl rfl (by decide) (by decide) (by rw [hml]; rfl) (argsL := [(.ref b), (.int (0 : Int32)), (.int (6 : Int32))]) (rest := []) rfl (lenOf pd19 rfl) rfl (Nat.le_of_eq rfl) (hb hby d33_13) ?_
  intro v1 vm1 T1 h1 L1 W1 q1
  obtain ⟨u, ku, rfl, hz_u, g_u, K1, V_u⟩ := q1
  show Go _ _ _ _ (T1.setTop (mkF m_ 16 #[.val (.ref b), .val (.int (0 : Int32)), .val (.int (6 : Int32))] [(.ref u)]))
  exact W1.retA hret rfl rfl (hb hby d33_16) (by decide) (by decide) fun vr_ cr_ => ⟨u, ku, rfl, hz_u, g_u, K1, V_u⟩
theorem ct_iab6 {l : Launch} {Z a0 n0 g1 gf em es} (cx : Ctx Z a0 n0 g1 gf em es) {h : Heap} (O : Old Z n0 h) (x a b : Addr) (kb : ClassId) (c0 : Int32) (E_x : Exa Z h x "java/lang/String") (F_value_x : Fld Z h x "java/lang/String" "value" "[B" .null) (F_coder_x : Fld Z h x "java/lang/String" "coder" "B" (.int 0)) (g_x : n0 ≤ x) (E_a : Exa Z h a "java/lang/StringBuilder") (F_value_a : Fld Z h a "java/lang/AbstractStringBuilder" "value" "[B" (.ref b)) (F_coder_a : Fld Z h a "java/lang/AbstractStringBuilder" "coder" "B" (.int (0 : Int32))) (F_count_a : Fld Z h a "java/lang/AbstractStringBuilder" "count" "I" (.int (6 : Int32))) (V_b : Arv Z h b kb .byte 16 [(.int (114 : Int32).toInt8.toInt32), (.int (111 : Int32).toInt8.toInt32), (.int (108 : Int32).toInt8.toInt32), (.int (101 : Int32).toInt8.toInt32), (.int (32 : Int32).toInt8.toInt32), (.int c0.toInt8.toInt32), (.int 0), (.int 0), (.int 0), (.int 0), (.int 0), (.int 0), (.int 0), (.int 0), (.int 0), (.int 0)] (.int 0)) (ne_b_x : b ≠ x) (r0 : ¬ c0 < 0 ∧ ¬ (255 : Int32) < c0) :
    Ct l Z consts_1 n0 [] Y19 jdk_42_method_150_code 5 none ({ frames := 3, cells := 1, slots := 6, locals := 49 } : Room) #[(.ref x), (.ref a), .null] [x] h (fun v _ h' => v = none ∧ Keep h h' [x] ∧ ∃ u, StrAt Z h' x u ([114, 111, 108, 101, 32, c0] : List Int32)) := by
  refine Ct.intro (plainFor_of_name pn0) O cx.ew ?_
  intro p_ e_ s_ m_ bl_ mt_ c_ T0 W0 hby hml hret hnm
  refine Go.st (fun t_ k_ => castTop (g' := mkF m_ 0 #[.val (.ref x), .val (.ref a), .val .null, .unset, .unset] []) (by first | (simp [entryFrame, mkF, argsToLocals, Value.category]; done) | rfl) k_) ?_
  show Go _ _ _ _ (T0.setTop (mkF m_ 0 #[.val (.ref x), .val (.ref a), .val .null, .unset, .unset] []))
  have K0 : Keep h h [x] := Keep.refl _ _
  refine Go.st (fun _ => XS.aloadN W0.here W0.ex rfl (hb hby d28_0) rfl rfl) ?_
  show Go _ _ _ _ (T0.setTop (mkF m_ 1 #[.val (.ref x), .val (.ref a), .val .null, .unset, .unset] [(.ref x)]))
  refine W0.initO (cx.w 15 rfl) (cx.w 16 rfl) (cx.w 17 rfl) (by rw [hml]; rfl) (hb hby d28_1) (by decide) (Wd := 0) (Nat.le_of_eq rfl) (by decide) ?_
  intro T1 W1
  refine Go.st (fun _ => XS.aloadN W1.here W1.ex rfl (hb hby d28_4) rfl rfl) ?_
  show Go _ _ _ _ (T1.setTop (mkF m_ 5 #[.val (.ref x), .val (.ref a), .val .null, .unset, .unset] [(.ref a)]))
  refine W1.callV (y := Y11) (z := Y11) (cx.w 180 rfl) (cx.w 181 rfl) (cx.w 183 rfl) (cx.w 182 rfl) (cx.w 111 rfl) (cx.w 184 rfl) (W1.nf (cx.w 183 rfl)) (by decide) E_a (ct_gv cx W1.old a b (6 : Int32) E_a F_value_a F_coder_a F_count_a) all0 (by decide) (Wd := 0) (by decide) (k' := 0) (n' := 0) rfl rfl (by decide) (by decide) (by rw [hml]; rfl) (a := a) (argsL := []) (rest := []) rfl (lenOf pd20 rfl) rfl (Nat.le_of_eq rfl) (hb hby d28_5) ?_
  intro v2 vm2 T2 h2 L2 W2 q2
  obtain ⟨rfl, eh_⟩ := q2
  subst h2
  refine Go.st (fun _ => XS.astoreN W2.here W2.ex rfl (hb hby d28_8) rfl rfl (l' := #[.val (.ref x), .val (.ref a), .val .null, .val (.ref b), .unset]) rfl) ?_
  refine Go.st (fun _ => XS.aloadN W2.here W2.ex rfl (hb hby d28_9) rfl rfl) ?_
  show Go _ _ _ _ (T2.setTop (mkF m_ 10 #[.val (.ref x), .val (.ref a), .val .null, .val (.ref b), .unset] [(.ref a)]))
  refine W2.callV (y := Y14) (z := Y30) (cx.w 185 rfl) (cx.w 186 rfl) (cx.w 188 rfl) (cx.w 189 rfl) (cx.w 103 rfl) (cx.w 190 rfl) (W2.nfc (y' := Y10) (cx.w 146 rfl) rfl) (by decide) E_a (ct_sbl cx W2.old a b (6 : Int32) E_a F_value_a F_coder_a F_count_a) all0 (by decide) (Wd := 0) (by decide) (k' := 0) (n' := 0) rfl rfl (by decide) (by decide) (by rw [hml]; rfl) (a := a) (argsL := []) (rest := []) rfl (lenOf pd14 rfl) rfl (Nat.le_of_eq rfl) (hb hby d28_10) ?_
  intro v3 vm3 T3 h3 L3 W3 q3
  obtain ⟨rfl, eh_⟩ := q3
  subst h3
  refine Go.st (fun _ => XS.istore W3.here W3.ex rfl (hb hby d28_13) rfl (l' := #[.val (.ref x), .val (.ref a), .val .null, .val (.ref b), .val (.int (6 : Int32))]) rfl) ?_
  refine Go.st (fun _ => XS.aloadN W3.here W3.ex rfl (hb hby d28_15) rfl rfl) ?_
  show Go _ _ _ _ (T3.setTop (mkF m_ 16 #[.val (.ref x), .val (.ref a), .val .null, .val (.ref b), .val (.int (6 : Int32))] [(.ref a)]))
  refine W3.callV (y := Y13) (z := Y13) (cx.w 193 rfl) (cx.w 194 rfl) (cx.w 196 rfl) (cx.w 195 rfl) (cx.w 111 rfl) (cx.w 197 rfl) (W3.nf (cx.w 196 rfl)) (by decide) E_a (ct_aL1 cx W3.old a b (6 : Int32) E_a F_value_a F_coder_a F_count_a) all0 (by decide) (Wd := 0) (by decide) (k' := 0) (n' := 0) rfl rfl (by decide) (by decide) (by rw [hml]; rfl) (a := a) (argsL := []) (rest := []) rfl (lenOf pd21 rfl) rfl (Nat.le_of_eq rfl) (hb hby d28_16) ?_
  intro v4 vm4 T4 h4 L4 W4 q4
  obtain ⟨rfl, eh_⟩ := q4
  subst h4
  refine Go.st (fun _ => XS.ifNo W4.here W4.ex rfl (hb hby d28_19) rfl ((if0 _ _).trans (feq ((by decide) : ¬ ((1 : Int32) = (0 : Int32)))).1)) ?_
  refine Go.st (fun _ => XS.aloadN W4.here W4.ex rfl (hb hby d28_22) rfl rfl) ?_
  refine Go.st (fun _ => XS.iconst W4.here W4.ex rfl (hb hby d28_23)) ?_
  show Go _ _ _ _ (T4.setTop (mkF m_ 24 #[.val (.ref x), .val (.ref a), .val .null, .val (.ref b), .val (.int (6 : Int32))] [(.int (0 : Int32)), (.ref x)]))
  refine W4.putF (cx.w 25 rfl) Via.refl F_coder_x E_x (Or.inr ⟨(cx.w 21 rfl), rfl, hnm⟩) (cx.w 5 rfl) (ty := .byte) (by decide) rfl rfl (List.mem_of_getElem? (i := 0) rfl) g_x (hb hby d28_24) ?_
  intro T5 h5 L5 W5 w5
  have ne_a_x : a ≠ x := (ne_exa E_a E_x (by decide))
  replace E_x := E_x.wr w5
  replace F_value_x := F_value_x.other w5 (Or.inr (slot_ne (Or.inr (cx.w 20 rfl)) (Or.inr (cx.w 21 rfl)) (by decide) (t := (.array .byte)) (t' := .byte) (by decide) (by decide)))
  replace F_coder_x := F_coder_x.same w5
  replace E_a := E_a.wr w5
  replace F_value_a := F_value_a.other w5 (Or.inl ne_a_x)
  replace F_coder_a := F_coder_a.other w5 (Or.inl ne_a_x)
  replace F_count_a := F_count_a.other w5 (Or.inl ne_a_x)
  replace V_b := V_b.other w5 ne_b_x
  replace K0 := K0.wr w5 (Or.inl (List.mem_of_getElem? (i := 0) rfl))
  refine Go.st (fun _ => XS.aloadN W5.here W5.ex rfl (hb hby d28_27) rfl rfl) ?_
  refine Go.st (fun _ => XS.aloadN W5.here W5.ex rfl (hb hby d28_28) rfl rfl) ?_
  refine Go.st (fun _ => XS.iconst W5.here W5.ex rfl (hb hby d28_29)) ?_
  show Go _ _ _ _ (T5.setTop (mkF m_ 30 #[.val (.ref x), .val (.ref a), .val .null, .val (.ref b), .val (.int (6 : Int32))] [(.int (0 : Int32)), (.ref b), (.ref x)]))
  refine Go.st (fun _ => XS.iload W5.here W5.ex rfl (hb hby d28_30) rfl) ?_
  show Go _ _ _ _ (T5.setTop (mkF m_ 32 #[.val (.ref x), .val (.ref a), .val .null, .val (.ref b), .val (.int (6 : Int32))] [(.int (6 : Int32)), (.int (0 : Int32)), (.ref b), (.ref x)]))
  refine W5.callS (y := Y34) (cx.w 198 rfl) (cx.w 199 rfl) (cx.w 200 rfl) (cx.w 201 rfl) (by decide) (ct_cor6 cx W5.old b kb c0 V_b) all0 (by decide) (Wd := 1) (by decide) (k' := 1) (n' := 6) rfl rfl (by decide) (by decide) (by rw [hml]; rfl) (argsL := [(.ref b), (.int (0 : Int32)), (.int (6 : Int32))]) (rest := [(.ref x)]) rfl (lenOf pd19 rfl) rfl (Nat.le_of_eq rfl) (hb hby d28_32) ?_
  intro v6 vm6 T6 h6 L6 W6 q6
  obtain ⟨u, ku, rfl, hz_u, g_u, K1, V_u⟩ := q6
  have ne_x_u : x ≠ u := Nat.ne_of_lt (Nat.lt_of_lt_of_le E_x.lt hz_u)
  have ne_a_u : a ≠ u := Nat.ne_of_lt (Nat.lt_of_lt_of_le E_a.lt hz_u)
  have ne_b_u : b ≠ u := Nat.ne_of_lt (Nat.lt_of_lt_of_le V_b.lt hz_u)
  have sz_u : h.size ≤ u := Nat.le_trans K0.1 hz_u
  replace E_x := E_x.keep K1
  replace F_value_x := F_value_x.keep K1 nin0
  replace F_coder_x := F_coder_x.keep K1 nin0
  replace E_a := E_a.keep K1
  replace F_value_a := F_value_a.keep K1 nin0
  replace F_coder_a := F_coder_a.keep K1 nin0
  replace F_count_a := F_count_a.keep K1 nin0
  replace V_b := V_b.keep K1 nin0
  replace K0 := K0.trans K1 all0
  show Go _ _ _ _ (T6.setTop (mkF m_ 35 #[.val (.ref x), .val (.ref a), .val .null, .val (.ref b), .val (.int (6 : Int32))] [(.ref u), (.ref x)]))
  refine W6.putF (cx.w 24 rfl) Via.refl F_value_x E_x (Or.inr ⟨(cx.w 20 rfl), rfl, hnm⟩) (cx.w 5 rfl) (ty := (.array .byte)) (by decide) rfl rfl (List.mem_of_getElem? (i := 0) rfl) g_x (hb hby d28_35) ?_
  intro T7 h7 L7 W7 w7
  replace E_x := E_x.wr w7
  replace F_value_x := F_value_x.same w7
  replace F_coder_x := F_coder_x.other w7 (Or.inr (slot_ne (Or.inr (cx.w 21 rfl)) (Or.inr (cx.w 20 rfl)) (by decide) (t := .byte) (t' := (.array .byte)) (by decide) (by decide)))
  replace E_a := E_a.wr w7
  replace F_value_a := F_value_a.other w7 (Or.inl ne_a_x)
  replace F_coder_a := F_coder_a.other w7 (Or.inl ne_a_x)
  replace F_count_a := F_count_a.other w7 (Or.inl ne_a_x)
  replace V_b := V_b.other w7 ne_b_x
  replace V_u := V_u.other w7 (Ne.symm ne_x_u)
  replace K0 := K0.wr w7 (Or.inl (List.mem_of_getElem? (i := 0) rfl))
  refine Go.st (fun _ => XS.goto W7.here W7.ex rfl (pc0 := 38) (pc' := 97) rfl (hb hby d28_38) (by decide) (by decide)) ?_
  show Go _ _ _ _ (T7.setTop (mkF m_ 97 #[.val (.ref x), .val (.ref a), .val .null, .val (.ref b), .val (.int (6 : Int32))] []))
  exact W7.retV hret (hb hby d28_97) (by decide) (by decide) fun vr_ cr_ => ⟨rfl, K0, u, E_x, F_coder_x, F_value_x, ⟨ku, V_u⟩, (Ch8.cons (by decide) (Ch8.cons (by decide) (Ch8.cons (by decide) (Ch8.cons (by decide) (Ch8.cons (by decide) (Ch8.cons r0 Ch8.nil)))))), Nat.le_of_ble_eq_true rfl⟩
theorem ct_isb6 {l : Launch} {Z a0 n0 g1 gf em es} (cx : Ctx Z a0 n0 g1 gf em es) {h : Heap} (O : Old Z n0 h) (x a b : Addr) (kb : ClassId) (c0 : Int32) (E_x : Exa Z h x "java/lang/String") (F_value_x : Fld Z h x "java/lang/String" "value" "[B" .null) (F_coder_x : Fld Z h x "java/lang/String" "coder" "B" (.int 0)) (g_x : n0 ≤ x) (E_a : Exa Z h a "java/lang/StringBuilder") (F_value_a : Fld Z h a "java/lang/AbstractStringBuilder" "value" "[B" (.ref b)) (F_coder_a : Fld Z h a "java/lang/AbstractStringBuilder" "coder" "B" (.int (0 : Int32))) (F_count_a : Fld Z h a "java/lang/AbstractStringBuilder" "count" "I" (.int (6 : Int32))) (V_b : Arv Z h b kb .byte 16 [(.int (114 : Int32).toInt8.toInt32), (.int (111 : Int32).toInt8.toInt32), (.int (108 : Int32).toInt8.toInt32), (.int (101 : Int32).toInt8.toInt32), (.int (32 : Int32).toInt8.toInt32), (.int c0.toInt8.toInt32), (.int 0), (.int 0), (.int 0), (.int 0), (.int 0), (.int 0), (.int 0), (.int 0), (.int 0), (.int 0)] (.int 0)) (ne_b_x : b ≠ x) (r0 : ¬ c0 < 0 ∧ ¬ (255 : Int32) < c0) :
    Ct l Z consts_1 n0 [] Y20 jdk_42_method_53_code 2 none ({ frames := 4, cells := 1, slots := 6, locals := 65 } : Room) #[(.ref x), (.ref a)] [x] h (fun v _ h' => v = none ∧ Keep h h' [x] ∧ ∃ u, StrAt Z h' x u ([114, 111, 108, 101, 32, c0] : List Int32)) := by
  refine Ct.intro (plainFor_of_name pn0) O cx.ew ?_
  intro p_ e_ s_ m_ bl_ mt_ c_ T0 W0 hby hml hret hnm
  refine Go.st (fun t_ k_ => castTop (g' := mkF m_ 0 #[.val (.ref x), .val (.ref a)] []) (by first | (simp [entryFrame, mkF, argsToLocals, Value.category]; done) | rfl) k_) ?_
  refine Go.st (fun _ => XS.aloadN W0.here W0.ex rfl (hb hby d27_0) rfl rfl) ?_
  refine Go.st (fun _ => XS.aloadN W0.here W0.ex rfl (hb hby d27_1) rfl rfl) ?_
  refine Go.st (fun _ => XS.aconstNull W0.here W0.ex rfl (hb hby d27_2)) ?_
  show Go _ _ _ _ (T0.setTop (mkF m_ 3 #[.val (.ref x), .val (.ref a)] [.null, (.ref a), (.ref x)]))
  refine W0.callI (y := Y19) rfl (cx.w 177 rfl) (cx.w 178 rfl) (cx.w 6 rfl) (cx.w 179 rfl) (by decide) (ct_iab6 cx W0.old x a b kb c0 E_x F_value_x F_coder_x g_x E_a F_value_a F_coder_a F_count_a V_b ne_b_x r0) (allS (List.mem_of_getElem? (i := 0) rfl) all0) (by decide) (Wd := 0) (by decide) (k' := 1) (n' := 6) rfl rfl (by decide) (by decide) (by rw [hml]; rfl) (a := x) (argsL := [(.ref a), .null]) (rest := []) rfl (lenOf pd22 rfl) rfl (Nat.le_of_eq rfl) (hb hby d27_3) ?_
  intro v1 vm1 T1 h1 L1 W1 q1
  obtain ⟨rfl, K1, u, S_u⟩ := q1
  show Go _ _ _ _ (T1.setTop (mkF m_ 6 #[.val (.ref x), .val (.ref a)] []))
  exact W1.retV hret (hb hby d27_6) (by decide) (by decide) fun vr_ cr_ => ⟨rfl, K1, u, S_u⟩
theorem ct_ts6 {l : Launch} {Z a0 n0 g1 gf em es} (cx : Ctx Z a0 n0 g1 gf em es) {h : Heap} (O : Old Z n0 h) (a b : Addr) (kb : ClassId) (c0 : Int32) (E_a : Exa Z h a "java/lang/StringBuilder") (F_value_a : Fld Z h a "java/lang/AbstractStringBuilder" "value" "[B" (.ref b)) (F_coder_a : Fld Z h a "java/lang/AbstractStringBuilder" "coder" "B" (.int (0 : Int32))) (F_count_a : Fld Z h a "java/lang/AbstractStringBuilder" "count" "I" (.int (6 : Int32))) (V_b : Arv Z h b kb .byte 16 [(.int (114 : Int32).toInt8.toInt32), (.int (111 : Int32).toInt8.toInt32), (.int (108 : Int32).toInt8.toInt32), (.int (101 : Int32).toInt8.toInt32), (.int (32 : Int32).toInt8.toInt32), (.int c0.toInt8.toInt32), (.int 0), (.int 0), (.int 0), (.int 0), (.int 0), (.int 0), (.int 0), (.int 0), (.int 0), (.int 0)] (.int 0)) (r0 : ¬ c0 < 0 ∧ ¬ (255 : Int32) < c0) :
    Ct l Z consts_1 n0 [] Y31 jdk_67_method_42_code 1 (some (.object "java/lang/String")) ({ frames := 5, cells := 2, slots := 10, locals := 79 } : Room) #[(.ref a)] [] h (fun v _ h' => ∃ (x u : Addr), v = some (.ref x) ∧ h.size ≤ x ∧ n0 ≤ x ∧ Keep h h' [] ∧ StrAt Z h' x u ([114, 111, 108, 101, 32, c0] : List Int32)) := by
  refine Ct.intro (plainFor_of_name pn14) O cx.ew ?_
  intro p_ e_ s_ m_ bl_ mt_ c_ T0 W0 hby hml hret hnm
  refine Go.st (fun t_ k_ => castTop (g' := mkF m_ 0 #[.val (.ref a)] []) (by first | (simp [entryFrame, mkF, argsToLocals, Value.category]; done) | rfl) k_) ?_
  show Go _ _ _ _ (T0.setTop (mkF m_ 0 #[.val (.ref a)] []))
  have K0 : Keep h h [] := Keep.refl _ _
  refine W0.newO (cx.w 173 rfl) (cx.w 5 rfl) (cx.w 6 rfl) (hb hby d26_0) (k' := 1) (n' := 4) rfl rfl (by decide) (by decide) ?_
  intro T1 h1 b1 hb1 g_b1 W1 E1 E_b1 D1
  have ne_a_b1 : a ≠ b1 := Nat.ne_of_lt (Nat.lt_of_lt_of_le E_a.lt (Nat.le_of_eq hb1.symm))
  have ne_b_b1 : b ≠ b1 := Nat.ne_of_lt (Nat.lt_of_lt_of_le V_b.lt (Nat.le_of_eq hb1.symm))
  have sz_b1 : h.size ≤ b1 := Nat.le_trans K0.1 (Nat.le_of_eq hb1.symm)
  replace E_a := E_a.ext E1
  replace F_value_a := F_value_a.ext E1
  replace F_coder_a := F_coder_a.ext E1
  replace F_count_a := F_count_a.ext E1
  replace V_b := V_b.ext E1
  replace K0 := K0.ext E1
  have F_value_b1 : Fld Z h1 b1 "java/lang/String" "value" "[B" .null := D1 (Or.inr (cx.w 20 rfl)) (ty := (.array .byte)) (by decide)
  have F_coder_b1 : Fld Z h1 b1 "java/lang/String" "coder" "B" (.int (0 : Int32)) := D1 (Or.inr (cx.w 21 rfl)) (ty := .byte) (by decide)
  refine Go.st (fun _ => XS.dup W1.here W1.ex rfl (hb hby d26_3) rfl rfl) ?_
  refine Go.st (fun _ => XS.aloadN W1.here W1.ex rfl (hb hby d26_4) rfl rfl) ?_
  show Go _ _ _ _ (T1.setTop (mkF m_ 5 #[.val (.ref a)] [(.ref a), (.ref b1), (.ref b1)]))
  refine W1.callI (y := Y20) rfl (cx.w 174 rfl) (cx.w 175 rfl) (cx.w 6 rfl) (cx.w 176 rfl) (by decide) (ct_isb6 cx W1.old b1 a b kb c0 E_b1 F_value_b1 F_coder_b1 g_b1 E_a F_value_a F_coder_a F_count_a V_b ne_b_b1 r0) (allS (List.mem_of_getElem? (i := 0) rfl) all0) (by decide) (Wd := 1) (by decide) (k' := 2) (n' := 10) rfl rfl (by decide) (by decide) (by rw [hml]; rfl) (a := b1) (argsL := [(.ref a)]) (rest := [(.ref b1)]) rfl (lenOf pd23 rfl) rfl (Nat.le_of_eq rfl) (hb hby d26_5) ?_
  intro v2 vm2 T2 h2 L2 W2 q2
  obtain ⟨rfl, K1, u, S_u⟩ := q2
  replace E_a := E_a.keep K1
  replace F_value_a := F_value_a.keep K1 (ninS ne_a_b1 nin0)
  replace F_coder_a := F_coder_a.keep K1 (ninS ne_a_b1 nin0)
  replace F_count_a := F_count_a.keep K1 (ninS ne_a_b1 nin0)
  replace V_b := V_b.keep K1 (ninS ne_b_b1 nin0)
  replace E_b1 := E_b1.keep K1
  replace K0 := K0.trans K1 (allS (Or.inr sz_b1) all0)
  show Go _ _ _ _ (T2.setTop (mkF m_ 8 #[.val (.ref a)] [(.ref b1)]))
  exact W2.retA hret rfl rfl (hb hby d26_8) (by decide) (by decide) fun vr_ cr_ => ⟨b1, u, rfl, sz_b1, g_b1, K0, S_u⟩
theorem ct_min7 {l : Launch} {Z a0 n0 g1 gf em es} (cx : Ctx Z a0 n0 g1 gf em es) {h : Heap} (O : Old Z n0 h)   :
    Ct l Z consts_1 n0 [] Y16 jdk_29_method_69_code 2 (some .int) ({ frames := 0, cells := 0, slots := 0, locals := 0 } : Room) #[(.int (16 : Int32)), (.int (7 : Int32))] [] h (fun v _ h' => v = some (.int 7) ∧ h' = h) := by
  refine Ct.intro (Jvm.Free.JP.mathPlain rfl (by decide +kernel)) O cx.ew ?_
  intro p_ e_ s_ m_ bl_ mt_ c_ T0 W0 hby hml hret hnm
  refine Go.st (fun t_ k_ => castTop (g' := mkF m_ 0 #[.val (.int (16 : Int32)), .val (.int (7 : Int32))] []) (by first | (simp [entryFrame, mkF, argsToLocals, Value.category]; done) | rfl) k_) ?_
  refine Go.st (fun _ => XS.iloadN W0.here W0.ex rfl (hb hby d36_0) rfl) ?_
  refine Go.st (fun _ => XS.iloadN W0.here W0.ex rfl (hb hby d36_1) rfl) ?_
  refine Go.st (fun _ => XS.icmpYes W0.here W0.ex rfl (pc0 := 2) (pc' := 9) rfl (hb hby d36_2) rfl (tlt ((by decide) : (7 : Int32) < (16 : Int32))).2.2.1 (by decide) (by decide)) ?_
  show Go _ _ _ _ (T0.setTop (mkF m_ 9 #[.val (.int (16 : Int32)), .val (.int (7 : Int32))] []))
  refine Go.st (fun _ => XS.iloadN W0.here W0.ex rfl (hb hby d36_9) rfl) ?_
  show Go _ _ _ _ (T0.setTop (mkF m_ 10 #[.val (.int (16 : Int32)), .val (.int (7 : Int32))] [(.int (7 : Int32))]))
  exact W0.retI hret (hb hby d36_10) (by decide) (by decide) fun vr_ cr_ => ⟨rfl, rfl⟩
theorem ct_ckl7 {l : Launch} {Z a0 n0 g1 gf em es} (cx : Ctx Z a0 n0 g1 gf em es) {h : Heap} (O : Old Z n0 h)   :
    Ct l Z consts_1 n0 [] Y33 jdk_65_method_131_code 2 none ({ frames := 0, cells := 0, slots := 0, locals := 0 } : Room) #[(.int (0 : Int32)), (.int (7 : Int32))] [] h (fun v _ h' => v = none ∧ h' = h) := by
  refine Ct.intro (plainFor_of_name pn15) O cx.ew ?_
  intro p_ e_ s_ m_ bl_ mt_ c_ T0 W0 hby hml hret hnm
  refine Go.st (fun t_ k_ => castTop (g' := mkF m_ 0 #[.val (.int (0 : Int32)), .val (.int (7 : Int32))] []) (by first | (simp [entryFrame, mkF, argsToLocals, Value.category]; done) | rfl) k_) ?_
  refine Go.st (fun _ => XS.iloadN W0.here W0.ex rfl (hb hby d35_0) rfl) ?_
  refine Go.st (fun _ => XS.iloadN W0.here W0.ex rfl (hb hby d35_1) rfl) ?_
  refine Go.st (fun _ => XS.icmpYes W0.here W0.ex rfl (pc0 := 2) (pc' := 37) rfl (hb hby d35_2) rfl (flt ((by decide) : ¬ ((7 : Int32) < (0 : Int32)))).2.1 (by decide) (by decide)) ?_
  show Go _ _ _ _ (T0.setTop (mkF m_ 37 #[.val (.int (0 : Int32)), .val (.int (7 : Int32))] []))
  exact W0.retV hret (hb hby d35_37) (by decide) (by decide) fun vr_ cr_ => ⟨rfl, rfl⟩
theorem ct_corb7 {l : Launch} {Z a0 n0 g1 gf em es} (cx : Ctx Z a0 n0 g1 gf em es) {h : Heap} (O : Old Z n0 h) (b : Addr) (kb : ClassId) (c0 c1 : Int32) (V_b : Arv Z h b kb .byte 16 [(.int (114 : Int32).toInt8.toInt32), (.int (111 : Int32).toInt8.toInt32), (.int (108 : Int32).toInt8.toInt32), (.int (101 : Int32).toInt8.toInt32), (.int (32 : Int32).toInt8.toInt32), (.int c0.toInt8.toInt32), (.int c1.toInt8.toInt32), (.int 0), (.int 0), (.int 0), (.int 0), (.int 0), (.int 0), (.int 0), (.int 0), (.int 0)] (.int 0)) :
    Ct l Z consts_1 n0 [] Y35 jdk_65_method_133_code 5 (some (.array .byte)) ({ frames := 1, cells := 1, slots := 7, locals := 18 } : Room) #[(.ref b), (.int (0 : Int32)), (.int (7 : Int32))] [] h (fun v _ h' => ∃ (u : Addr) (ku : ClassId), v = some (.ref u) ∧ h.size ≤ u ∧ n0 ≤ u ∧ Keep h h' [] ∧ Arv Z h' u ku .byte (7 : Int32) [(.int (114 : Int32).toInt8.toInt32), (.int (111 : Int32).toInt8.toInt32), (.int (108 : Int32).toInt8.toInt32), (.int (101 : Int32).toInt8.toInt32), (.int (32 : Int32).toInt8.toInt32), (.int c0.toInt8.toInt32), (.int c1.toInt8.toInt32)] (.int 0)) := by
  refine Ct.intro (plainFor_of_name pn15) O cx.ew ?_
  intro p_ e_ s_ m_ bl_ mt_ c_ T0 W0 hby hml hret hnm
  refine Go.st (fun t_ k_ => castTop (g' := mkF m_ 0 #[.val (.ref b), .val (.int (0 : Int32)), .val (.int (7 : Int32)), .unset, .unset] []) (by first | (simp [entryFrame, mkF, argsToLocals, Value.category]; done) | rfl) k_) ?_
  show Go _ _ _ _ (T0.setTop (mkF m_ 0 #[.val (.ref b), .val (.int (0 : Int32)), .val (.int (7 : Int32)), .unset, .unset] []))
  have K0 : Keep h h [] := Keep.refl _ _
  refine Go.st (fun _ => XS.iloadN W0.here W0.ex rfl (hb hby d34_0) rfl) ?_
  refine Go.st (fun _ => XS.iloadN W0.here W0.ex rfl (hb hby d34_1) rfl) ?_
  show Go _ _ _ _ (T0.setTop (mkF m_ 2 #[.val (.ref b), .val (.int (0 : Int32)), .val (.int (7 : Int32)), .unset, .unset] [(.int (7 : Int32)), (.int (0 : Int32))]))
  refine W0.callS (y := Y33) (cx.w 205 rfl) (cx.w 206 rfl) (cx.w 200 rfl) (cx.w 207 rfl) (by decide) (ct_ckl7 cx W0.old ) all0 (by decide) (Wd := 0) (by decide) (k' := 0) (n' := 0) rfl rfl (by decide) (by decide) (by rw [hml]; rfl) (argsL := [(.int (0 : Int32)), (.int (7 : Int32))]) (rest := []) rfl (lenOf pd17 rfl) rfl (Nat.le_of_eq rfl) (hb hby d34_2) ?_
  intro v1 vm1 T1 h1 L1 W1 q1
  obtain ⟨rfl, eh_⟩ := q1
  subst h1
  refine Go.st (fun _ => XS.iloadN W1.here W1.ex rfl (hb hby d34_5) rfl) ?_
  refine Go.st (fun _ => XS.iloadN W1.here W1.ex rfl (hb hby d34_6) rfl) ?_
  refine Go.st (fun _ => XS.isub W1.here W1.ex rfl (hb hby d34_7) rfl) ?_
  show Go _ _ _ _ (T1.setTop (mkF m_ 8 #[.val (.ref b), .val (.int (0 : Int32)), .val (.int (7 : Int32)), .unset, .unset] [(.int (7 : Int32))]))
  refine Go.st (fun _ => XS.istoreN W1.here W1.ex rfl (hb hby d34_8) rfl (l' := #[.val (.ref b), .val (.int (0 : Int32)), .val (.int (7 : Int32)), .val (.int (7 : Int32)), .unset]) rfl) ?_
  refine Go.st (fun _ => XS.iloadN W1.here W1.ex rfl (hb hby d34_9) rfl) ?_
  show Go _ _ _ _ (T1.setTop (mkF m_ 10 #[.val (.ref b), .val (.int (0 : Int32)), .val (.int (7 : Int32)), .val (.int (7 : Int32)), .unset] [(.int (7 : Int32))]))
  refine W1.newP (ty := .byte) (dv := .int 0) rfl rfl (cx.w 19 rfl) (hb hby d34_10) (z := (7 : Int32)) (by decide) (cap := 7) (by decide) (by decide) (k' := 1) (n' := 7) rfl rfl (by decide) (by decide) ?_
  intro T2 h2 b2 kA_b2 hb2 g_b2 W2 E2 V_b2
  have ne_b_b2 : b ≠ b2 := Nat.ne_of_lt (Nat.lt_of_lt_of_le V_b.lt (Nat.le_of_eq hb2.symm))
  have sz_b2 : h.size ≤ b2 := Nat.le_trans K0.1 (Nat.le_of_eq hb2.symm)
  replace V_b := V_b.ext E2
  replace K0 := K0.ext E2
  replace V_b2 : Arv Z h2 b2 kA_b2 .byte (7 : Int32) [(.int 0), (.int 0), (.int 0), (.int 0), (.int 0), (.int 0), (.int 0)] (.int 0) := V_b2
  refine Go.st (fun _ => XS.astore W2.here W2.ex rfl (hb hby d34_12) rfl rfl (l' := #[.val (.ref b), .val (.int (0 : Int32)), .val (.int (7 : Int32)), .val (.int (7 : Int32)), .val (.ref b2)]) rfl) ?_
  refine Go.st (fun _ => XS.aloadN W2.here W2.ex rfl (hb hby d34_14) rfl rfl) ?_
  refine Go.st (fun _ => XS.iloadN W2.here W2.ex rfl (hb hby d34_15) rfl) ?_
  show Go _ _ _ _ (T2.setTop (mkF m_ 16 #[.val (.ref b), .val (.int (0 : Int32)), .val (.int (7 : Int32)), .val (.int (7 : Int32)), .val (.ref b2)] [(.int (0 : Int32)), (.ref b)]))
  refine Go.st (fun _ => XS.aload W2.here W2.ex rfl (hb hby d34_16) rfl rfl) ?_
  refine Go.st (fun _ => XS.iconst W2.here W2.ex rfl (hb hby d34_18)) ?_
  refine Go.st (fun _ => XS.aloadN W2.here W2.ex rfl (hb hby d34_19) rfl rfl) ?_
  show Go _ _ _ _ (T2.setTop (mkF m_ 20 #[.val (.ref b), .val (.int (0 : Int32)), .val (.int (7 : Int32)), .val (.int (7 : Int32)), .val (.ref b2)] [(.ref b), (.int (0 : Int32)), (.ref b2), (.int (0 : Int32)), (.ref b)]))
  refine W2.alen V_b (hb hby d34_20) ?_
  refine Go.st (fun _ => XS.iloadN W2.here W2.ex rfl (hb hby d34_21) rfl) ?_
  refine Go.st (fun _ => XS.isub W2.here W2.ex rfl (hb hby d34_22) rfl) ?_
  show Go _ _ _ _ (T2.setTop (mkF m_ 23 #[.val (.ref b), .val (.int (0 : Int32)), .val (.int (7 : Int32)), .val (.int (7 : Int32)), .val (.ref b2)] [(.int (16 : Int32)), (.int (0 : Int32)), (.ref b2), (.int (0 : Int32)), (.ref b)]))
  refine Go.st (fun _ => XS.iloadN W2.here W2.ex rfl (hb hby d34_23) rfl) ?_
  show Go _ _ _ _ (T2.setTop (mkF m_ 24 #[.val (.ref b), .val (.int (0 : Int32)), .val (.int (7 : Int32)), .val (.int (7 : Int32)), .val (.ref b2)] [(.int (7 : Int32)), (.int (16 : Int32)), (.int (0 : Int32)), (.ref b2), (.int (0 : Int32)), (.ref b)]))
  refine W2.callS (y := Y16) (cx.w 208 rfl) (cx.w 209 rfl) (cx.w 210 rfl) (cx.w 211 rfl) (by decide) (ct_min7 cx W2.old ) all0 (by decide) (Wd := 4) (by decide) (k' := 1) (n' := 7) rfl rfl (by decide) (by decide) (by rw [hml]; rfl) (argsL := [(.int (16 : Int32)), (.int (7 : Int32))]) (rest := [(.int (0 : Int32)), (.ref b2), (.int (0 : Int32)), (.ref b)]) rfl (lenOf pd18 rfl) rfl (Nat.le_of_eq rfl) (hb hby d34_24) ?_
  intro v3 vm3 T3 h3 L3 W3 q3
  obtain ⟨rfl, eh_⟩ := q3
  subst h3
  show Go _ _ _ _ (T3.setTop (mkF m_ 27 #[.val (.ref b), .val (.int (0 : Int32)), .val (.int (7 : Int32)), .val (.int (7 : Int32)), .val (.ref b2)] [(.int (7 : Int32)), (.int (0 : Int32)), (.ref b2), (.int (0 : Int32)), (.ref b)]))
  refine W3.cpP (cx.w 212 rfl) (cx.w 167 rfl) (cx.w 165 rfl) (cx.w 166 rfl) V_b V_b2 rfl (by decide) (by decide) (by decide) (by decide) (by decide) (us := [(.int (114 : Int32).toInt8.toInt32), (.int (111 : Int32).toInt8.toInt32), (.int (108 : Int32).toInt8.toInt32), (.int (101 : Int32).toInt8.toInt32), (.int (32 : Int32).toInt8.toInt32), (.int c0.toInt8.toInt32), (.int c1.toInt8.toInt32)]) rfl (Nat.le_of_ble_eq_true rfl) (List.mem_of_getElem? (i := 0) rfl) g_b2 (by rw [hml]; rfl) (hb hby d34_27) (by decide) (Wd := 0) (Nat.le_of_eq rfl) (by decide) ?_
  intro T4 h4 L4 W4 Kc4 V_new
  replace V_b := V_b.keep Kc4 (ninS ne_b_b2 nin0)
  replace K0 := K0.trans Kc4 (allS (Or.inr sz_b2) all0)
  replace V_b2 : Arv Z h4 b2 kA_b2 .byte (7 : Int32) [(.int (114 : Int32).toInt8.toInt32), (.int (111 : Int32).toInt8.toInt32), (.int (108 : Int32).toInt8.toInt32), (.int (101 : Int32).toInt8.toInt32), (.int (32 : Int32).toInt8.toInt32), (.int c0.toInt8.toInt32), (.int c1.toInt8.toInt32)] (.int 0) := V_new
  clear V_new
  refine Go.st (fun _ => XS.aload W4.here W4.ex rfl (hb hby d34_30) rfl rfl) ?_
  show Go _ _ _ _ (T4.setTop (mkF m_ 32 #[.val (.ref b), .val (.int (0 : Int32)), .val (.int (7 : Int32)), .val (.int (7 : Int32)), .val (.ref b2)] [(.ref b2)]))
  exact W4.retA hret rfl rfl (hb hby d34_32) (by decide) (by decide) fun vr_ cr_ => ⟨b2, _, rfl, sz_b2, g_b2, K0, V_b2⟩
theorem ct_cor7 {l : Launch} {Z a0 n0 g1 gf em es} (cx : Ctx Z a0 n0 g1 gf em es) {h : Heap} (O : Old Z n0 h) (b : Addr) (kb : ClassId) (c0 c1 : Int32) (V_b : Arv Z h b kb .byte 16 [(.int (114 : Int32).toInt8.toInt32), (.int (111 : Int32).toInt8.toInt32), (.int (108 : Int32).toInt8.toInt32), (.int (101 : Int32).toInt8.toInt32), (.int (32 : Int32).toInt8.toInt32), (.int c0.toInt8.toInt32), (.int c1.toInt8.toInt32), (.int 0), (.int 0), (.int 0), (.int 0), (.int 0), (.int 0), (.int 0), (.int 0), (.int 0)] (.int 0)) :
    Ct l Z consts_1 n0 [] Y34 jdk_65_method_132_code 3 (some (.array .byte)) ({ frames := 2, cells := 1, slots := 7, locals := 34 } : Room) #[(.ref b), (.int (0 : Int32)), (.int (7 : Int32))] [] h (fun v _ h' => ∃ (u : Addr) (ku : ClassId), v = some (.ref u) ∧ h.size ≤ u ∧ n0 ≤ u ∧ Keep h h' [] ∧ Arv Z h' u ku .byte (7 : Int32) [(.int (114 : Int32).toInt8.toInt32), (.int (111 : Int32).toInt8.toInt32), (.int (108 : Int32).toInt8.toInt32), (.int (101 : Int32).toInt8.toInt32), (.int (32 : Int32).toInt8.toInt32), (.int c0.toInt8.toInt32), (.int c1.toInt8.toInt32)] (.int 0)) := by
  refine Ct.intro (plainFor_of_name pn15) O cx.ew ?_
  intro p_ e_ s_ m_ bl_ mt_ c_ T0 W0 hby hml hret hnm
  refine Go.st (fun t_ k_ => castTop (g' := mkF m_ 0 #[.val (.ref b), .val (.int (0 : Int32)), .val (.int (7 : Int32))] []) (by first | (simp [entryFrame, mkF, argsToLocals, Value.category]; done) | rfl) k_) ?_
  refine Go.st (fun _ => XS.iloadN W0.here W0.ex rfl (hb hby d33_0) rfl) ?_
  refine Go.st (fun _ => XS.ifNo W0.here W0.ex rfl (hb hby d33_1) rfl ((if0 _ _).trans (teq (rfl : (0 : Int32) = (0 : Int32))).2)) ?_
  refine Go.st (fun _ => XS.iloadN W0.here W0.ex rfl (hb hby d33_4) rfl) ?_
  show Go _ _ _ _ (T0.setTop (mkF m_ 5 #[.val (.ref b), .val (.int (0 : Int32)), .val (.int (7 : Int32))] [(.int (7 : Int32))]))
  refine Go.st (fun _ => XS.aloadN W0.here W0.ex rfl (hb hby d33_5) rfl rfl) ?_
  show Go _ _ _ _ (T0.setTop (mkF m_ 6 #[.val (.ref b), .val (.int (0 : Int32)), .val (.int (7 : Int32))] [(.ref b), (.int (7 : Int32))]))
  refine W0.alen V_b (hb hby d33_6) ?_
  refine Go.st (fun _ => XS.icmpNo W0.here W0.ex rfl (hb hby d33_7) rfl (feq ((by decide) : ¬ ((7 : Int32) = (16 : Int32)))).1) ?_
  refine Go.st (fun _ => XS.aloadN W0.here W0.ex rfl (hb hby d33_10) rfl rfl) ?_
  show Go _ _ _ _ (T0.setTop (mkF m_ 11 #[.val (.ref b), .val (.int (0 : Int32)), .val (.int (7 : Int32))] [(.ref b)]))
  refine Go.st (fun _ => XS.iloadN W0.here W0.ex rfl (hb hby d33_11) rfl) ?_
  refine Go.st (fun _ => XS.iloadN W0.here W0.ex rfl (hb hby d33_12) rfl) ?_
  show Go _ _ _ _ (T0.setTop (mkF m_ 13 #[.val (.ref b), .val (.int (0 : Int32)), .val (.int (7 : Int32))] [(.int (7 : Int32)), (.int (0 : Int32)), (.ref b)]))
  refine W0.callS (y := Y35) (cx.w 202 rfl) (cx.w 203 rfl) (cx.w 200 rfl) (cx.w 204 rfl) (by decide) (ct_corb7 cx W0.old b kb c0 c1 V_b) all0 (by decide) (Wd := 0) (by decide) (k' := 1) (n' := 7) rfl rfl (by decide) (by decide) (by rw [hml]; rfl) (argsL := [(.ref b), (.int (0 : Int32)), (.int (7 : Int32))]) (rest := []) rfl (lenOf pd19 rfl) rfl (Nat.le_of_eq rfl) (hb hby d33_13) ?_
  intro v1 vm1 T1 h1 L1 W1 q1
  obtain ⟨u, ku, rfl, hz_u, g_u, K1, V_u⟩ := q1
  show Go _ _ _ _ (T1.setTop (mkF m_ 16 #[.val (.ref b), .val (.int (0 : Int32)), .val (.int (7 : Int32))] [(.ref u)]))
  exact W1.retA hret rfl rfl (hb hby d33_16) (by decide) (by decide) fun vr_ cr_ => ⟨u, ku, rfl, hz_u, g_u, K1, V_u⟩
theorem ct_iab7 {l : Launch} {Z a0 n0 g1 gf em es} (cx : Ctx Z a0 n0 g1 gf em es) {h : Heap} (O : Old Z n0 h) (x a b : Addr) (kb : ClassId) (c0 c1 : Int32) (E_x : Exa Z h x "java/lang/String") (F_value_x : Fld Z h x "java/lang/String" "value" "[B" .null) (F_coder_x : Fld Z h x "java/lang/String" "coder" "B" (.int 0)) (g_x : n0 ≤ x) (E_a : Exa Z h a "java/lang/StringBuilder") (F_value_a : Fld Z h a "java/lang/AbstractStringBuilder" "value" "[B" (.ref b)) (F_coder_a : Fld Z h a "java/lang/AbstractStringBuilder" "coder" "B" (.int (0 : Int32))) (F_count_a : Fld Z h a "java/lang/AbstractStringBuilder" "count" "I" (.int (7 : Int32))) (V_b : Arv Z h b kb .byte 16 [(.int (114 : Int32).toInt8.toInt32), (.int (111 : Int32).toInt8.toInt32), (.int (108 : Int32).toInt8.toInt32), (.int (101 : Int32).toInt8.toInt32), (.int (32 : Int32).toInt8.toInt32), (.int c0.toInt8.toInt32), (.int c1.toInt8.toInt32), (.int 0), (.int 0), (.int 0), (.int 0), (.int 0), (.int 0), (.int 0), (.int 0), (.int 0)] (.int 0)) (ne_b_x : b ≠ x) (r0 : ¬ c0 < 0 ∧ ¬ (255 : Int32) < c0) (r1 : ¬ c1 < 0 ∧ ¬ (255 : Int32) < c1) :
    Ct l Z consts_1 n0 [] Y19 jdk_42_method_150_code 5 none ({ frames := 3, cells := 1, slots := 7, locals := 49 } : Room) #[(.ref x), (.ref a), .null] [x] h (fun v _ h' => v = none ∧ Keep h h' [x] ∧ ∃ u, StrAt Z h' x u ([114, 111, 108, 101, 32, c0, c1] : List Int32)) := by
  refine Ct.intro (plainFor_of_name pn0) O cx.ew ?_
  intro p_ e_ s_ m_ bl_ mt_ c_ T0 W0 hby hml hret hnm
  refine Go.st (fun t_ k_ => castTop (g' := mkF m_ 0 #[.val (.ref x), .val (.ref a), .val .null, .unset, .unset] []) (by first | (simp [entryFrame, mkF, argsToLocals, Value.category]; done) | rfl) k_) ?_
  show Go _ _ _ _ (T0.setTop (mkF m_ 0 #[.val (.ref x), .val (.ref a), .val .null, .unset, .unset] []))
  have K0 : Keep h h [x] := Keep.refl _ _
  refine Go.st (fun _ => XS.aloadN W0.here W0.ex rfl (hb hby d28_0) rfl rfl) ?_
  show Go _ _ _ _ (T0.setTop (mkF m_ 1 #[.val (.ref x), .val (.ref a), .val .null, .unset, .unset] [(.ref x)]))
  refine W0.initO (cx.w 15 rfl) (cx.w 16 rfl) (cx.w 17 rfl) (by rw [hml]; rfl) (hb hby d28_1) (by decide) (Wd := 0) (Nat.le_of_eq rfl) (by decide) ?_
  intro T1 W1
  refine Go.st (fun _ => XS.aloadN W1.here W1.ex rfl (hb hby d28_4) rfl rfl) ?_
  show Go _ _ _ _ (T1.setTop (mkF m_ 5 #[.val (.ref x), .val (.ref a), .val .null, .unset, .unset] [(.ref a)]))
  refine W1.callV (y := Y11) (z := Y11) (cx.w 180 rfl) (cx.w 181 rfl) (cx.w 183 rfl) (cx.w 182 rfl) (cx.w 111 rfl) (cx.w 184 rfl) (W1.nf (cx.w 183 rfl)) (by decide) E_a (ct_gv cx W1.old a b (7 : Int32) E_a F_value_a F_coder_a F_count_a) all0 (by decide) (Wd := 0) (by decide) (k' := 0) (n' := 0) rfl rfl (by decide) (by decide) (by rw [hml]; rfl) (a := a) (argsL := []) (rest := []) rfl (lenOf pd20 rfl) rfl (Nat.le_of_eq rfl) (hb hby d28_5) ?_
  intro v2 vm2 T2 h2 L2 W2 q2
  obtain ⟨rfl, eh_⟩ := q2
  subst h2
  refine Go.st (fun _ => XS.astoreN W2.here W2.ex rfl (hb hby d28_8) rfl rfl (l' := #[.val (.ref x), .val (.ref a), .val .null, .val (.ref b), .unset]) rfl) ?_
  refine Go.st (fun _ => XS.aloadN W2.here W2.ex rfl (hb hby d28_9) rfl rfl) ?_
  show Go _ _ _ _ (T2.setTop (mkF m_ 10 #[.val (.ref x), .val (.ref a), .val .null, .val (.ref b), .unset] [(.ref a)]))
  refine W2.callV (y := Y14) (z := Y30) (cx.w 185 rfl) (cx.w 186 rfl) (cx.w 188 rfl) (cx.w 189 rfl) (cx.w 103 rfl) (cx.w 190 rfl) (W2.nfc (y' := Y10) (cx.w 146 rfl) rfl) (by decide) E_a (ct_sbl cx W2.old a b (7 : Int32) E_a F_value_a F_coder_a F_count_a) all0 (by decide) (Wd := 0) (by decide) (k' := 0) (n' := 0) rfl rfl (by decide) (by decide) (by rw [hml]; rfl) (a := a) (argsL := []) (rest := []) rfl (lenOf pd14 rfl) rfl (Nat.le_of_eq rfl) (hb hby d28_10) ?_
  intro v3 vm3 T3 h3 L3 W3 q3
  obtain ⟨rfl, eh_⟩ := q3
  subst h3
  refine Go.st (fun _ => XS.istore W3.here W3.ex rfl (hb hby d28_13) rfl (l' := #[.val (.ref x), .val (.ref a), .val .null, .val (.ref b), .val (.int (7 : Int32))]) rfl) ?_
  refine Go.st (fun _ => XS.aloadN W3.here W3.ex rfl (hb hby d28_15) rfl rfl) ?_
  show Go _ _ _ _ (T3.setTop (mkF m_ 16 #[.val (.ref x), .val (.ref a), .val .null, .val (.ref b), .val (.int (7 : Int32))] [(.ref a)]))
  refine W3.callV (y := Y13) (z := Y13) (cx.w 193 rfl) (cx.w 194 rfl) (cx.w 196 rfl) (cx.w 195 rfl) (cx.w 111 rfl) (cx.w 197 rfl) (W3.nf (cx.w 196 rfl)) (by decide) E_a (ct_aL1 cx W3.old a b (7 : Int32) E_a F_value_a F_coder_a F_count_a) all0 (by decide) (Wd := 0) (by decide) (k' := 0) (n' := 0) rfl rfl (by decide) (by decide) (by rw [hml]; rfl) (a := a) (argsL := []) (rest := []) rfl (lenOf pd21 rfl) rfl (Nat.le_of_eq rfl) (hb hby d28_16) ?_
  intro v4 vm4 T4 h4 L4 W4 q4
  obtain ⟨rfl, eh_⟩ := q4
  subst h4
  refine Go.st (fun _ => XS.ifNo W4.here W4.ex rfl (hb hby d28_19) rfl ((if0 _ _).trans (feq ((by decide) : ¬ ((1 : Int32) = (0 : Int32)))).1)) ?_
  refine Go.st (fun _ => XS.aloadN W4.here W4.ex rfl (hb hby d28_22) rfl rfl) ?_
  refine Go.st (fun _ => XS.iconst W4.here W4.ex rfl (hb hby d28_23)) ?_
  show Go _ _ _ _ (T4.setTop (mkF m_ 24 #[.val (.ref x), .val (.ref a), .val .null, .val (.ref b), .val (.int (7 : Int32))] [(.int (0 : Int32)), (.ref x)]))
  refine W4.putF (cx.w 25 rfl) Via.refl F_coder_x E_x (Or.inr ⟨(cx.w 21 rfl), rfl, hnm⟩) (cx.w 5 rfl) (ty := .byte) (by decide) rfl rfl (List.mem_of_getElem? (i := 0) rfl) g_x (hb hby d28_24) ?_
  intro T5 h5 L5 W5 w5
  have ne_a_x : a ≠ x := (ne_exa E_a E_x (by decide))
  replace E_x := E_x.wr w5
  replace F_value_x := F_value_x.other w5 (Or.inr (slot_ne (Or.inr (cx.w 20 rfl)) (Or.inr (cx.w 21 rfl)) (by decide) (t := (.array .byte)) (t' := .byte) (by decide) (by decide)))
  replace F_coder_x := F_coder_x.same w5
  replace E_a := E_a.wr w5
  replace F_value_a := F_value_a.other w5 (Or.inl ne_a_x)
  replace F_coder_a := F_coder_a.other w5 (Or.inl ne_a_x)
  replace F_count_a := F_count_a.other w5 (Or.inl ne_a_x)
  replace V_b := V_b.other w5 ne_b_x
  replace K0 := K0.wr w5 (Or.inl (List.mem_of_getElem? (i := 0) rfl))
  refine Go.st (fun _ => XS.aloadN W5.here W5.ex rfl (hb hby d28_27) rfl rfl) ?_
  refine Go.st (fun _ => XS.aloadN W5.here W5.ex rfl (hb hby d28_28) rfl rfl) ?_
  refine Go.st (fun _ => XS.iconst W5.here W5.ex rfl (hb hby d28_29)) ?_
  show Go _ _ _ _ (T5.setTop (mkF m_ 30 #[.val (.ref x), .val (.ref a), .val .null, .val (.ref b), .val (.int (7 : Int32))] [(.int (0 : Int32)), (.ref b), (.ref x)]))
  refine Go.st (fun _ => XS.iload W5.here W5.ex rfl (hb hby d28_30) rfl) ?_
  show Go _ _ _ _ (T5.setTop (mkF m_ 32 #[.val (.ref x), .val (.ref a), .val .null, .val (.ref b), .val (.int (7 : Int32))] [(.int (7 : Int32)), (.int (0 : Int32)), (.ref b), (.ref x)]))
  refine W5.callS (y := Y34) (cx.w 198 rfl) (cx.w 199 rfl) (cx.w 200 rfl) (cx.w 201 rfl) (by decide) (ct_cor7 cx W5.old b kb c0 c1 V_b) all0 (by decide) (Wd := 1) (by decide) (k' := 1) (n' := 7) rfl rfl (by decide) (by decide) (by rw [hml]; rfl) (argsL := [(.ref b), (.int (0 : Int32)), (.int (7 : Int32))]) (rest := [(.ref x)]) rfl (lenOf pd19 rfl) rfl (Nat.le_of_eq rfl) (hb hby d28_32) ?_
  intro v6 vm6 T6 h6 L6 W6 q6
  obtain ⟨u, ku, rfl, hz_u, g_u, K1, V_u⟩ := q6
  have ne_x_u : x ≠ u := Nat.ne_of_lt (Nat.lt_of_lt_of_le E_x.lt hz_u)
  have ne_a_u : a ≠ u := Nat.ne_of_lt (Nat.lt_of_lt_of_le E_a.lt hz_u)
  have ne_b_u : b ≠ u := Nat.ne_of_lt (Nat.lt_of_lt_of_le V_b.lt hz_u)
  have sz_u : h.size ≤ u := Nat.le_trans K0.1 hz_u
  replace E_x := E_x.keep K1
  replace F_value_x := F_value_x.keep K1 nin0
  replace F_coder_x := F_coder_x.keep K1 nin0
  replace E_a := E_a.keep K1
  replace F_value_a := F_value_a.keep K1 nin0
  replace F_coder_a := F_coder_a.keep K1 nin0
  replace F_count_a := F_count_a.keep K1 nin0
  replace V_b := V_b.keep K1 nin0
  replace K0 := K0.trans K1 all0
  show Go _ _ _ _ (T6.setTop (mkF m_ 35 #[.val (.ref x), .val (.ref a), .val .null, .val (.ref b), .val (.int (7 : Int32))] [(.ref u), (.ref x)]))
  refine W6.putF (cx.w 24 rfl) Via.refl F_value_x E_x (Or.inr ⟨(cx.w 20 rfl), rfl, hnm⟩) (cx.w 5 rfl) (ty := (.array .byte)) (by decide) rfl rfl (List.mem_of_getElem? (i := 0) rfl) g_x (hb hby d28_35) ?_
  intro T7 h7 L7 W7 w7
  replace E_x := E_x.wr w7
  replace F_value_x := F_value_x.same w7
  replace F_coder_x := F_coder_x.other w7 (Or.inr (slot_ne (Or.inr (cx.w 21 rfl)) (Or.inr (cx.w 20 rfl)) (by decide) (t := .byte) (t' := (.array .byte)) (by decide) (by decide)))
  replace E_a := E_a.wr w7
  replace F_value_a := F_value_a.other w7 (Or.inl ne_a_x)
  replace F_coder_a := F_coder_a.other w7 (Or.inl ne_a_x)
  replace F_count_a := F_count_a.other w7 (Or.inl ne_a_x)
  replace V_b := V_b.other w7 ne_b_x
  replace V_u := V_u.other w7 (Ne.symm ne_x_u)
  replace K0 := K0.wr w7 (Or.inl (List.mem_of_getElem? (i := 0) rfl))
  refine Go.st (fun _ => XS.goto W7.here W7.ex rfl (pc0 := 38) (pc' := 97) rfl (hb hby d28_38) (by decide) (by decide)) ?_
  show Go _ _ _ _ (T7.setTop (mkF m_ 97 #[.val (.ref x), .val (.ref a), .val .null, .val (.ref b), .val (.int (7 : Int32))] []))
  exact W7.retV hret (hb hby d28_97) (by decide) (by decide) fun vr_ cr_ => ⟨rfl, K0, u, E_x, F_coder_x, F_value_x, ⟨ku, V_u⟩, (Ch8.cons (by decide) (Ch8.cons (by decide) (Ch8.cons (by decide) (Ch8.cons (by decide) (Ch8.cons (by decide) (Ch8.cons r0 (Ch8.cons r1 Ch8.nil))))))), Nat.le_of_ble_eq_true rfl⟩
theorem ct_isb7 {l : Launch} {Z a0 n0 g1 gf em es} (cx : Ctx Z a0 n0 g1 gf em es) {h : Heap} (O : Old Z n0 h) (x a b : Addr) (kb : ClassId) (c0 c1 : Int32) (E_x : Exa Z h x "java/lang/String") (F_value_x : Fld Z h x "java/lang/String" "value" "[B" .null) (F_coder_x : Fld Z h x "java/lang/String" "coder" "B" (.int 0)) (g_x : n0 ≤ x) (E_a : Exa Z h a "java/lang/StringBuilder") (F_value_a : Fld Z h a "java/lang/AbstractStringBuilder" "value" "[B" (.ref b)) (F_coder_a : Fld Z h a "java/lang/AbstractStringBuilder" "coder" "B" (.int (0 : Int32))) (F_count_a : Fld Z h a "java/lang/AbstractStringBuilder" "count" "I" (.int (7 : Int32))) (V_b : Arv Z h b kb .byte 16 [(.int (114 : Int32).toInt8.toInt32), (.int (111 : Int32).toInt8.toInt32), (.int (108 : Int32).toInt8.toInt32), (.int (101 : Int32).toInt8.toInt32), (.int (32 : Int32).toInt8.toInt32), (.int c0.toInt8.toInt32), (.int c1.toInt8.toInt32), (.int 0), (.int 0), (.int 0), (.int 0), (.int 0), (.int 0), (.int 0), (.int 0), (.int 0)] (.int 0)) (ne_b_x : b ≠ x) (r0 : ¬ c0 < 0 ∧ ¬ (255 : Int32) < c0) (r1 : ¬ c1 < 0 ∧ ¬ (255 : Int32) < c1) :
    Ct l Z consts_1 n0 [] Y20 jdk_42_method_53_code 2 none ({ frames := 4, cells := 1, slots := 7, locals := 65 } : Room) #[(.ref x), (.ref a)] [x] h (fun v _ h' => v = none ∧ Keep h h' [x] ∧ ∃ u, StrAt Z h' x u ([114, 111, 108, 101, 32, c0, c1] : List Int32)) := by
  refine Ct.intro (plainFor_of_name pn0) O cx.ew ?_
  intro p_ e_ s_ m_ bl_ mt_ c_ T0 W0 hby hml hret hnm
  refine Go.st (fun t_ k_ => castTop (g' := mkF m_ 0 #[.val (.ref x), .val (.ref a)] []) (by first | (simp [entryFrame, mkF, argsToLocals, Value.category]; done) | rfl) k_) ?_
  refine Go.st (fun _ => XS.aloadN W0.here W0.ex rfl (hb hby d27_0) rfl rfl) ?_
  refine Go.st (fun _ => XS.aloadN W0.here W0.ex rfl (hb hby d27_1) rfl rfl) ?_
  refine Go.st (fun _ => XS.aconstNull W0.here W0.ex rfl (hb hby d27_2)) ?_
  show Go _ _ _ _ (T0.setTop (mkF m_ 3 #[.val (.ref x), .val (.ref a)] [.null, (.ref a), (.ref x)]))
  refine W0.callI (y := Y19) rfl (cx.w 177 rfl) (cx.w 178 rfl) (cx.w 6 rfl) (cx.w 179 rfl) (by decide) (ct_iab7 cx W0.old x a b kb c0 c1 E_x F_value_x F_coder_x g_x E_a F_value_a F_coder_a F_count_a V_b ne_b_x r0 r1) (allS (List.mem_of_getElem? (i := 0) rfl) all0) (by decide) (Wd := 0) (by decide) (k' := 1) (n' := 7) rfl rfl (by decide) (by decide) (by rw [hml]; rfl) (a := x) (argsL := [(.ref a), .null]) (rest := []) rfl (lenOf pd22 rfl) rfl (Nat.le_of_eq rfl) (hb hby d27_3) ?_
  intro v1 vm1 T1 h1 L1 W1 q1
  obtain ⟨rfl, K1, u, S_u⟩ := q1
  show Go _ _ _ _ (T1.setTop (mkF m_ 6 #[.val (.ref x), .val (.ref a)] []))
  exact W1.retV hret (hb hby d27_6) (by decide) (by decide) fun vr_ cr_ => ⟨rfl, K1, u, S_u⟩
theorem ct_ts7 {l : Launch} {Z a0 n0 g1 gf em es} (cx : Ctx Z a0 n0 g1 gf em es) {h : Heap} (O : Old Z n0 h) (a b : Addr) (kb : ClassId) (c0 c1 : Int32) (E_a : Exa Z h a "java/lang/StringBuilder") (F_value_a : Fld Z h a "java/lang/AbstractStringBuilder" "value" "[B" (.ref b)) (F_coder_a : Fld Z h a "java/lang/AbstractStringBuilder" "coder" "B" (.int (0 : Int32))) (F_count_a : Fld Z h a "java/lang/AbstractStringBuilder" "count" "I" (.int (7 : Int32))) (V_b : Arv Z h b kb .byte 16 [(.int (114 : Int32).toInt8.toInt32), (.int (111 : Int32).toInt8.toInt32), (.int (108 : Int32).toInt8.toInt32), (.int (101 : Int32).toInt8.toInt32), (.int (32 : Int32).toInt8.toInt32), (.int c0.toInt8.toInt32), (.int c1.toInt8.toInt32), (.int 0), (.int 0), (.int 0), (.int 0), (.int 0), (.int 0), (.int 0), (.int 0), (.int 0)] (.int 0)) (r0 : ¬ c0 < 0 ∧ ¬ (255 : Int32) < c0) (r1 : ¬ c1 < 0 ∧ ¬ (255 : Int32) < c1) :
    Ct l Z consts_1 n0 [] Y31 jdk_67_method_42_code 1 (some (.object "java/lang/String")) ({ frames := 5, cells := 2, slots := 11, locals := 79 } : Room) #[(.ref a)] [] h (fun v _ h' => ∃ (x u : Addr), v = some (.ref x) ∧ h.size ≤ x ∧ n0 ≤ x ∧ Keep h h' [] ∧ StrAt Z h' x u ([114, 111, 108, 101, 32, c0, c1] : List Int32)) := by
  refine Ct.intro (plainFor_of_name pn14) O cx.ew ?_
  intro p_ e_ s_ m_ bl_ mt_ c_ T0 W0 hby hml hret hnm
  refine Go.st (fun t_ k_ => castTop (g' := mkF m_ 0 #[.val (.ref a)] []) (by first | (simp [entryFrame, mkF, argsToLocals, Value.category]; done) | rfl) k_) ?_
  show Go _ _ _ _ (T0.setTop (mkF m_ 0 #[.val (.ref a)] []))
  have K0 : Keep h h [] := Keep.refl _ _
  refine W0.newO (cx.w 173 rfl) (cx.w 5 rfl) (cx.w 6 rfl) (hb hby d26_0) (k' := 1) (n' := 4) rfl rfl (by decide) (by decide) ?_
  intro T1 h1 b1 hb1 g_b1 W1 E1 E_b1 D1
  have ne_a_b1 : a ≠ b1 := Nat.ne_of_lt (Nat.lt_of_lt_of_le E_a.lt (Nat.le_of_eq hb1.symm))
  have ne_b_b1 : b ≠ b1 := Nat.ne_of_lt (Nat.lt_of_lt_of_le V_b.lt (Nat.le_of_eq hb1.symm))
  have sz_b1 : h.size ≤ b1 := Nat.le_trans K0.1 (Nat.le_of_eq hb1.symm)
  replace E_a := E_a.ext E1
  replace F_value_a := F_value_a.ext E1
  replace F_coder_a := F_coder_a.ext E1
  replace F_count_a := F_count_a.ext E1
  replace V_b := V_b.ext E1
  replace K0 := K0.ext E1
  have F_value_b1 : Fld Z h1 b1 "java/lang/String" "value" "[B" .null := D1 (Or.inr (cx.w 20 rfl)) (ty := (.array .byte)) (by decide)
  have F_coder_b1 : Fld Z h1 b1 "java/lang/String" "coder" "B" (.int (0 : Int32)) := D1 (Or.inr (cx.w 21 rfl)) (ty := .byte) (by decide)
  refine Go.st (fun _ => XS.dup W1.here W1.ex rfl (hb hby d26_3) rfl rfl) ?_
  refine Go.st (fun _ => XS.aloadN W1.here W1.ex rfl (hb hby d26_4) rfl rfl) ?_
  show Go _ _ _ _ (T1.setTop (mkF m_ 5 #[.val (.ref a)] [(.ref a), (.ref b1), (.ref b1)]))
  refine W1.callI (y := Y20) rfl (cx.w 174 rfl) (cx.w 175 rfl) (cx.w 6 rfl) (cx.w 176 rfl) (by decide) (ct_isb7 cx W1.old b1 a b kb c0 c1 E_b1 F_value_b1 F_coder_b1 g_b1 E_a F_value_a F_coder_a F_count_a V_b ne_b_b1 r0 r1) (allS (List.mem_of_getElem? (i := 0) rfl) all0) (by decide) (Wd := 1) (by decide) (k' := 2) (n' := 11) rfl rfl (by decide) (by decide) (by rw [hml]; rfl) (a := b1) (argsL := [(.ref a)]) (rest := [(.ref b1)]) rfl (lenOf pd23 rfl) rfl (Nat.le_of_eq rfl) (hb hby d26_5) ?_
  intro v2 vm2 T2 h2 L2 W2 q2
  obtain ⟨rfl, K1, u, S_u⟩ := q2
  replace E_a := E_a.keep K1
  replace F_value_a := F_value_a.keep K1 (ninS ne_a_b1 nin0)
  replace F_coder_a := F_coder_a.keep K1 (ninS ne_a_b1 nin0)
  replace F_count_a := F_count_a.keep K1 (ninS ne_a_b1 nin0)
  replace V_b := V_b.keep K1 (ninS ne_b_b1 nin0)
  replace E_b1 := E_b1.keep K1
  replace K0 := K0.trans K1 (allS (Or.inr sz_b1) all0)
  show Go _ _ _ _ (T2.setTop (mkF m_ 8 #[.val (.ref a)] [(.ref b1)]))
  exact W2.retA hret rfl rfl (hb hby d26_8) (by decide) (by decide) fun vr_ cr_ => ⟨b1, u, rfl, sz_b1, g_b1, K0, S_u⟩
theorem ct_min8 {l : Launch} {Z a0 n0 g1 gf em es} (cx : Ctx Z a0 n0 g1 gf em es) {h : Heap} (O : Old Z n0 h)   :
    Ct l Z consts_1 n0 [] Y16 jdk_29_method_69_code 2 (some .int) ({ frames := 0, cells := 0, slots := 0, locals := 0 } : Room) #[(.int (16 : Int32)), (.int (8 : Int32))] [] h (fun v _ h' => v = some (.int 8) ∧ h' = h) := by
  refine Ct.intro (Jvm.Free.JP.mathPlain rfl (by decide +kernel)) O cx.ew ?_
  intro p_ e_ s_ m_ bl_ mt_ c_ T0 W0 hby hml hret hnm
  refine Go.st (fun t_ k_ => castTop (g' := mkF m_ 0 #[.val (.int (16 : Int32)), .val (.int (8 : Int32))] []) (by first | (simp [entryFrame, mkF, argsToLocals, Value.category]; done) | rfl) k_) ?_
  refine Go.st (fun _ => XS.iloadN W0.here W0.ex rfl (hb hby d36_0) rfl) ?_
  refine Go.st (fun _ => XS.iloadN W0.here W0.ex rfl (hb hby d36_1) rfl) ?_
  refine Go.st (fun _ => XS.icmpYes W0.here W0.ex rfl (pc0 := 2) (pc' := 9) rfl (hb hby d36_2) rfl (tlt ((by decide) : (8 : Int32) < (16 : Int32))).2.2.1 (by decide) (by decide)) ?_
  show Go _ _ _ _ (T0.setTop (mkF m_ 9 #[.val (.int (16 : Int32)), .val (.int (8 : Int32))] []))
  refine Go.st (fun _ => XS.iloadN W0.here W0.ex rfl (hb hby d36_9) rfl) ?_
  show Go _ _ _ _ (T0.setTop (mkF m_ 10 #[.val (.int (16 : Int32)), .val (.int (8 : Int32))] [(.int (8 : Int32))]))
  exact W0.retI hret (hb hby d36_10) (by decide) (by decide) fun vr_ cr_ => ⟨rfl, rfl⟩
theorem ct_ckl8 {l : Launch} {Z a0 n0 g1 gf em es} (cx : Ctx Z a0 n0 g1 gf em es) {h : Heap} (O : Old Z n0 h)   :
    Ct l Z consts_1 n0 [] Y33 jdk_65_method_131_code 2 none ({ frames := 0, cells := 0, slots := 0, locals := 0 } : Room) #[(.int (0 : Int32)), (.int (8 : Int32))] [] h (fun v _ h' => v = none ∧ h' = h) := by
  refine Ct.intro (plainFor_of_name pn15) O cx.ew ?_
  intro p_ e_ s_ m_ bl_ mt_ c_ T0 W0 hby hml hret hnm
  refine Go.st (fun t_ k_ => castTop (g' := mkF m_ 0 #[.val (.int (0 : Int32)), .val (.int (8 : Int32))] []) (by first | (simp [entryFrame, mkF, argsToLocals, Value.category]; done) | rfl) k_) ?_
  refine Go.st (fun _ => XS.iloadN W0.here W0.ex rfl (hb hby d35_0) rfl) ?_
  refine Go.st (fun _ => XS.iloadN W0.here W0.ex rfl (hb hby d35_1) rfl) ?_
  refine Go.st (fun _ => XS.icmpYes W0.here W0.ex rfl (pc0 := 2) (pc' := 37) rfl (hb hby d35_2) rfl (flt ((by decide) : ¬ ((8 : Int32) < (0 : Int32)))).2.1 (by decide) (by decide)) ?_
  show Go _ _ _ _ (T0.setTop (mkF m_ 37 #[.val (.int (0 : Int32)), .val (.int (8 : Int32))] []))
  exact W0.retV hret (hb hby d35_37) (by decide) (by decide) fun vr_ cr_ => ⟨rfl, rfl⟩
theorem ct_corb8 {l : Launch} {Z a0 n0 g1 gf em es} (cx : Ctx Z a0 n0 g1 gf em es) {h : Heap} (O : Old Z n0 h) (b : Addr) (kb : ClassId) (c0 c1 c2 : Int32) (V_b : Arv Z h b kb .byte 16 [(.int (114 : Int32).toInt8.toInt32), (.int (111 : Int32).toInt8.toInt32), (.int (108 : Int32).toInt8.toInt32), (.int (101 : Int32).toInt8.toInt32), (.int (32 : Int32).toInt8.toInt32), (.int c0.toInt8.toInt32), (.int c1.toInt8.toInt32), (.int c2.toInt8.toInt32), (.int 0), (.int 0), (.int 0), (.int 0), (.int 0), (.int 0), (.int 0), (.int 0)] (.int 0)) :
    Ct l Z consts_1 n0 [] Y35 jdk_65_method_133_code 5 (some (.array .byte)) ({ frames := 1, cells := 1, slots := 8, locals := 18 } : Room) #[(.ref b), (.int (0 : Int32)), (.int (8 : Int32))] [] h (fun v _ h' => ∃ (u : Addr) (ku : ClassId), v = some (.ref u) ∧ h.size ≤ u ∧ n0 ≤ u ∧ Keep h h' [] ∧ Arv Z h' u ku .byte (8 : Int32) [(.int (114 : Int32).toInt8.toInt32), (.int (111 : Int32).toInt8.toInt32), (.int (108 : Int32).toInt8.toInt32), (.int (101 : Int32).toInt8.toInt32), (.int (32 : Int32).toInt8.toInt32), (.int c0.toInt8.toInt32), (.int c1.toInt8.toInt32), (.int c2.toInt8.toInt32)] (.int 0)) := by
  refine Ct.intro (plainFor_of_name pn15) O cx.ew ?_
  intro p_ e_ s_ m_ bl_ mt_ c_ T0 W0 hby hml hret hnm
  refine Go.st (fun t_ k_ => castTop (g' := mkF m_ 0 #[.val (.ref b), .val (.int (0 : Int32)), .val (.int (8 : Int32)), .unset, .unset] []) (by first | (simp [entryFrame, mkF, argsToLocals, Value.category]; done) | rfl) k_) ?_
  show Go _ _ _ _ (T0.setTop (mkF m_ 0 #[.val (.ref b), .val (.int (0 : Int32)), .val (.int (8 : Int32)), .unset, .unset] []))
  have K0 : Keep h h [] := Keep.refl _ _
  refine Go.st (fun _ => XS.iloadN W0.here W0.ex rfl (hb hby d34_0) rfl) ?_
  refine Go.st (fun _ => XS.iloadN W0.here W0.ex rfl (hb hby d34_1) rfl) ?_
  show Go _ _ _ _ (T0.setTop (mkF m_ 2 #[.val (.ref b), .val (.int (0 : Int32)), .val (.int (8 : Int32)), .unset, .unset] [(.int (8 : Int32)), (.int (0 : Int32))]))
  refine W0.callS (y := Y33) (cx.w 205 rfl) (cx.w 206 rfl) (cx.w 200 rfl) (cx.w 207 rfl) (by decide) (ct_ckl8 cx W0.old ) all0 (by decide) (Wd := 0) (by decide) (k' := 0) (n' := 0) rfl rfl (by decide) (by decide) (by rw [hml]; rfl) (argsL := [(.int (0 : Int32)), (.int (8 : Int32))]) (rest := []) rfl (lenOf pd17 rfl) rfl (Nat.le_of_eq rfl) (hb hby d34_2) ?_
  intro v1 vm1 T1 h1 L1 W1 q1
  obtain ⟨rfl, eh_⟩ := q1
  subst h1
  refine Go.st (fun _ => XS.iloadN W1.here W1.ex rfl (hb hby d34_5) rfl) ?_
  refine Go.st (fun _ => XS.iloadN W1.here W1.ex rfl (hb hby d34_6) rfl) ?_
  refine Go.st (fun _ => XS.isub W1.here W1.ex rfl (hb hby d34_7) rfl) ?_
  show Go _ _ _ _ (T1.setTop (mkF m_ 8 #[.val (.ref b), .val (.int (0 : Int32)), .val (.int (8 : Int32)), .unset, .unset] [(.int (8 : Int32))]))
  refine Go.st (fun _ => XS.istoreN W1.here W1.ex rfl (hb hby d34_8) rfl (l' := #[.val (.ref b), .val (.int (0 : Int32)), .val (.int (8 : Int32)), .val (.int (8 : Int32)), .unset]) rfl) ?_
  refine Go.st (fun _ => XS.iloadN W1.here W1.ex rfl (hb hby d34_9) rfl) ?_
  show Go _ _ _ _ (T1.setTop (mkF m_ 10 #[.val (.ref b), .val (.int (0 : Int32)), .val (.int (8 : Int32)), .val (.int (8 : Int32)), .unset] [(.int (8 : Int32))]))
  refine W1.newP (ty := .byte) (dv := .int 0) rfl rfl (cx.w 19 rfl) (hb hby d34_10) (z := (8 : Int32)) (by decide) (cap := 8) (by decide) (by decide) (k' := 1) (n' := 8) rfl rfl (by decide) (by decide) ?_
  intro T2 h2 b2 kA_b2 hb2 g_b2 W2 E2 V_b2
  have ne_b_b2 : b ≠ b2 := Nat.ne_of_lt (Nat.lt_of_lt_of_le V_b.lt (Nat.le_of_eq hb2.symm))
  have sz_b2 : h.size ≤ b2 := Nat.le_trans K0.1 (Nat.le_of_eq hb2.symm)
  replace V_b := V_b.ext E2
  replace K0 := K0.ext E2
  replace V_b2 : Arv Z h2 b2 kA_b2 .byte (8 : Int32) [(.int 0), (.int 0), (.int 0), (.int 0), (.int 0), (.int 0), (.int 0), (.int 0)] (.int 0) := V_b2
  refine Go.st (fun _ => XS.astore W2.here W2.ex rfl (hb hby d34_12) rfl rfl (l' := #[.val (.ref b), .val (.int (0 : Int32)), .val (.int (8 : Int32)), .val (.int (8 : Int32)), .val (.ref b2)]) rfl) ?_
  refine Go.st (fun _ => XS.aloadN W2.here W2.ex rfl (hb hby d34_14) rfl rfl) ?_
  refine Go.st (fun _ => XS.iloadN W2.here W2.ex rfl (hb hby d34_15) rfl) ?_
  show Go _ _ _ _ (T2.setTop (mkF m_ 16 #[.val (.ref b), .val (.int (0 : Int32)), .val (.int (8 : Int32)), .val (.int (8 : Int32)), .val (.ref b2)] [(.int (0 : Int32)), (.ref b)]))
  refine Go.st (fun _ => XS.aload W2.here W2.ex rfl (hb hby d34_16) rfl rfl) ?_
  refine Go.st (fun _ => XS.iconst W2.here W2.ex rfl (hb hby d34_18)) ?_
  refine Go.st (fun _ => XS.aloadN W2.here W2.ex rfl (hb hby d34_19) rfl rfl) ?_
  show Go _ _ _ _ (T2.setTop (mkF m_ 20 #[.val (.ref b), .val (.int (0 : Int32)), .val (.int (8 : Int32)), .val (.int (8 : Int32)), .val (.ref b2)] [(.ref b), (.int (0 : Int32)), (.ref b2), (.int (0 : Int32)), (.ref b)]))
  refine W2.alen V_b (hb hby d34_20) ?_
  refine Go.st (fun _ => XS.iloadN W2.here W2.ex rfl (hb hby d34_21) rfl) ?_
  refine Go.st (fun _ => XS.isub W2.here W2.ex rfl (hb hby d34_22) rfl) ?_
  show Go _ _ _ _ (T2.setTop (mkF m_ 23 #[.val (.ref b), .val (.int (0 : Int32)), .val (.int (8 : Int32)), .val (.int (8 : Int32)), .val (.ref b2)] [(.int (16 : Int32)), (.int (0 : Int32)), (.ref b2), (.int (0 : Int32)), (.ref b)]))
  refine Go.st (fun _ => XS.iloadN W2.here W2.ex rfl (hb hby d34_23) rfl) ?_
  show Go _ _ _ _ (T2.setTop (mkF m_ 24 #[.val (.ref b), .val (.int (0 : Int32)), .val (.int (8 : Int32)), .val (.int (8 : Int32)), .val (.ref b2)] [(.int (8 : Int32)), (.int (16 : Int32)), (.int (0 : Int32)), (.ref b2), (.int (0 : Int32)), (.ref b)]))
  refine W2.callS (y := Y16) (cx.w 208 rfl) (cx.w 209 rfl) (cx.w 210 rfl) (cx.w 211 rfl) (by decide) (ct_min8 cx W2.old ) all0 (by decide) (Wd := 4) (by decide) (k' := 1) (n' := 8) rfl rfl (by decide) (by decide) (by rw [hml]; rfl) (argsL := [(.int (16 : Int32)), (.int (8 : Int32))]) (rest := [(.int (0 : Int32)), (.ref b2), (.int (0 : Int32)), (.ref b)]) rfl (lenOf pd18 rfl) rfl (Nat.le_of_eq rfl) (hb hby d34_24) ?_
  intro v3 vm3 T3 h3 L3 W3 q3
  obtain ⟨rfl, eh_⟩ := q3
  subst h3
  show Go _ _ _ _ (T3.setTop (mkF m_ 27 #[.val (.ref b), .val (.int (0 : Int32)), .val (.int (8 : Int32)), .val (.int (8 : Int32)), .val (.ref b2)] [(.int (8 : Int32)), (.int (0 : Int32)), (.ref b2), (.int (0 : Int32)), (.ref b)]))
  refine W3.cpP (cx.w 212 rfl) (cx.w 167 rfl) (cx.w 165 rfl) (cx.w 166 rfl) V_b V_b2 rfl (by decide) (by decide) (by decide) (by decide) (by decide) (us := [(.int (114 : Int32).toInt8.toInt32), (.int (111 : Int32).toInt8.toInt32), (.int (108 : Int32).toInt8.toInt32), (.int (101 : Int32).toInt8.toInt32), (.int (32 : Int32).toInt8.toInt32), (.int c0.toInt8.toInt32), (.int c1.toInt8.toInt32), (.int c2.toInt8.toInt32)]) rfl (Nat.le_of_ble_eq_true rfl) (List.mem_of_getElem? (i := 0) rfl) g_b2 (by rw [hml]; rfl) (hb hby d34_27) (by decide) (Wd := 0) (Nat.le_of_eq rfl) (by decide) ?_
  intro T4 h4 L4 W4 Kc4 V_new
  replace V_b := V_b.keep Kc4 (ninS ne_b_b2 nin0)
  replace K0 := K0.trans Kc4 (allS (Or.inr sz_b2) all0)
  replace V_b2 : Arv Z h4 b2 kA_b2 .byte (8 : Int32) [(.int (114 : Int32).toInt8.toInt32), (.int (111 : Int32).toInt8.toInt32), (.int (108 : Int32).toInt8.toInt32), (.int (101 : Int32).toInt8.toInt32), (.int (32 : Int32).toInt8.toInt32), (.int c0.toInt8.toInt32), (.int c1.toInt8.toInt32), (.int c2.toInt8.toInt32)] (.int 0) := V_new
  clear V_new
  refine Go.st (fun _ => XS.aload W4.here W4.ex rfl (hb hby d34_30) rfl rfl) ?_
  show Go _ _ _ _ (T4.setTop (mkF m_ 32 #[.val (.ref b), .val (.int (0 : Int32)), .val (.int (8 : Int32)), .val (.int (8 : Int32)), .val (.ref b2)] [(.ref b2)]))
  exact W4.retA hret rfl rfl (hb hby d34_32) (by decide) (by decide) fun vr_ cr_ => ⟨b2, _, rfl, sz_b2, g_b2, K0, V_b2⟩
theorem ct_cor8 {l : Launch} {Z a0 n0 g1 gf em es} (cx : Ctx Z a0 n0 g1 gf em es) {h : Heap} (O : Old Z n0 h) (b : Addr) (kb : ClassId) (c0 c1 c2 : Int32) (V_b : Arv Z h b kb .byte 16 [(.int (114 : Int32).toInt8.toInt32), (.int (111 : Int32).toInt8.toInt32), (.int (108 : Int32).toInt8.toInt32), (.int (101 : Int32).toInt8.toInt32), (.int (32 : Int32).toInt8.toInt32), (.int c0.toInt8.toInt32), (.int c1.toInt8.toInt32), (.int c2.toInt8.toInt32), (.int 0), (.int 0), (.int 0), (.int 0), (.int 0), (.int 0), (.int 0), (.int 0)] (.int 0)) :
    Ct l Z consts_1 n0 [] Y34 jdk_65_method_132_code 3 (some (.array .byte)) ({ frames := 2, cells := 1, slots := 8, locals := 34 } : Room) #[(.ref b), (.int (0 : Int32)), (.int (8 : Int32))] [] h (fun v _ h' => ∃ (u : Addr) (ku : ClassId), v = some (.ref u) ∧ h.size ≤ u ∧ n0 ≤ u ∧ Keep h h' [] ∧ Arv Z h' u ku .byte (8 : Int32) [(.int (114 : Int32).toInt8.toInt32), (.int (111 : Int32).toInt8.toInt32), (.int (108 : Int32).toInt8.toInt32), (.int (101 : Int32).toInt8.toInt32), (.int (32 : Int32).toInt8.toInt32), (.int c0.toInt8.toInt32), (.int c1.toInt8.toInt32), (.int c2.toInt8.toInt32)] (.int 0)) := by
  refine Ct.intro (plainFor_of_name pn15) O cx.ew ?_
  intro p_ e_ s_ m_ bl_ mt_ c_ T0 W0 hby hml hret hnm
  refine Go.st (fun t_ k_ => castTop (g' := mkF m_ 0 #[.val (.ref b), .val (.int (0 : Int32)), .val (.int (8 : Int32))] []) (by first | (simp [entryFrame, mkF, argsToLocals, Value.category]; done) | rfl) k_) ?_
  refine Go.st (fun _ => XS.iloadN W0.here W0.ex rfl (hb hby d33_0) rfl) ?_
  refine Go.st (fun _ => XS.ifNo W0.here W0.ex rfl (hb hby d33_1) rfl ((if0 _ _).trans (teq (rfl : (0 : Int32) = (0 : Int32))).2)) ?_
  refine Go.st (fun _ => XS.iloadN W0.here W0.ex rfl (hb hby d33_4) rfl) ?_
  show Go _ _ _ _ (T0.setTop (mkF m_ 5 #[.val (.ref b), .val (.int (0 : Int32)), .val (.int (8 : Int32))] [(.int (8 : Int32))]))
  refine Go.st (fun _ => XS.aloadN W0.here W0.ex rfl (hb hby d33_5) rfl rfl) ?_
  show Go _ _ _ _ (T0.setTop (mkF m_ 6 #[.val (.ref b), .val (.int (0 : Int32)), .val (.int (8 : Int32))] [(.ref b), (.int (8 : Int32))]))
  refine W0.alen V_b (hb hby d33_6) ?_
  refine Go.st (fun _ => XS.icmpNo W0.here W0.ex rfl (hb hby d33_7) rfl (feq ((by decide) : ¬ ((8 : Int32) = (16 : Int32)))).1) ?_
  refine Go.st (fun _ => XS.aloadN W0.here W0.ex rfl (hb hby d33_10) rfl rfl) ?_
  show Go _ _ _ _ (T0.setTop (mkF m_ 11 #[.val (.ref b), .val (.int (0 : Int32)), .val (.int (8 : Int32))] [(.ref b)]))
  refine Go.st (fun _ => XS.iloadN W0.here W0.ex rfl (hb hby d33_11) rfl) ?_
  refine Go.st (fun _ => XS.iloadN W0.here W0.ex rfl (hb hby d33_12) rfl) ?_
  show Go _ _ _ _ (T0.setTop (mkF m_ 13 #[.val (.ref b), .val (.int (0 : Int32)), .val (.int (8 : Int32))] [(.int (8 : Int32)), (.int (0 : Int32)), (.ref b)]))
  refine W0.callS (y := Y35) (cx.w 202 rfl) (cx.w 203 rfl) (cx.w 200 rfl) (cx.w 204 rfl) (by decide) (ct_corb8 cx W0.old b kb c0 c1 c2 V_b) all0 (by decide) (Wd := 0) (by decide) (k' := 1) (n' := 8) rfl rfl (by decide) (by decide) (by rw [hml]; rfl) (argsL := [(.ref b), (.int (0 : Int32)), (.int (8 : Int32))]) (rest := []) rfl (lenOf pd19 rfl) rfl (Nat.le_of_eq rfl) (hb hby d33_13) ?_
  intro v1 vm1 T1 h1 L1 W1 q1
  obtain ⟨u, ku, rfl, hz_u, g_u, K1, V_u⟩ := q1
  show Go _ _ _ _ (T1.setTop (mkF m_ 16 #[.val (.ref b), .val (.int (0 : Int32)), .val (.int (8 : Int32))] [(.ref u)]))
  exact W1.retA hret rfl rfl (hb hby d33_16) (by decide) (by decide) fun vr_ cr_ => ⟨u, ku, rfl, hz_u, g_u, K1, V_u⟩
theorem ct_iab8 {l : Launch} {Z a0 n0 g1 gf em es} (cx : Ctx Z a0 n0 g1 gf em es) {h : Heap} (O : Old Z n0 h) (x a b : Addr) (kb : ClassId) (c0 c1 c2 : Int32) (E_x : Exa Z h x "java/lang/String") (F_value_x : Fld Z h x "java/lang/String" "value" "[B" .null) (F_coder_x : Fld Z h x "java/lang/String" "coder" "B" (.int 0)) (g_x : n0 ≤ x) (E_a : Exa Z h a "java/lang/StringBuilder") (F_value_a : Fld Z h a "java/lang/AbstractStringBuilder" "value" "[B" (.ref b)) (F_coder_a : Fld Z h a "java/lang/AbstractStringBuilder" "coder" "B" (.int (0 : Int32))) (F_count_a : Fld Z h a "java/lang/AbstractStringBuilder" "count" "I" (.int (8 : Int32))) (V_b : Arv Z h b kb .byte 16 [(.int (114 : Int32).toInt8.toInt32), (.int (111 : Int32).toInt8.toInt32), (.int (108 : Int32).toInt8.toInt32), (.int (101 : Int32).toInt8.toInt32), (.int (32 : Int32).toInt8.toInt32), (.int c0.toInt8.toInt32), (.int c1.toInt8.toInt32), (.int c2.toInt8.toInt32), (.int 0), (.int 0), (.int 0), (.int 0), (.int 0), (.int 0), (.int 0), (.int 0)] (.int 0)) (ne_b_x : b ≠ x) (r0 : ¬ c0 < 0 ∧ ¬ (255 : Int32) < c0) (r1 : ¬ c1 < 0 ∧ ¬ (255 : Int32) < c1) (r2 : ¬ c2 < 0 ∧ ¬ (255 : Int32) < c2) :
    Ct l Z consts_1 n0 [] Y19 jdk_42_method_150_code 5 none ({ frames := 3, cells := 1, slots := 8, locals := 49 } : Room) #[(.ref x), (.ref a), .null] [x] h (fun v _ h' => v = none ∧ Keep h h' [x] ∧ ∃ u, StrAt Z h' x u ([114, 111, 108, 101, 32, c0, c1, c2] : List Int32)) := by
  refine Ct.intro (plainFor_of_name pn0) O cx.ew ?_
  intro p_ e_ s_ m_ bl_ mt_ c_ T0 W0 hby hml hret hnm
  refine Go.st (fun t_ k_ => castTop (g' := mkF m_ 0 #[.val (.ref x), .val (.ref a), .val .null, .unset, .unset] []) (by first | (simp [entryFrame, mkF, argsToLocals, Value.category]; done) | rfl) k_) ?_
  show Go _ _ _ _ (T0.setTop (mkF m_ 0 #[.val (.ref x), .val (.ref a), .val .null, .unset, .unset] []))
  have K0 : Keep h h [x] := Keep.refl _ _
  refine Go.st (fun _ => XS.aloadN W0.here W0.ex rfl (hb hby d28_0) rfl rfl) ?_
  show Go _ _ _ _ (T0.setTop (mkF m_ 1 #[.val (.ref x), .val (.ref a), .val .null, .unset, .unset] [(.ref x)]))
  refine W0.initO (cx.w 15 rfl) (cx.w 16 rfl) (cx.w 17 rfl) (by rw [hml]; rfl) (hb hby d28_1) (by decide) (Wd := 0) (Nat.le_of_eq rfl) (by decide) ?_
  intro T1 W1
  refine Go.st (fun _ => XS.aloadN W1.here W1.ex rfl (hb hby d28_4) rfl rfl) ?_
  show Go _ _ _ _ (T1.setTop (mkF m_ 5 #[.val (.ref x), .val (.ref a), .val .null, .unset, .unset] [(.ref a)]))
  refine W1.callV (y := Y11) (z := Y11) (cx.w 180 rfl) (cx.w 181 rfl) (cx.w 183 rfl) (cx.w 182 rfl) (cx.w 111 rfl) (cx.w 184 rfl) (W1.nf (cx.w 183 rfl)) (by decide) E_a (ct_gv cx W1.old a b (8 : Int32) E_a F_value_a F_coder_a F_count_a) all0 (by decide) (Wd := 0) (by decide) (k' := 0) (n' := 0) rfl rfl (by decide) (by decide) (by rw [hml]; rfl) (a := a) (argsL := []) (rest := []) rfl (lenOf pd20 rfl) rfl (Nat.le_of_eq rfl) (hb hby d28_5) ?_
  intro v2 vm2 T2 h2 L2 W2 q2
  obtain ⟨rfl, eh_⟩ := q2
  subst h2
  refine Go.st (fun _ => XS.astoreN W2.here W2.ex rfl (hb hby d28_8) rfl rfl (l' := #[.val (.ref x), .val (.ref a), .val .null, .val (.ref b), .unset]) rfl) ?_
  refine Go.st (fun _ => XS.aloadN W2.here W2.ex rfl (hb hby d28_9) rfl rfl) ?_
  show Go _ _ _ _ (T2.setTop (mkF m_ 10 #[.val (.ref x), .val (.ref a), .val .null, .val (.ref b), .unset] [(.ref a)]))
  refine W2.callV (y := Y14) (z := Y30) (cx.w 185 rfl) (cx.w 186 rfl) (cx.w 188 rfl) (cx.w 189 rfl) (cx.w 103 rfl) (cx.w 190 rfl) (W2.nfc (y' := Y10) (cx.w 146 rfl) rfl) (by decide) E_a (ct_sbl cx W2.old a b (8 : Int32) E_a F_value_a F_coder_a F_count_a) all0 (by decide) (Wd := 0) (by decide) (k' := 0) (n' := 0) rfl rfl (by decide) (by decide) (by rw [hml]; rfl) (a := a) (argsL := []) (rest := []) rfl (lenOf pd14 rfl) rfl (Nat.le_of_eq rfl) (hb hby d28_10) ?_
  intro v3 vm3 T3 h3 L3 W3 q3
  obtain ⟨rfl, eh_⟩ := q3
  subst h3
  refine Go.st (fun _ => XS.istore W3.here W3.ex rfl (hb hby d28_13) rfl (l' := #[.val (.ref x), .val (.ref a), .val .null, .val (.ref b), .val (.int (8 : Int32))]) rfl) ?_
  refine Go.st (fun _ => XS.aloadN W3.here W3.ex rfl (hb hby d28_15) rfl rfl) ?_
  show Go _ _ _ _ (T3.setTop (mkF m_ 16 #[.val (.ref x), .val (.ref a), .val .null, .val (.ref b), .val (.int (8 : Int32))] [(.ref a)]))
  refine W3.callV (y := Y13) (z := Y13) (cx.w 193 rfl) (cx.w 194 rfl) (cx.w 196 rfl) (cx.w 195 rfl) (cx.w 111 rfl) (cx.w 197 rfl) (W3.nf (cx.w 196 rfl)) (by decide) E_a (ct_aL1 cx W3.old a b (8 : Int32) E_a F_value_a F_coder_a F_count_a) all0 (by decide) (Wd := 0) (by decide) (k' := 0) (n' := 0) rfl rfl (by decide) (by decide) (by rw [hml]; rfl) (a := a) (argsL := []) (rest := []) rfl (lenOf pd21 rfl) rfl (Nat.le_of_eq rfl) (hb hby d28_16) ?_
  intro v4 vm4 T4 h4 L4 W4 q4
  obtain ⟨rfl, eh_⟩ := q4
  subst h4
  refine Go.st (fun _ => XS.ifNo W4.here W4.ex rfl (hb hby d28_19) rfl ((if0 _ _).trans (feq ((by decide) : ¬ ((1 : Int32) = (0 : Int32)))).1)) ?_
  refine Go.st (fun _ => XS.aloadN W4.here W4.ex rfl (hb hby d28_22) rfl rfl) ?_
  refine Go.st (fun _ => XS.iconst W4.here W4.ex rfl (hb hby d28_23)) ?_
  show Go _ _ _ _ (T4.setTop (mkF m_ 24 #[.val (.ref x), .val (.ref a), .val .null, .val (.ref b), .val (.int (8 : Int32))] [(.int (0 : Int32)), (.ref x)]))
  refine W4.putF (cx.w 25 rfl) Via.refl F_coder_x E_x (Or.inr ⟨(cx.w 21 rfl), rfl, hnm⟩) (cx.w 5 rfl) (ty := .byte) (by decide) rfl rfl (List.mem_of_getElem? (i := 0) rfl) g_x (hb hby d28_24) ?_
  intro T5 h5 L5 W5 w5
  have ne_a_x : a ≠ x := (ne_exa E_a E_x (by decide))
  replace E_x := E_x.wr w5
  replace F_value_x := F_value_x.other w5 (Or.inr (slot_ne (Or.inr (cx.w 20 rfl)) (Or.inr (cx.w 21 rfl)) (by decide) (t := (.array .byte)) (t' := .byte) (by decide) (by decide)))
  replace F_coder_x := F_coder_x.same w5
  replace E_a := E_a.wr w5
  replace F_value_a := F_value_a.other w5 (Or.inl ne_a_x)
  replace F_coder_a := F_coder_a.other w5 (Or.inl ne_a_x)
  replace F_count_a := F_count_a.other w5 (Or.inl ne_a_x)
  replace V_b := V_b.other w5 ne_b_x
  replace K0 := K0.wr w5 (Or.inl (List.mem_of_getElem? (i := 0) rfl))
  refine Go.st (fun _ => XS.aloadN W5.here W5.ex rfl (hb hby d28_27) rfl rfl) ?_
  refine Go.st (fun _ => XS.aloadN W5.here W5.ex rfl (hb hby d28_28) rfl rfl) ?_
  refine Go.st (fun _ => XS.iconst W5.here W5.ex rfl (hb hby d28_29)) ?_
  show Go _ _ _ _ (T5.setTop (mkF m_ 30 #[.val (.ref x), .val (.ref a), .val .null, .val (.ref b), .val (.int (8 : Int32))] [(.int (0 : Int32)), (.ref b), (.ref x)]))
  refine Go.st (fun _ => XS.iload W5.here W5.ex rfl (hb hby d28_30) rfl) ?_
  show Go _ _ _ _ (T5.setTop (mkF m_ 32 #[.val (.ref x), .val (.ref a), .val .null, .val (.ref b), .val (.int (8 : Int32))] [(.int (8 : Int32)), (.int (0 : Int32)), (.ref b), (.ref x)]))
  refine W5.callS (y := Y34) (cx.w 198 rfl) (cx.w 199 rfl) (cx.w 200 rfl) (cx.w 201 rfl) (by decide) (ct_cor8 cx W5.old b kb c0 c1 c2 V_b) all0 (by decide) (Wd := 1) (by decide) (k' := 1) (n' := 8) rfl rfl (by decide) (by decide) (by rw [hml]; rfl) (argsL := [(.ref b), (.int (0 : Int32)), (.int (8 : Int32))]) (rest := [(.ref x)]) rfl (lenOf pd19 rfl) rfl (Nat.le_of_eq rfl) (hb hby d28_32) ?_
  intro v6 vm6 T6 h6 L6 W6 q6
  obtain ⟨u, ku, rfl, hz_u, g_u, K1, V_u⟩ := q6
  have ne_x_u : x ≠ u := Nat.ne_of_lt (Nat.lt_of_lt_of_le E_x.lt hz_u)
  have ne_a_u : a ≠ u := Nat.ne_of_lt (Nat.lt_of_lt_of_le E_a.lt hz_u)
  have ne_b_u : b ≠ u := Nat.ne_of_lt (Nat.lt_of_lt_of_le V_b.lt hz_u)
  have sz_u : h.size ≤ u := Nat.le_trans K0.1 hz_u
  replace E_x := E_x.keep K1
  replace F_value_x := F_value_x.keep K1 nin0
  replace F_coder_x := F_coder_x.keep K1 nin0
  replace E_a := E_a.keep K1
  replace F_value_a := F_value_a.keep K1 nin0
  replace F_coder_a := F_coder_a.keep K1 nin0
  replace F_count_a := F_count_a.keep K1 nin0
  replace V_b := V_b.keep K1 nin0
  replace K0 := K0.trans K1 all0
  show Go _ _ _ _ (T6.setTop (mkF m_ 35 #[.val (.ref x), .val (.ref a), .val .null, .val (.ref b), .val (.int (8 : Int32))] [(.ref u), (.ref x)]))
  refine W6.putF (cx.w 24 rfl) Via.refl F_value_x E_x (Or.inr ⟨(cx.w 20 rfl), rfl, hnm⟩) (cx.w 5 rfl) (ty := (.array .byte)) (by decide) rfl rfl (List.mem_of_getElem? (i := 0) rfl) g_x (hb hby d28_35) ?_
  intro T7 h7 L7 W7 w7
  replace E_x := E_x.wr w7
  replace F_value_x := F_value_x.same w7
  replace F_coder_x := F_coder_x.other w7 (Or.inr (slot_ne (Or.inr (cx.w 21 rfl)) (Or.inr (cx.w 20 rfl)) (by decide) (t := .byte) (t' := (.array .byte)) (by decide) (by decide)))
  replace E_a := E_a.wr w7
  replace F_value_a := F_value_a.other w7 (Or.inl ne_a_x)
  replace F_coder_a := F_coder_a.other w7 (Or.inl ne_a_x)
  replace F_count_a := F_count_a.other w7 (Or.inl ne_a_x)
  replace V_b := V_b.other w7 ne_b_x
  replace V_u := V_u.other w7 (Ne.symm ne_x_u)
  replace K0 := K0.wr w7 (Or.inl (List.mem_of_getElem? (i := 0) rfl))
  refine Go.st (fun _ => XS.goto W7.here W7.ex rfl (pc0 := 38) (pc' := 97) rfl (hb hby d28_38) (by decide) (by decide)) ?_
  show Go _ _ _ _ (T7.setTop (mkF m_ 97 #[.val (.ref x), .val (.ref a), .val .null, .val (.ref b), .val (.int (8 : Int32))] []))
  exact W7.retV hret (hb hby d28_97) (by decide) (by decide) fun vr_ cr_ => ⟨rfl, K0, u, E_x, F_coder_x, F_value_x, ⟨ku, V_u⟩, (Ch8.cons (by decide) (Ch8.cons (by decide) (Ch8.cons (by decide) (Ch8.cons (by decide) (Ch8.cons (by decide) (Ch8.cons r0 (Ch8.cons r1 (Ch8.cons r2 Ch8.nil)))))))), Nat.le_of_ble_eq_true rfl⟩
theorem ct_isb8 {l : Launch} {Z a0 n0 g1 gf em es} (cx : Ctx Z a0 n0 g1 gf em es) {h : Heap} (O : Old Z n0 h) (x a b : Addr) (kb : ClassId) (c0 c1 c2 : Int32) (E_x : Exa Z h x "java/lang/String") (F_value_x : Fld Z h x "java/lang/String" "value" "[B" .null) (F_coder_x : Fld Z h x "java/lang/String" "coder" "B" (.int 0)) (g_x : n0 ≤ x) (E_a : Exa Z h a "java/lang/StringBuilder") (F_value_a : Fld Z h a "java/lang/AbstractStringBuilder" "value" "[B" (.ref b)) (F_coder_a : Fld Z h a "java/lang/AbstractStringBuilder" "coder" "B" (.int (0 : Int32))) (F_count_a : Fld Z h a "java/lang/AbstractStringBuilder" "count" "I" (.int (8 : Int32))) (V_b : Arv Z h b kb .byte 16 [(.int (114 : Int32).toInt8.toInt32), (.int (111 : Int32).toInt8.toInt32), (.int (108 : Int32).toInt8.toInt32), (.int (101 : Int32).toInt8.toInt32), (.int (32 : Int32).toInt8.toInt32), (.int c0.toInt8.toInt32), (.int c1.toInt8.toInt32), (.int c2.toInt8.toInt32), (.int 0), (.int 0), (.int 0), (.int 0), (.int 0), (.int 0), (.int 0), (.int 0)] (.int 0)) (ne_b_x : b ≠ x) (r0 : ¬ c0 < 0 ∧ ¬ (255 : Int32) < c0) (r1 : ¬ c1 < 0 ∧ ¬ (255 : Int32) < c1) (r2 : ¬ c2 < 0 ∧ ¬ (255 : Int32) < c2) :
    Ct l Z consts_1 n0 [] Y20 jdk_42_method_53_code 2 none ({ frames := 4, cells := 1, slots := 8, locals := 65 } : Room) #[(.ref x), (.ref a)] [x] h (fun v _ h' => v = none ∧ Keep h h' [x] ∧ ∃ u, StrAt Z h' x u ([114, 111, 108, 101, 32, c0, c1, c2] : List Int32)) := by
  refine Ct.intro (plainFor_of_name pn0) O cx.ew ?_
  intro p_ e_ s_ m_ bl_ mt_ c_ T0 W0 hby hml hret hnm
  refine Go.st (fun t_ k_ => castTop (g' := mkF m_ 0 #[.val (.ref x), .val (.ref a)] []) (by first | (simp [entryFrame, mkF, argsToLocals, Value.category]; done) | rfl) k_) ?_
  refine Go.st (fun _ => XS.aloadN W0.here W0.ex rfl (hb hby d27_0) rfl rfl) ?_
  refine Go.st (fun _ => XS.aloadN W0.here W0.ex rfl (hb hby d27_1) rfl rfl) ?_
  refine Go.st (fun _ => XS.aconstNull W0.here W0.ex rfl (hb hby d27_2)) ?_
  show Go _ _ _ _ (T0.setTop (mkF m_ 3 #[.val (.ref x), .val (.ref a)] [.null, (.ref a), (.ref x)]))
  refine W0.callI (y := Y19) rfl (cx.w 177 rfl) (cx.w 178 rfl) (cx.w 6 rfl) (cx.w 179 rfl) (by decide) (ct_iab8 cx W0.old x a b kb c0 c1 c2 E_x F_value_x F_coder_x g_x E_a F_value_a F_coder_a F_count_a V_b ne_b_x r0 r1 r2) (allS (List.mem_of_getElem? (i := 0) rfl) all0) (by decide) (Wd := 0) (by decide) (k' := 1) (n' := 8) rfl rfl (by decide) (by decide) (by rw [hml]; rfl) (a := x) (argsL := [(.ref a), .null]) (rest := []) rfl (lenOf pd22 rfl) rfl (Nat.le_of_eq rfl) (hb hby d27_3) ?_
  intro v1 vm1 T1 h1 L1 W1 q1
  obtain ⟨rfl, K1, u, S_u⟩ := q1
  show Go _ _ _ _ (T1.setTop (mkF m_ 6 #[.val (.ref x), .val (.ref a)] []))
  exact W1.retV hret (hb hby d27_6) (by decide) (by decide) fun vr_ cr_ => ⟨rfl, K1, u, S_u⟩
theorem ct_ts8 {l : Launch} {Z a0 n0 g1 gf em es} (cx : Ctx Z a0 n0 g1 gf em es) {h : Heap} (O : Old Z n0 h) (a b : Addr) (kb : ClassId) (c0 c1 c2 : Int32) (E_a : Exa Z h a "java/lang/StringBuilder") (F_value_a : Fld Z h a "java/lang/AbstractStringBuilder" "value" "[B" (.ref b)) (F_coder_a : Fld Z h a "java/lang/AbstractStringBuilder" "coder" "B" (.int (0 : Int32))) (F_count_a : Fld Z h a "java/lang/AbstractStringBuilder" "count" "I" (.int (8 : Int32))) (V_b : Arv Z h b kb .byte 16 [(.int (114 : Int32).toInt8.toInt32), (.int (111 : Int32).toInt8.toInt32), (.int (108 : Int32).toInt8.toInt32), (.int (101 : Int32).toInt8.toInt32), (.int (32 : Int32).toInt8.toInt32), (.int c0.toInt8.toInt32), (.int c1.toInt8.toInt32), (.int c2.toInt8.toInt32), (.int 0), (.int 0), (.int 0), (.int 0), (.int 0), (.int 0), (.int 0), (.int 0)] (.int 0)) (r0 : ¬ c0 < 0 ∧ ¬ (255 : Int32) < c0) (r1 : ¬ c1 < 0 ∧ ¬ (255 : Int32) < c1) (r2 : ¬ c2 < 0 ∧ ¬ (255 : Int32) < c2) :
    Ct l Z consts_1 n0 [] Y31 jdk_67_method_42_code 1 (some (.object "java/lang/String")) ({ frames := 5, cells := 2, slots := 12, locals := 79 } : Room) #[(.ref a)] [] h (fun v _ h' => ∃ (x u : Addr), v = some (.ref x) ∧ h.size ≤ x ∧ n0 ≤ x ∧ Keep h h' [] ∧ StrAt Z h' x u ([114, 111, 108, 101, 32, c0, c1, c2] : List Int32)) := by
  refine Ct.intro (plainFor_of_name pn14) O cx.ew ?_
  intro p_ e_ s_ m_ bl_ mt_ c_ T0 W0 hby hml hret hnm
  refine Go.st (fun t_ k_ => castTop (g' := mkF m_ 0 #[.val (.ref a)] []) (by first | (simp [entryFrame, mkF, argsToLocals, Value.category]; done) | rfl) k_) ?_
  show Go _ _ _ _ (T0.setTop (mkF m_ 0 #[.val (.ref a)] []))
  have K0 : Keep h h [] := Keep.refl _ _
  refine W0.newO (cx.w 173 rfl) (cx.w 5 rfl) (cx.w 6 rfl) (hb hby d26_0) (k' := 1) (n' := 4) rfl rfl (by decide) (by decide) ?_
  intro T1 h1 b1 hb1 g_b1 W1 E1 E_b1 D1
  have ne_a_b1 : a ≠ b1 := Nat.ne_of_lt (Nat.lt_of_lt_of_le E_a.lt (Nat.le_of_eq hb1.symm))
  have ne_b_b1 : b ≠ b1 := Nat.ne_of_lt (Nat.lt_of_lt_of_le V_b.lt (Nat.le_of_eq hb1.symm))
  have sz_b1 : h.size ≤ b1 := Nat.le_trans K0.1 (Nat.le_of_eq hb1.symm)
  replace E_a := E_a.ext E1
  replace F_value_a := F_value_a.ext E1
  replace F_coder_a := F_coder_a.ext E1
  replace F_count_a := F_count_a.ext E1
  replace V_b := V_b.ext E1
  replace K0 := K0.ext E1
  have F_value_b1 : Fld Z h1 b1 "java/lang/String" "value" "[B" .null := D1 (Or.inr (cx.w 20 rfl)) (ty := (.array .byte)) (by decide)
  have F_coder_b1 : Fld Z h1 b1 "java/lang/String" "coder" "B" (.int (0 : Int32)) := D1 (Or.inr (cx.w 21 rfl)) (ty := .byte) (by decide)
  refine Go.st (fun _ => XS.dup W1.here W1.ex rfl (hb hby d26_3) rfl rfl) ?_
  refine Go.st (fun _ => XS.aloadN W1.here W1.ex rfl (hb hby d26_4) rfl rfl) ?_
  show Go _ _ _ _ (T1.setTop (mkF m_ 5 #[.val (.ref a)] [(.ref a), (.ref b1), (.ref b1)]))
  refine W1.callI (y := Y20) rfl (cx.w 174 rfl) (cx.w 175 rfl) (cx.w 6 rfl) (cx.w 176 rfl) (by decide) (ct_isb8 cx W1.old b1 a b kb c0 c1 c2 E_b1 F_value_b1 F_coder_b1 g_b1 E_a F_value_a F_coder_a F_count_a V_b ne_b_b1 r0 r1 r2) (allS (List.mem_of_getElem? (i := 0) rfl) all0) (by decide) (Wd := 1) (by decide) (k' := 2) (n' := 12) rfl rfl (by decide) (by decide) (by rw [hml]; rfl) (a := b1) (argsL := [(.ref a)]) (rest := [(.ref b1)]) rfl (lenOf pd23 rfl) rfl (Nat.le_of_eq rfl) (hb hby d26_5) ?_
  intro v2 vm2 T2 h2 L2 W2 q2
  obtain ⟨rfl, K1, u, S_u⟩ := q2
  replace E_a := E_a.keep K1
  replace F_value_a := F_value_a.keep K1 (ninS ne_a_b1 nin0)
  replace F_coder_a := F_coder_a.keep K1 (ninS ne_a_b1 nin0)
  replace F_count_a := F_count_a.keep K1 (ninS ne_a_b1 nin0)
  replace V_b := V_b.keep K1 (ninS ne_b_b1 nin0)
  replace E_b1 := E_b1.keep K1
  replace K0 := K0.trans K1 (allS (Or.inr sz_b1) all0)
  show Go _ _ _ _ (T2.setTop (mkF m_ 8 #[.val (.ref a)] [(.ref b1)]))
  exact W2.retA hret rfl rfl (hb hby d26_8) (by decide) (by decide) fun vr_ cr_ => ⟨b1, u, rfl, sz_b1, g_b1, K0, S_u⟩
theorem ct_acI {l : Launch} {Z a0 n0 g1 gf em es} (cx : Ctx Z a0 n0 g1 gf em es) {h : Heap} (O : Old Z n0 h) (a d fn : Addr) (E_a : Exa Z h a "com/example/elegua/elegua/authorization/Access") (F_description_a : Fld Z h a "com/example/elegua/elegua/authorization/Access" "description" "Ljava/lang/String;" .null) (F_test_a : Fld Z h a "com/example/elegua/elegua/authorization/Access" "test" "Ljava/util/function/Predicate;" .null) (g_a : n0 ≤ a) :
    Ct l Z consts_1 n0 [] Y0 prog_2_method_1_code 3 none ({ frames := 1, cells := 0, slots := 0, locals := 12 } : Room) #[(.ref a), (.ref d), (.ref fn)] [a] h (fun v _ h' => v = none ∧ Keep h h' [a] ∧ Exa Z h' a "com/example/elegua/elegua/authorization/Access" ∧ Fld Z h' a "com/example/elegua/elegua/authorization/Access" "description" "Ljava/lang/String;" (.ref d) ∧ Fld Z h' a "com/example/elegua/elegua/authorization/Access" "test" "Ljava/util/function/Predicate;" (.ref fn)) := by
  refine Ct.intro (plainFor_of_name pn12) O cx.ew ?_
  intro p_ e_ s_ m_ bl_ mt_ c_ T0 W0 hby hml hret hnm
  refine Go.st (fun t_ k_ => castTop (g' := mkF m_ 0 #[.val (.ref a), .val (.ref d), .val (.ref fn)] []) (by first | (simp [entryFrame, mkF, argsToLocals, Value.category]; done) | rfl) k_) ?_
  show Go _ _ _ _ (T0.setTop (mkF m_ 0 #[.val (.ref a), .val (.ref d), .val (.ref fn)] []))
  have K0 : Keep h h [a] := Keep.refl _ _
  refine Go.st (fun _ => XS.aloadN W0.here W0.ex rfl (hb hby d37_0) rfl rfl) ?_
  show Go _ _ _ _ (T0.setTop (mkF m_ 1 #[.val (.ref a), .val (.ref d), .val (.ref fn)] [(.ref a)]))
  refine W0.initO (cx.w 220 rfl) (cx.w 16 rfl) (cx.w 17 rfl) (by rw [hml]; rfl) (hb hby d37_1) (by decide) (Wd := 0) (Nat.le_of_eq rfl) (by decide) ?_
  intro T1 W1
  refine Go.st (fun _ => XS.aloadN W1.here W1.ex rfl (hb hby d37_4) rfl rfl) ?_
  refine Go.st (fun _ => XS.aloadN W1.here W1.ex rfl (hb hby d37_5) rfl rfl) ?_
  show Go _ _ _ _ (T1.setTop (mkF m_ 6 #[.val (.ref a), .val (.ref d), .val (.ref fn)] [(.ref d), (.ref a)]))
  refine W1.putF (cx.w 221 rfl) Via.refl F_description_a E_a (Or.inr ⟨(cx.w 222 rfl), rfl, hnm⟩) (cx.w 100 rfl) (ty := (.object "java/lang/String")) (by decide) rfl rfl (List.mem_of_getElem? (i := 0) rfl) g_a (hb hby d37_6) ?_
  intro T2 h2 L2 W2 w2
  replace E_a := E_a.wr w2
  replace F_description_a := F_description_a.same w2
  replace F_test_a := F_test_a.other w2 (Or.inr (slot_ne (Or.inr (cx.w 224 rfl)) (Or.inr (cx.w 222 rfl)) (by decide) (t := (.object "java/util/function/Predicate")) (t' := (.object "java/lang/String")) (by decide) (by decide)))
  replace K0 := K0.wr w2 (Or.inl (List.mem_of_getElem? (i := 0) rfl))
  refine Go.st (fun _ => XS.aloadN W2.here W2.ex rfl (hb hby d37_9) rfl rfl) ?_
  refine Go.st (fun _ => XS.aloadN W2.here W2.ex rfl (hb hby d37_10) rfl rfl) ?_
  show Go _ _ _ _ (T2.setTop (mkF m_ 11 #[.val (.ref a), .val (.ref d), .val (.ref fn)] [(.ref fn), (.ref a)]))
  refine W2.putF (cx.w 223 rfl) Via.refl F_test_a E_a (Or.inr ⟨(cx.w 224 rfl), rfl, hnm⟩) (cx.w 100 rfl) (ty := (.object "java/util/function/Predicate")) (by decide) rfl rfl (List.mem_of_getElem? (i := 0) rfl) g_a (hb hby d37_11) ?_
  intro T3 h3 L3 W3 w3
  replace E_a := E_a.wr w3
  replace F_description_a := F_description_a.other w3 (Or.inr (slot_ne (Or.inr (cx.w 222 rfl)) (Or.inr (cx.w 224 rfl)) (by decide) (t := (.object "java/lang/String")) (t' := (.object "java/util/function/Predicate")) (by decide) (by decide)))
  replace F_test_a := F_test_a.same w3
  replace K0 := K0.wr w3 (Or.inl (List.mem_of_getElem? (i := 0) rfl))
  show Go _ _ _ _ (T3.setTop (mkF m_ 14 #[.val (.ref a), .val (.ref d), .val (.ref fn)] []))
  exact W3.retV hret (hb hby d37_14) (by decide) (by decide) fun vr_ cr_ => ⟨rfl, K0, E_a, F_description_a, F_test_a⟩
theorem ct_role {l : Launch} {Z a0 n0 g1 gf em es} (cx : Ctx Z a0 n0 g1 gf em es) {h : Heap} (O : Old Z n0 h) (x tx : Addr) (cs : List Int32) (hl : cs.length ≤ 3) (S_x : StrAt Z h x tx cs) :
    Ct l Z consts_1 n0 [] Y3 prog_2_method_4_code 1 (some (.object "com/example/elegua/elegua/authorization/Access")) ({ frames := 6, cells := 10, slots := 79, locals := 3076 } : Room) #[(.ref x)] [] h (fun v _ h' => ∃ (c d u fn : Addr) (cK : ClassId), v = some (.ref c) ∧ Keep h h' [] ∧ Exa Z h' c "com/example/elegua/elegua/authorization/Access" ∧ Fld Z h' c "com/example/elegua/elegua/authorization/Access" "description" "Ljava/lang/String;" (.ref d) ∧ Fld Z h' c "com/example/elegua/elegua/authorization/Access" "test" "Ljava/util/function/Predicate;" (.ref fn) ∧ StrAt Z h' d u (([114, 111, 108, 101, 32] : List Int32) ++ cs) ∧ LamKit.Made Z "com/example/elegua/elegua/authorization/Access" sgR cK ∧ FnC h' fn cK (.ref x)) := by
  refine Ct.introN (plainFor_of_name pn12) O cx.ew ?_
  intro p_ e_ s_ m_ bl_ mt_ c_ T0 W0 hby hml hret hnm hN_
  refine Go.st (fun t_ k_ => castTop (g' := mkF m_ 0 #[.val (.ref x)] []) (by first | (simp [entryFrame, mkF, argsToLocals, Value.category]; done) | rfl) k_) ?_
  show Go _ _ _ _ (T0.setTop (mkF m_ 0 #[.val (.ref x)] []))
  have K0 : Keep h h [] := Keep.refl _ _
  refine Go.st (fun _ => XS.aloadN W0.here W0.ex rfl (hb hby d15_0) rfl rfl) ?_
  show Go _ _ _ _ (T0.setTop (mkF m_ 1 #[.val (.ref x)] [(.ref x)]))
  refine W0.ldc (cx.w 97 rfl) cx.str (EL := consts_1) (List.mem_of_getElem? (i := 0) rfl) (vs := (litV 97)) (z := 4) ⟨by decide, rfl⟩ (by decide) rfl (hb hby d15_1) (j := 16) (by decide) (by decide) (k' := 2) (n' := 20) rfl rfl (by decide) (by decide) ?_
  intro vm1 T1 h1 a1 d1 kA_d1 W1 E1 E_a1 F_coder_a1 F_value_a1 V_d1 nl1
  replace S_x := S_x.ext E1
  replace K0 := K0.ext E1
  show Go _ _ _ _ (T1.setTop (mkF m_ 3 #[.val (.ref x)] [(.ref a1), (.ref x)]))
  refine W1.callS (y := Y42) (cx.w 98 rfl) (cx.w 81 rfl) (cx.w 62 rfl) (cx.w 82 rfl) (by decide) (ct_rnn2 cx W1.old x a1) all0 (by decide) (Wd := 0) (by decide) (k' := 2) (n' := 20) rfl rfl (by decide) (by decide) (by rw [hml]; rfl) (argsL := [(.ref x), (.ref a1)]) (rest := []) rfl (lenOf pd5 rfl) rfl (Nat.le_of_eq rfl) (hb hby d15_3) ?_
  intro v2 vm2 T2 h2 L2 W2 q2
  obtain ⟨rfl, eh_⟩ := q2
  subst h2
  refine Go.st (fun _ => XS.pop W2.here W2.ex rfl (hb hby d15_6) rfl rfl) ?_
  show Go _ _ _ _ (T2.setTop (mkF m_ 7 #[.val (.ref x)] []))
  refine W2.newO (cx.w 99 rfl) (cx.w 100 rfl) (cx.w 95 rfl) (hb hby d15_7) (k' := 3) (n' := 22) rfl rfl (by decide) (by decide) ?_
  intro T3 h3 b3 hb3 g_b3 W3 E3 E_b3 D3
  have ne_x_b3 : x ≠ b3 := Nat.ne_of_lt (Nat.lt_of_lt_of_le S_x.lt (Nat.le_of_eq hb3.symm))
  have ne_tx_b3 : tx ≠ b3 := Nat.ne_of_lt (Nat.lt_of_lt_of_le S_x.ltt (Nat.le_of_eq hb3.symm))
  have ne_a1_b3 : a1 ≠ b3 := Nat.ne_of_lt (Nat.lt_of_lt_of_le E_a1.lt (Nat.le_of_eq hb3.symm))
  have ne_d1_b3 : d1 ≠ b3 := Nat.ne_of_lt (Nat.lt_of_lt_of_le V_d1.lt (Nat.le_of_eq hb3.symm))
  have sz_b3 : h.size ≤ b3 := Nat.le_trans K0.1 (Nat.le_of_eq hb3.symm)
  replace S_x := S_x.ext E3
  replace E_a1 := E_a1.ext E3
  replace F_coder_a1 := F_coder_a1.ext E3
  replace F_value_a1 := F_value_a1.ext E3
  replace V_d1 := V_d1.ext E3
  replace K0 := K0.ext E3
  have F_description_b3 : Fld Z h3 b3 "com/example/elegua/elegua/authorization/Access" "description" "Ljava/lang/String;" .null := D3 (Or.inr (cx.w 222 rfl)) (ty := (.object "java/lang/String")) (by decide)
  have F_test_b3 : Fld Z h3 b3 "com/example/elegua/elegua/authorization/Access" "test" "Ljava/util/function/Predicate;" .null := D3 (Or.inr (cx.w 224 rfl)) (ty := (.object "java/util/function/Predicate")) (by decide)
  refine Go.st (fun _ => XS.dup W3.here W3.ex rfl (hb hby d15_10) rfl rfl) ?_
  show Go _ _ _ _ (T3.setTop (mkF m_ 11 #[.val (.ref x)] [(.ref b3), (.ref b3)]))
  refine W3.newO (cx.w 101 rfl) (cx.w 102 rfl) (cx.w 103 rfl) (hb hby d15_11) (k' := 4) (n' := 26) rfl rfl (by decide) (by decide) ?_
  intro T4 h4 b4 hb4 g_b4 W4 E4 E_b4 D4
  have ne_x_b4 : x ≠ b4 := Nat.ne_of_lt (Nat.lt_of_lt_of_le S_x.lt (Nat.le_of_eq hb4.symm))
  have ne_tx_b4 : tx ≠ b4 := Nat.ne_of_lt (Nat.lt_of_lt_of_le S_x.ltt (Nat.le_of_eq hb4.symm))
  have ne_a1_b4 : a1 ≠ b4 := Nat.ne_of_lt (Nat.lt_of_lt_of_le E_a1.lt (Nat.le_of_eq hb4.symm))
  have ne_d1_b4 : d1 ≠ b4 := Nat.ne_of_lt (Nat.lt_of_lt_of_le V_d1.lt (Nat.le_of_eq hb4.symm))
  have ne_b3_b4 : b3 ≠ b4 := Nat.ne_of_lt (Nat.lt_of_lt_of_le E_b3.lt (Nat.le_of_eq hb4.symm))
  have sz_b4 : h.size ≤ b4 := Nat.le_trans K0.1 (Nat.le_of_eq hb4.symm)
  replace S_x := S_x.ext E4
  replace E_a1 := E_a1.ext E4
  replace F_coder_a1 := F_coder_a1.ext E4
  replace F_value_a1 := F_value_a1.ext E4
  replace V_d1 := V_d1.ext E4
  replace E_b3 := E_b3.ext E4
  replace F_description_b3 := F_description_b3.ext E4
  replace F_test_b3 := F_test_b3.ext E4
  replace K0 := K0.ext E4
  have F_value_b4 : Fld Z h4 b4 "java/lang/AbstractStringBuilder" "value" "[B" .null := D4 (Or.inl (cx.w 116 rfl)) (ty := (.array .byte)) (by decide)
  have F_coder_b4 : Fld Z h4 b4 "java/lang/AbstractStringBuilder" "coder" "B" (.int (0 : Int32)) := D4 (Or.inl (cx.w 118 rfl)) (ty := .byte) (by decide)
  have F_count_b4 : Fld Z h4 b4 "java/lang/AbstractStringBuilder" "count" "I" (.int (0 : Int32)) := D4 (Or.inl (cx.w 142 rfl)) (ty := .int) (by decide)
  refine Go.st (fun _ => XS.dup W4.here W4.ex rfl (hb hby d15_14) rfl rfl) ?_
  show Go _ _ _ _ (T4.setTop (mkF m_ 15 #[.val (.ref x)] [(.ref b4), (.ref b4), (.ref b3), (.ref b3)]))
  refine W4.callI (y := (⟨"java/lang/StringBuilder", "<init>", "()V"⟩ : MethodName)) rfl (cx.w 104 rfl) (cx.w 105 rfl) (cx.w 103 rfl) (cx.w 106 rfl) (by decide) (ct_sbI cx W4.old b4 E_b4 F_value_b4 F_coder_b4 F_count_b4 g_b4) (allS (List.mem_of_getElem? (i := 0) rfl) all0) (by decide) (Wd := 3) (by decide) (k' := 5) (n' := 42) rfl rfl (by decide) (by decide) (by rw [hml]; rfl) (a := b4) (argsL := []) (rest := [(.ref b4), (.ref b3), (.ref b3)]) rfl (lenOf pd2 rfl) rfl (Nat.le_of_eq rfl) (hb hby d15_15) ?_
  intro v5 vm5 T5 h5 L5 W5 q5
  obtain ⟨rfl, b, kb, hz_b, g_b, K1, E_n1, F_value_n, F_coder_n, F_count_n, V_b, sf_b⟩ := q5
  have ne_x_b : x ≠ b := Nat.ne_of_lt (Nat.lt_of_lt_of_le S_x.lt hz_b)
  have ne_tx_b : tx ≠ b := Nat.ne_of_lt (Nat.lt_of_lt_of_le S_x.ltt hz_b)
  have ne_a1_b : a1 ≠ b := Nat.ne_of_lt (Nat.lt_of_lt_of_le E_a1.lt hz_b)
  have ne_d1_b : d1 ≠ b := Nat.ne_of_lt (Nat.lt_of_lt_of_le V_d1.lt hz_b)
  have ne_b3_b : b3 ≠ b := Nat.ne_of_lt (Nat.lt_of_lt_of_le E_b3.lt hz_b)
  have ne_b4_b : b4 ≠ b := Nat.ne_of_lt (Nat.lt_of_lt_of_le E_b4.lt hz_b)
  have sz_b : h.size ≤ b := Nat.le_trans K0.1 hz_b
  replace S_x := S_x.keep K1 (ninS ne_x_b4 nin0) (ninS ne_tx_b4 nin0)
  replace E_a1 := E_a1.keep K1
  replace F_coder_a1 := F_coder_a1.keep K1 (ninS ne_a1_b4 nin0)
  replace F_value_a1 := F_value_a1.keep K1 (ninS ne_a1_b4 nin0)
  replace V_d1 := V_d1.keep K1 (ninS ne_d1_b4 nin0)
  replace E_b3 := E_b3.keep K1
  replace F_description_b3 := F_description_b3.keep K1 (ninS ne_b3_b4 nin0)
  replace F_test_b3 := F_test_b3.keep K1 (ninS ne_b3_b4 nin0)
  replace E_b4 := E_b4.keep K1
  replace K0 := K0.trans K1 (allS (Or.inr sz_b4) all0)
  show Go _ _ _ _ (T5.setTop (mkF m_ 18 #[.val (.ref x)] [(.ref b4), (.ref b3), (.ref b3)]))
  have Wb := W5.cons sf_b V_b.lt
  refine Wb.ldc (cx.w 119 rfl) cx.str (EL := consts_1) (List.mem_of_getElem? (i := 1) rfl) (vs := (litV 119)) (z := 5) ⟨by decide, rfl⟩ (by decide) rfl (hb hby d15_18) (j := 20) (by decide) (by decide) (k' := 7) (n' := 66) rfl rfl (by decide) (by decide) ?_
  intro vm6 T6 h6 a6 d6 kA_d6 W6 E6 E_a6 F_coder_a6 F_value_a6 V_d6 nl6
  replace S_x := S_x.ext E6
  replace E_a1 := E_a1.ext E6
  replace F_coder_a1 := F_coder_a1.ext E6
  replace F_value_a1 := F_value_a1.ext E6
  replace V_d1 := V_d1.ext E6
  replace E_b3 := E_b3.ext E6
  replace F_description_b3 := F_description_b3.ext E6
  replace F_test_b3 := F_test_b3.ext E6
  replace E_b4 := E_b4.ext E6
  replace F_value_n := F_value_n.ext E6
  replace F_coder_n := F_coder_n.ext E6
  replace F_count_n := F_count_n.ext E6
  replace V_b := V_b.ext E6
  replace K0 := K0.ext E6
  show Go _ _ _ _ (T6.setTop (mkF m_ 20 #[.val (.ref x)] [(.ref a6), (.ref b4), (.ref b3), (.ref b3)]))
  have S_a6 : StrAt Z h6 a6 d6 (litC 119) := ⟨E_a6, F_coder_a6, F_value_a6, ⟨_, V_d6⟩, (by decide +kernel : ∀ c ∈ litC 119, ¬ c < 0 ∧ ¬ (255 : Int32) < c), (by decide +kernel : (litC 119).length ≤ 4000)⟩
  have S_l : StrAt Z h6 a6 d6 ([114, 111, 108, 101, 32] : List Int32) := by have q := S_a6; rwa [show litC 119 = ([114, 111, 108, 101, 32] : List Int32) by decide +kernel] at q
  refine W6.callV (y := Y29) (z := Y29) (cx.w 120 rfl) (cx.w 121 rfl) (cx.w 123 rfl) (cx.w 122 rfl) (cx.w 103 rfl) (cx.w 124 rfl) (W6.nf (cx.w 123 rfl)) (by decide) E_b4 (ct_app0_5 cx W6.old b4 a6 d6 b kb E_b4 F_value_n F_coder_n F_count_n g_b4 S_l V_b g_b (Ne.symm (nl6 b (List.mem_of_getElem? (i := 0) rfl)).2)) (allS (List.mem_of_getElem? (i := 1) rfl) (allS (List.mem_of_getElem? (i := 0) rfl) all0)) (by decide) (Wd := 2) (by decide) (k' := 7) (n' := 66) rfl rfl (by decide) (by decide) (by rw [hml]; rfl) (a := b4) (argsL := [(.ref a6)]) (rest := [(.ref b3), (.ref b3)]) rfl (lenOf pd24 rfl) rfl (Nat.le_of_eq rfl) (hb hby d15_20) ?_
  intro v7 vm7 T7 h7 L7 W7 q7
  obtain ⟨rfl, K2, E_n2, F_value_m, F_coder_m, F_count_m, V_b2⟩ := q7
  replace S_x := S_x.keep K2 (ninS ne_x_b4 (ninS ne_x_b nin0)) (ninS ne_tx_b4 (ninS ne_tx_b nin0))
  replace E_a1 := E_a1.keep K2
  replace F_coder_a1 := F_coder_a1.keep K2 (ninS ne_a1_b4 (ninS ne_a1_b nin0))
  replace F_value_a1 := F_value_a1.keep K2 (ninS ne_a1_b4 (ninS ne_a1_b nin0))
  replace V_d1 := V_d1.keep K2 (ninS ne_d1_b4 (ninS ne_d1_b nin0))
  replace E_b3 := E_b3.keep K2
  replace F_description_b3 := F_description_b3.keep K2 (ninS ne_b3_b4 (ninS ne_b3_b nin0))
  replace F_test_b3 := F_test_b3.keep K2 (ninS ne_b3_b4 (ninS ne_b3_b nin0))
  replace E_b4 := E_b4.keep K2
  replace S_l := S_l.keep K2 (ninS (Ne.symm (nl6 b4 (List.mem_of_getElem? (i := 1) rfl)).1) (ninS (Ne.symm (nl6 b (List.mem_of_getElem? (i := 0) rfl)).1) nin0)) (ninS (Ne.symm (nl6 b4 (List.mem_of_getElem? (i := 1) rfl)).2) (ninS (Ne.symm (nl6 b (List.mem_of_getElem? (i := 0) rfl)).2) nin0))
  replace K0 := K0.trans K2 (allS (Or.inr sz_b4) (allS (Or.inr sz_b) all0))
  refine Go.st (fun _ => XS.aloadN W7.here W7.ex rfl (hb hby d15_23) rfl rfl) ?_
  show Go _ _ _ _ (T7.setTop (mkF m_ 24 #[.val (.ref x)] [(.ref x), (.ref b4), (.ref b3), (.ref b3)]))
  rcases own_list3 hl with rfl | ⟨c0, rfl⟩ | ⟨c0, c1, rfl⟩ | ⟨c0, c1, c2, rfl⟩
  · refine W7.callV (y := Y29) (z := Y29) (cx.w 120 rfl) (cx.w 121 rfl) (cx.w 123 rfl) (cx.w 122 rfl) (cx.w 103 rfl) (cx.w 124 rfl) (W7.nf (cx.w 123 rfl)) (by decide) E_b4 (ct_app5_0 cx W7.old b4 x tx b kb  E_b4 F_value_m F_coder_m F_count_m g_b4 S_x V_b2 g_b ne_tx_b) (allS (List.mem_of_getElem? (i := 1) rfl) (allS (List.mem_of_getElem? (i := 0) rfl) all0)) (by decide) (Wd := 2) (by decide) (k' := 7) (n' := 66) rfl rfl (by decide) (by decide) (by rw [hml]; rfl) (a := b4) (argsL := [(.ref x)]) (rest := [(.ref b3), (.ref b3)]) rfl (lenOf pd24 rfl) rfl (Nat.le_of_eq rfl) (hb hby d15_24) ?_
    intro v8 vm8 T8 h8 L8 W8 q8
    obtain ⟨rfl, K3, E_n3, F_value_o, F_coder_o, F_count_o, V_b3⟩ := q8
    replace S_x := S_x.keep K3 (ninS ne_x_b4 (ninS ne_x_b nin0)) (ninS ne_tx_b4 (ninS ne_tx_b nin0))
    replace E_a1 := E_a1.keep K3
    replace F_coder_a1 := F_coder_a1.keep K3 (ninS ne_a1_b4 (ninS ne_a1_b nin0))
    replace F_value_a1 := F_value_a1.keep K3 (ninS ne_a1_b4 (ninS ne_a1_b nin0))
    replace V_d1 := V_d1.keep K3 (ninS ne_d1_b4 (ninS ne_d1_b nin0))
    replace E_b3 := E_b3.keep K3
    replace F_description_b3 := F_description_b3.keep K3 (ninS ne_b3_b4 (ninS ne_b3_b nin0))
    replace F_test_b3 := F_test_b3.keep K3 (ninS ne_b3_b4 (ninS ne_b3_b nin0))
    replace E_b4 := E_b4.keep K3
    replace K0 := K0.trans K3 (allS (Or.inr sz_b4) (allS (Or.inr sz_b) all0))
    show Go _ _ _ _ (T8.setTop (mkF m_ 27 #[.val (.ref x)] [(.ref b4), (.ref b3), (.ref b3)]))
    refine W8.callV (y := Y31) (z := Y31) (cx.w 168 rfl) (cx.w 169 rfl) (cx.w 171 rfl) (cx.w 170 rfl) (cx.w 103 rfl) (cx.w 172 rfl) (W8.nf (cx.w 171 rfl)) (by decide) E_b4 (ct_ts5 cx W8.old b4 b kb  E_b4 F_value_o F_coder_o F_count_o V_b3 ) all0 (by decide) (Wd := 2) (by decide) (k' := 9) (n' := 75) rfl rfl (by decide) (by decide) (by rw [hml]; rfl) (a := b4) (argsL := []) (rest := [(.ref b3), (.ref b3)]) rfl (lenOf pd25 rfl) rfl (Nat.le_of_eq rfl) (hb hby d15_27) ?_
    intro v9 vm9 T9 h9 L9 W9 q9
    obtain ⟨d, u, rfl, hz_d, g_d, K4, S_d⟩ := q9
    have ne_x_d : x ≠ d := Nat.ne_of_lt (Nat.lt_of_lt_of_le S_x.lt hz_d)
    have ne_tx_d : tx ≠ d := Nat.ne_of_lt (Nat.lt_of_lt_of_le S_x.ltt hz_d)
    have ne_a1_d : a1 ≠ d := Nat.ne_of_lt (Nat.lt_of_lt_of_le E_a1.lt hz_d)
    have ne_d1_d : d1 ≠ d := Nat.ne_of_lt (Nat.lt_of_lt_of_le V_d1.lt hz_d)
    have ne_b3_d : b3 ≠ d := Nat.ne_of_lt (Nat.lt_of_lt_of_le E_b3.lt hz_d)
    have ne_b4_d : b4 ≠ d := Nat.ne_of_lt (Nat.lt_of_lt_of_le E_b4.lt hz_d)
    have ne_b_d : b ≠ d := Nat.ne_of_lt (Nat.lt_of_lt_of_le V_b3.lt hz_d)
    have sz_d : h.size ≤ d := Nat.le_trans K0.1 hz_d
    replace S_x := S_x.keep K4 nin0 nin0
    replace E_a1 := E_a1.keep K4
    replace F_coder_a1 := F_coder_a1.keep K4 nin0
    replace F_value_a1 := F_value_a1.keep K4 nin0
    replace V_d1 := V_d1.keep K4 nin0
    replace E_b3 := E_b3.keep K4
    replace F_description_b3 := F_description_b3.keep K4 nin0
    replace F_test_b3 := F_test_b3.keep K4 nin0
    replace E_b4 := E_b4.keep K4
    replace F_value_o := F_value_o.keep K4 nin0
    replace F_coder_o := F_coder_o.keep K4 nin0
    replace F_count_o := F_count_o.keep K4 nin0
    replace V_b3 := V_b3.keep K4 nin0
    replace K0 := K0.trans K4 all0
    refine Go.st (fun _ => XS.aloadN W9.here W9.ex rfl (hb hby d15_30) rfl rfl) ?_
    show Go _ _ _ _ (T9.setTop (mkF m_ 31 #[.val (.ref x)] [(.ref x), (.ref d), (.ref b3), (.ref b3)]))
    refine W9.site (x := Y3) (fi := 15) (σ := sgR) hN_ (cx.w 213 rfl) rfl (by decide +kernel) (cx.w 216 rfl) (by rw [hml]; rfl) (hb hby d15_31) (a := x) (Wd := 3) (Nat.le_of_eq rfl) (by decide) (k' := 10) (n' := 76) rfl rfl (by decide) (by decide) ?_
    intro T10 h10 b10 cK hb10 g_b10 W10 E10 MD N_b10
    have ne_x_b10 : x ≠ b10 := Nat.ne_of_lt (Nat.lt_of_lt_of_le S_x.lt (Nat.le_of_eq hb10.symm))
    have ne_tx_b10 : tx ≠ b10 := Nat.ne_of_lt (Nat.lt_of_lt_of_le S_x.ltt (Nat.le_of_eq hb10.symm))
    have ne_a1_b10 : a1 ≠ b10 := Nat.ne_of_lt (Nat.lt_of_lt_of_le E_a1.lt (Nat.le_of_eq hb10.symm))
    have ne_d1_b10 : d1 ≠ b10 := Nat.ne_of_lt (Nat.lt_of_lt_of_le V_d1.lt (Nat.le_of_eq hb10.symm))
    have ne_b3_b10 : b3 ≠ b10 := Nat.ne_of_lt (Nat.lt_of_lt_of_le E_b3.lt (Nat.le_of_eq hb10.symm))
    have ne_b4_b10 : b4 ≠ b10 := Nat.ne_of_lt (Nat.lt_of_lt_of_le E_b4.lt (Nat.le_of_eq hb10.symm))
    have ne_d_b10 : d ≠ b10 := Nat.ne_of_lt (Nat.lt_of_lt_of_le S_d.lt (Nat.le_of_eq hb10.symm))
    have ne_u_b10 : u ≠ b10 := Nat.ne_of_lt (Nat.lt_of_lt_of_le S_d.ltt (Nat.le_of_eq hb10.symm))
    have sz_b10 : h.size ≤ b10 := Nat.le_trans K0.1 (Nat.le_of_eq hb10.symm)
    replace S_x := S_x.ext E10
    replace E_a1 := E_a1.ext E10
    replace F_coder_a1 := F_coder_a1.ext E10
    replace F_value_a1 := F_value_a1.ext E10
    replace V_d1 := V_d1.ext E10
    replace E_b3 := E_b3.ext E10
    replace F_description_b3 := F_description_b3.ext E10
    replace F_test_b3 := F_test_b3.ext E10
    replace E_b4 := E_b4.ext E10
    replace S_d := S_d.ext E10
    replace K0 := K0.ext E10
    show Go _ _ _ _ (T10.setTop (mkF m_ 36 #[.val (.ref x)] [(.ref b10), (.ref d), (.ref b3), (.ref b3)]))
    refine W10.callI (y := Y0) rfl (cx.w 217 rfl) (cx.w 218 rfl) (cx.w 95 rfl) (cx.w 219 rfl) (by decide) (ct_acI cx W10.old b3 d b10 E_b3 F_description_b3 F_test_b3 g_b3) (allS (List.mem_of_getElem? (i := 3) rfl) all0) (by decide) (Wd := 1) (by decide) (k' := 10) (n' := 76) rfl rfl (by decide) (by decide) (by rw [hml]; rfl) (a := b3) (argsL := [(.ref d), (.ref b10)]) (rest := [(.ref b3)]) rfl (lenOf pd26 rfl) rfl (Nat.le_of_eq rfl) (hb hby d15_36) ?_
    intro v11 vm11 T11 h11 L11 W11 q11
    obtain ⟨rfl, K5, E_n5, G1, G2⟩ := q11
    have ne_u_b3 : u ≠ b3 := (Ne.symm (Ne.symm (S_d.neT E_b3 (cx.w 100 rfl))))
    replace S_x := S_x.keep K5 (ninS ne_x_b3 nin0) (ninS ne_tx_b3 nin0)
    replace E_a1 := E_a1.keep K5
    replace F_coder_a1 := F_coder_a1.keep K5 (ninS ne_a1_b3 nin0)
    replace F_value_a1 := F_value_a1.keep K5 (ninS ne_a1_b3 nin0)
    replace V_d1 := V_d1.keep K5 (ninS ne_d1_b3 nin0)
    replace E_b3 := E_b3.keep K5
    replace E_b4 := E_b4.keep K5
    replace S_d := S_d.keep K5 (ninS (Ne.symm ne_b3_d) nin0) (ninS ne_u_b3 nin0)
    replace N_b10 := N_b10.keep K5 (ninS (Ne.symm ne_b3_b10) nin0)
    replace K0 := K0.trans K5 (allS (Or.inr sz_b3) all0)
    show Go _ _ _ _ (T11.setTop (mkF m_ 39 #[.val (.ref x)] [(.ref b3)]))
    exact W11.retA hret rfl rfl (hb hby d15_39) (by decide) (by decide) fun vr_ cr_ => ⟨b3, d, u, b10, cK, rfl, K0, E_n5, G1, G2, S_d, MD, N_b10⟩
  · have r0 := S_x.ch c0 (by simp)
    refine W7.callV (y := Y29) (z := Y29) (cx.w 120 rfl) (cx.w 121 rfl) (cx.w 123 rfl) (cx.w 122 rfl) (cx.w 103 rfl) (cx.w 124 rfl) (W7.nf (cx.w 123 rfl)) (by decide) E_b4 (ct_app5_1 cx W7.old b4 x tx b kb c0 E_b4 F_value_m F_coder_m F_count_m g_b4 S_x V_b2 g_b ne_tx_b) (allS (List.mem_of_getElem? (i := 1) rfl) (allS (List.mem_of_getElem? (i := 0) rfl) all0)) (by decide) (Wd := 2) (by decide) (k' := 7) (n' := 66) rfl rfl (by decide) (by decide) (by rw [hml]; rfl) (a := b4) (argsL := [(.ref x)]) (rest := [(.ref b3), (.ref b3)]) rfl (lenOf pd24 rfl) rfl (Nat.le_of_eq rfl) (hb hby d15_24) ?_
    intro v12 vm12 T12 h12 L12 W12 q12
    obtain ⟨rfl, K3, E_n3, F_value_o, F_coder_o, F_count_o, V_b3⟩ := q12
    replace S_x := S_x.keep K3 (ninS ne_x_b4 (ninS ne_x_b nin0)) (ninS ne_tx_b4 (ninS ne_tx_b nin0))
    replace E_a1 := E_a1.keep K3
    replace F_coder_a1 := F_coder_a1.keep K3 (ninS ne_a1_b4 (ninS ne_a1_b nin0))
    replace F_value_a1 := F_value_a1.keep K3 (ninS ne_a1_b4 (ninS ne_a1_b nin0))
    replace V_d1 := V_d1.keep K3 (ninS ne_d1_b4 (ninS ne_d1_b nin0))
    replace E_b3 := E_b3.keep K3
    replace F_description_b3 := F_description_b3.keep K3 (ninS ne_b3_b4 (ninS ne_b3_b nin0))
    replace F_test_b3 := F_test_b3.keep K3 (ninS ne_b3_b4 (ninS ne_b3_b nin0))
    replace E_b4 := E_b4.keep K3
    replace K0 := K0.trans K3 (allS (Or.inr sz_b4) (allS (Or.inr sz_b) all0))
    show Go _ _ _ _ (T12.setTop (mkF m_ 27 #[.val (.ref x)] [(.ref b4), (.ref b3), (.ref b3)]))
    refine W12.callV (y := Y31) (z := Y31) (cx.w 168 rfl) (cx.w 169 rfl) (cx.w 171 rfl) (cx.w 170 rfl) (cx.w 103 rfl) (cx.w 172 rfl) (W12.nf (cx.w 171 rfl)) (by decide) E_b4 (ct_ts6 cx W12.old b4 b kb c0 E_b4 F_value_o F_coder_o F_count_o V_b3 r0) all0 (by decide) (Wd := 2) (by decide) (k' := 9) (n' := 76) rfl rfl (by decide) (by decide) (by rw [hml]; rfl) (a := b4) (argsL := []) (rest := [(.ref b3), (.ref b3)]) rfl (lenOf pd25 rfl) rfl (Nat.le_of_eq rfl) (hb hby d15_27) ?_
    intro v13 vm13 T13 h13 L13 W13 q13
    obtain ⟨d, u, rfl, hz_d, g_d, K4, S_d⟩ := q13
    have ne_x_d : x ≠ d := Nat.ne_of_lt (Nat.lt_of_lt_of_le S_x.lt hz_d)
    have ne_tx_d : tx ≠ d := Nat.ne_of_lt (Nat.lt_of_lt_of_le S_x.ltt hz_d)
    have ne_a1_d : a1 ≠ d := Nat.ne_of_lt (Nat.lt_of_lt_of_le E_a1.lt hz_d)
    have ne_d1_d : d1 ≠ d := Nat.ne_of_lt (Nat.lt_of_lt_of_le V_d1.lt hz_d)
    have ne_b3_d : b3 ≠ d := Nat.ne_of_lt (Nat.lt_of_lt_of_le E_b3.lt hz_d)
    have ne_b4_d : b4 ≠ d := Nat.ne_of_lt (Nat.lt_of_lt_of_le E_b4.lt hz_d)
    have ne_b_d : b ≠ d := Nat.ne_of_lt (Nat.lt_of_lt_of_le V_b3.lt hz_d)
    have sz_d : h.size ≤ d := Nat.le_trans K0.1 hz_d
    replace S_x := S_x.keep K4 nin0 nin0
    replace E_a1 := E_a1.keep K4
    replace F_coder_a1 := F_coder_a1.keep K4 nin0
    replace F_value_a1 := F_value_a1.keep K4 nin0
    replace V_d1 := V_d1.keep K4 nin0
    replace E_b3 := E_b3.keep K4
    replace F_description_b3 := F_description_b3.keep K4 nin0
    replace F_test_b3 := F_test_b3.keep K4 nin0
    replace E_b4 := E_b4.keep K4
    replace F_value_o := F_value_o.keep K4 nin0
    replace F_coder_o := F_coder_o.keep K4 nin0
    replace F_count_o := F_count_o.keep K4 nin0
    replace V_b3 := V_b3.keep K4 nin0
    replace K0 := K0.trans K4 all0
    refine Go.st (fun _ => XS.aloadN W13.here W13.ex rfl (hb hby d15_30) rfl rfl) ?_
    show Go _ _ _ _ (T13.setTop (mkF m_ 31 #[.val (.ref x)] [(.ref x), (.ref d), (.ref b3), (.ref b3)]))
    refine W13.site (x := Y3) (fi := 15) (σ := sgR) hN_ (cx.w 213 rfl) rfl (by decide +kernel) (cx.w 216 rfl) (by rw [hml]; rfl) (hb hby d15_31) (a := x) (Wd := 3) (Nat.le_of_eq rfl) (by decide) (k' := 10) (n' := 77) rfl rfl (by decide) (by decide) ?_
    intro T14 h14 b14 cK hb14 g_b14 W14 E14 MD N_b14
    have ne_x_b14 : x ≠ b14 := Nat.ne_of_lt (Nat.lt_of_lt_of_le S_x.lt (Nat.le_of_eq hb14.symm))
    have ne_tx_b14 : tx ≠ b14 := Nat.ne_of_lt (Nat.lt_of_lt_of_le S_x.ltt (Nat.le_of_eq hb14.symm))
    have ne_a1_b14 : a1 ≠ b14 := Nat.ne_of_lt (Nat.lt_of_lt_of_le E_a1.lt (Nat.le_of_eq hb14.symm))
    have ne_d1_b14 : d1 ≠ b14 := Nat.ne_of_lt (Nat.lt_of_lt_of_le V_d1.lt (Nat.le_of_eq hb14.symm))
    have ne_b3_b14 : b3 ≠ b14 := Nat.ne_of_lt (Nat.lt_of_lt_of_le E_b3.lt (Nat.le_of_eq hb14.symm))
    have ne_b4_b14 : b4 ≠ b14 := Nat.ne_of_lt (Nat.lt_of_lt_of_le E_b4.lt (Nat.le_of_eq hb14.symm))
    have ne_d_b14 : d ≠ b14 := Nat.ne_of_lt (Nat.lt_of_lt_of_le S_d.lt (Nat.le_of_eq hb14.symm))
    have ne_u_b14 : u ≠ b14 := Nat.ne_of_lt (Nat.lt_of_lt_of_le S_d.ltt (Nat.le_of_eq hb14.symm))
    have sz_b14 : h.size ≤ b14 := Nat.le_trans K0.1 (Nat.le_of_eq hb14.symm)
    replace S_x := S_x.ext E14
    replace E_a1 := E_a1.ext E14
    replace F_coder_a1 := F_coder_a1.ext E14
    replace F_value_a1 := F_value_a1.ext E14
    replace V_d1 := V_d1.ext E14
    replace E_b3 := E_b3.ext E14
    replace F_description_b3 := F_description_b3.ext E14
    replace F_test_b3 := F_test_b3.ext E14
    replace E_b4 := E_b4.ext E14
    replace S_d := S_d.ext E14
    replace K0 := K0.ext E14
    show Go _ _ _ _ (T14.setTop (mkF m_ 36 #[.val (.ref x)] [(.ref b14), (.ref d), (.ref b3), (.ref b3)]))
    refine W14.callI (y := Y0) rfl (cx.w 217 rfl) (cx.w 218 rfl) (cx.w 95 rfl) (cx.w 219 rfl) (by decide) (ct_acI cx W14.old b3 d b14 E_b3 F_description_b3 F_test_b3 g_b3) (allS (List.mem_of_getElem? (i := 3) rfl) all0) (by decide) (Wd := 1) (by decide) (k' := 10) (n' := 77) rfl rfl (by decide) (by decide) (by rw [hml]; rfl) (a := b3) (argsL := [(.ref d), (.ref b14)]) (rest := [(.ref b3)]) rfl (lenOf pd26 rfl) rfl (Nat.le_of_eq rfl) (hb hby d15_36) ?_
    intro v15 vm15 T15 h15 L15 W15 q15
    obtain ⟨rfl, K5, E_n5, G1, G2⟩ := q15
    have ne_u_b3 : u ≠ b3 := (Ne.symm (Ne.symm (S_d.neT E_b3 (cx.w 100 rfl))))
    replace S_x := S_x.keep K5 (ninS ne_x_b3 nin0) (ninS ne_tx_b3 nin0)
    replace E_a1 := E_a1.keep K5
    replace F_coder_a1 := F_coder_a1.keep K5 (ninS ne_a1_b3 nin0)
    replace F_value_a1 := F_value_a1.keep K5 (ninS ne_a1_b3 nin0)
    replace V_d1 := V_d1.keep K5 (ninS ne_d1_b3 nin0)
    replace E_b3 := E_b3.keep K5
    replace E_b4 := E_b4.keep K5
    replace S_d := S_d.keep K5 (ninS (Ne.symm ne_b3_d) nin0) (ninS ne_u_b3 nin0)
    replace N_b14 := N_b14.keep K5 (ninS (Ne.symm ne_b3_b14) nin0)
    replace K0 := K0.trans K5 (allS (Or.inr sz_b3) all0)
    show Go _ _ _ _ (T15.setTop (mkF m_ 39 #[.val (.ref x)] [(.ref b3)]))
    exact W15.retA hret rfl rfl (hb hby d15_39) (by decide) (by decide) fun vr_ cr_ => ⟨b3, d, u, b14, cK, rfl, K0, E_n5, G1, G2, S_d, MD, N_b14⟩
  · have r0 := S_x.ch c0 (by simp)
    have r1 := S_x.ch c1 (by simp)
    refine W7.callV (y := Y29) (z := Y29) (cx.w 120 rfl) (cx.w 121 rfl) (cx.w 123 rfl) (cx.w 122 rfl) (cx.w 103 rfl) (cx.w 124 rfl) (W7.nf (cx.w 123 rfl)) (by decide) E_b4 (ct_app5_2 cx W7.old b4 x tx b kb c0 c1 E_b4 F_value_m F_coder_m F_count_m g_b4 S_x V_b2 g_b ne_tx_b) (allS (List.mem_of_getElem? (i := 1) rfl) (allS (List.mem_of_getElem? (i := 0) rfl) all0)) (by decide) (Wd := 2) (by decide) (k' := 7) (n' := 66) rfl rfl (by decide) (by decide) (by rw [hml]; rfl) (a := b4) (argsL := [(.ref x)]) (rest := [(.ref b3), (.ref b3)]) rfl (lenOf pd24 rfl) rfl (Nat.le_of_eq rfl) (hb hby d15_24) ?_
    intro v16 vm16 T16 h16 L16 W16 q16
    obtain ⟨rfl, K3, E_n3, F_value_o, F_coder_o, F_count_o, V_b3⟩ := q16
    replace S_x := S_x.keep K3 (ninS ne_x_b4 (ninS ne_x_b nin0)) (ninS ne_tx_b4 (ninS ne_tx_b nin0))
    replace E_a1 := E_a1.keep K3
    replace F_coder_a1 := F_coder_a1.keep K3 (ninS ne_a1_b4 (ninS ne_a1_b nin0))
    replace F_value_a1 := F_value_a1.keep K3 (ninS ne_a1_b4 (ninS ne_a1_b nin0))
    replace V_d1 := V_d1.keep K3 (ninS ne_d1_b4 (ninS ne_d1_b nin0))
    replace E_b3 := E_b3.keep K3
    replace F_description_b3 := F_description_b3.keep K3 (ninS ne_b3_b4 (ninS ne_b3_b nin0))
    replace F_test_b3 := F_test_b3.keep K3 (ninS ne_b3_b4 (ninS ne_b3_b nin0))
    replace E_b4 := E_b4.keep K3
    replace K0 := K0.trans K3 (allS (Or.inr sz_b4) (allS (Or.inr sz_b) all0))
    show Go _ _ _ _ (T16.setTop (mkF m_ 27 #[.val (.ref x)] [(.ref b4), (.ref b3), (.ref b3)]))
    refine W16.callV (y := Y31) (z := Y31) (cx.w 168 rfl) (cx.w 169 rfl) (cx.w 171 rfl) (cx.w 170 rfl) (cx.w 103 rfl) (cx.w 172 rfl) (W16.nf (cx.w 171 rfl)) (by decide) E_b4 (ct_ts7 cx W16.old b4 b kb c0 c1 E_b4 F_value_o F_coder_o F_count_o V_b3 r0 r1) all0 (by decide) (Wd := 2) (by decide) (k' := 9) (n' := 77) rfl rfl (by decide) (by decide) (by rw [hml]; rfl) (a := b4) (argsL := []) (rest := [(.ref b3), (.ref b3)]) rfl (lenOf pd25 rfl) rfl (Nat.le_of_eq rfl) (hb hby d15_27) ?_
    intro v17 vm17 T17 h17 L17 W17 q17
    obtain ⟨d, u, rfl, hz_d, g_d, K4, S_d⟩ := q17
    have ne_x_d : x ≠ d := Nat.ne_of_lt (Nat.lt_of_lt_of_le S_x.lt hz_d)
    have ne_tx_d : tx ≠ d := Nat.ne_of_lt (Nat.lt_of_lt_of_le S_x.ltt hz_d)
    have ne_a1_d : a1 ≠ d := Nat.ne_of_lt (Nat.lt_of_lt_of_le E_a1.lt hz_d)
    have ne_d1_d : d1 ≠ d := Nat.ne_of_lt (Nat.lt_of_lt_of_le V_d1.lt hz_d)
    have ne_b3_d : b3 ≠ d := Nat.ne_of_lt (Nat.lt_of_lt_of_le E_b3.lt hz_d)
    have ne_b4_d : b4 ≠ d := Nat.ne_of_lt (Nat.lt_of_lt_of_le E_b4.lt hz_d)
    have ne_b_d : b ≠ d := Nat.ne_of_lt (Nat.lt_of_lt_of_le V_b3.lt hz_d)
    have sz_d : h.size ≤ d := Nat.le_trans K0.1 hz_d
    replace S_x := S_x.keep K4 nin0 nin0
    replace E_a1 := E_a1.keep K4
    replace F_coder_a1 := F_coder_a1.keep K4 nin0
    replace F_value_a1 := F_value_a1.keep K4 nin0
    replace V_d1 := V_d1.keep K4 nin0
    replace E_b3 := E_b3.keep K4
    replace F_description_b3 := F_description_b3.keep K4 nin0
    replace F_test_b3 := F_test_b3.keep K4 nin0
    replace E_b4 := E_b4.keep K4
    replace F_value_o := F_value_o.keep K4 nin0
    replace F_coder_o := F_coder_o.keep K4 nin0
    replace F_count_o := F_count_o.keep K4 nin0
    replace V_b3 := V_b3.keep K4 nin0
    replace K0 := K0.trans K4 all0
    refine Go.st (fun _ => XS.aloadN W17.here W17.ex rfl (hb hby d15_30) rfl rfl) ?_
    show Go _ _ _ _ (T17.setTop (mkF m_ 31 #[.val (.ref x)] [(.ref x), (.ref d), (.ref b3), (.ref b3)]))
    refine W17.site (x := Y3) (fi := 15) (σ := sgR) hN_ (cx.w 213 rfl) rfl (by decide +kernel) (cx.w 216 rfl) (by rw [hml]; rfl) (hb hby d15_31) (a := x) (Wd := 3) (Nat.le_of_eq rfl) (by decide) (k' := 10) (n' := 78) rfl rfl (by decide) (by decide) ?_
    intro T18 h18 b18 cK hb18 g_b18 W18 E18 MD N_b18
    have ne_x_b18 : x ≠ b18 := Nat.ne_of_lt (Nat.lt_of_lt_of_le S_x.lt (Nat.le_of_eq hb18.symm))
    have ne_tx_b18 : tx ≠ b18 := Nat.ne_of_lt (Nat.lt_of_lt_of_le S_x.ltt (Nat.le_of_eq hb18.symm))
    have ne_a1_b18 : a1 ≠ b18 := Nat.ne_of_lt (Nat.lt_of_lt_of_le E_a1.lt (Nat.le_of_eq hb18.symm))
    have ne_d1_b18 : d1 ≠ b18 := Nat.ne_of_lt (Nat.lt_of_lt_of_le V_d1.lt (Nat.le_of_eq hb18.symm))
    have ne_b3_b18 : b3 ≠ b18 := Nat.ne_of_lt (Nat.lt_of_lt_of_le E_b3.lt (Nat.le_of_eq hb18.symm))
    have ne_b4_b18 : b4 ≠ b18 := Nat.ne_of_lt (Nat.lt_of_lt_of_le E_b4.lt (Nat.le_of_eq hb18.symm))
    have ne_d_b18 : d ≠ b18 := Nat.ne_of_lt (Nat.lt_of_lt_of_le S_d.lt (Nat.le_of_eq hb18.symm))
    have ne_u_b18 : u ≠ b18 := Nat.ne_of_lt (Nat.lt_of_lt_of_le S_d.ltt (Nat.le_of_eq hb18.symm))
    have sz_b18 : h.size ≤ b18 := Nat.le_trans K0.1 (Nat.le_of_eq hb18.symm)
    replace S_x := S_x.ext E18
    replace E_a1 := E_a1.ext E18
    replace F_coder_a1 := F_coder_a1.ext E18
    replace F_value_a1 := F_value_a1.ext E18
    replace V_d1 := V_d1.ext E18
    replace E_b3 := E_b3.ext E18
    replace F_description_b3 := F_description_b3.ext E18
    replace F_test_b3 := F_test_b3.ext E18
    replace E_b4 := E_b4.ext E18
    replace S_d := S_d.ext E18
    replace K0 := K0.ext E18
    show Go _ _ _ _ (T18.setTop (mkF m_ 36 #[.val (.ref x)] [(.ref b18), (.ref d), (.ref b3), (.ref b3)]))
    refine W18.callI (y := Y0) rfl (cx.w 217 rfl) (cx.w 218 rfl) (cx.w 95 rfl) (cx.w 219 rfl) (by decide) (ct_acI cx W18.old b3 d b18 E_b3 F_description_b3 F_test_b3 g_b3) (allS (List.mem_of_getElem? (i := 3) rfl) all0) (by decide) (Wd := 1) (by decide) (k' := 10) (n' := 78) rfl rfl (by decide) (by decide) (by rw [hml]; rfl) (a := b3) (argsL := [(.ref d), (.ref b18)]) (rest := [(.ref b3)]) rfl (lenOf pd26 rfl) rfl (Nat.le_of_eq rfl) (hb hby d15_36) ?_
    intro v19 vm19 T19 h19 L19 W19 q19
    obtain ⟨rfl, K5, E_n5, G1, G2⟩ := q19
    have ne_u_b3 : u ≠ b3 := (Ne.symm (Ne.symm (S_d.neT E_b3 (cx.w 100 rfl))))
    replace S_x := S_x.keep K5 (ninS ne_x_b3 nin0) (ninS ne_tx_b3 nin0)
    replace E_a1 := E_a1.keep K5
    replace F_coder_a1 := F_coder_a1.keep K5 (ninS ne_a1_b3 nin0)
    replace F_value_a1 := F_value_a1.keep K5 (ninS ne_a1_b3 nin0)
    replace V_d1 := V_d1.keep K5 (ninS ne_d1_b3 nin0)
    replace E_b3 := E_b3.keep K5
    replace E_b4 := E_b4.keep K5
    replace S_d := S_d.keep K5 (ninS (Ne.symm ne_b3_d) nin0) (ninS ne_u_b3 nin0)
    replace N_b18 := N_b18.keep K5 (ninS (Ne.symm ne_b3_b18) nin0)
    replace K0 := K0.trans K5 (allS (Or.inr sz_b3) all0)
    show Go _ _ _ _ (T19.setTop (mkF m_ 39 #[.val (.ref x)] [(.ref b3)]))
    exact W19.retA hret rfl rfl (hb hby d15_39) (by decide) (by decide) fun vr_ cr_ => ⟨b3, d, u, b18, cK, rfl, K0, E_n5, G1, G2, S_d, MD, N_b18⟩
  · have r0 := S_x.ch c0 (by simp)
    have r1 := S_x.ch c1 (by simp)
    have r2 := S_x.ch c2 (by simp)
    refine W7.callV (y := Y29) (z := Y29) (cx.w 120 rfl) (cx.w 121 rfl) (cx.w 123 rfl) (cx.w 122 rfl) (cx.w 103 rfl) (cx.w 124 rfl) (W7.nf (cx.w 123 rfl)) (by decide) E_b4 (ct_app5_3 cx W7.old b4 x tx b kb c0 c1 c2 E_b4 F_value_m F_coder_m F_count_m g_b4 S_x V_b2 g_b ne_tx_b) (allS (List.mem_of_getElem? (i := 1) rfl) (allS (List.mem_of_getElem? (i := 0) rfl) all0)) (by decide) (Wd := 2) (by decide) (k' := 7) (n' := 66) rfl rfl (by decide) (by decide) (by rw [hml]; rfl) (a := b4) (argsL := [(.ref x)]) (rest := [(.ref b3), (.ref b3)]) rfl (lenOf pd24 rfl) rfl (Nat.le_of_eq rfl) (hb hby d15_24) ?_
    intro v20 vm20 T20 h20 L20 W20 q20
    obtain ⟨rfl, K3, E_n3, F_value_o, F_coder_o, F_count_o, V_b3⟩ := q20
    replace S_x := S_x.keep K3 (ninS ne_x_b4 (ninS ne_x_b nin0)) (ninS ne_tx_b4 (ninS ne_tx_b nin0))
    replace E_a1 := E_a1.keep K3
    replace F_coder_a1 := F_coder_a1.keep K3 (ninS ne_a1_b4 (ninS ne_a1_b nin0))
    replace F_value_a1 := F_value_a1.keep K3 (ninS ne_a1_b4 (ninS ne_a1_b nin0))
    replace V_d1 := V_d1.keep K3 (ninS ne_d1_b4 (ninS ne_d1_b nin0))
    replace E_b3 := E_b3.keep K3
    replace F_description_b3 := F_description_b3.keep K3 (ninS ne_b3_b4 (ninS ne_b3_b nin0))
    replace F_test_b3 := F_test_b3.keep K3 (ninS ne_b3_b4 (ninS ne_b3_b nin0))
    replace E_b4 := E_b4.keep K3
    replace K0 := K0.trans K3 (allS (Or.inr sz_b4) (allS (Or.inr sz_b) all0))
    show Go _ _ _ _ (T20.setTop (mkF m_ 27 #[.val (.ref x)] [(.ref b4), (.ref b3), (.ref b3)]))
    refine W20.callV (y := Y31) (z := Y31) (cx.w 168 rfl) (cx.w 169 rfl) (cx.w 171 rfl) (cx.w 170 rfl) (cx.w 103 rfl) (cx.w 172 rfl) (W20.nf (cx.w 171 rfl)) (by decide) E_b4 (ct_ts8 cx W20.old b4 b kb c0 c1 c2 E_b4 F_value_o F_coder_o F_count_o V_b3 r0 r1 r2) all0 (by decide) (Wd := 2) (by decide) (k' := 9) (n' := 78) rfl rfl (by decide) (by decide) (by rw [hml]; rfl) (a := b4) (argsL := []) (rest := [(.ref b3), (.ref b3)]) rfl (lenOf pd25 rfl) rfl (Nat.le_of_eq rfl) (hb hby d15_27) ?_
    intro v21 vm21 T21 h21 L21 W21 q21
    obtain ⟨d, u, rfl, hz_d, g_d, K4, S_d⟩ := q21
    have ne_x_d : x ≠ d := Nat.ne_of_lt (Nat.lt_of_lt_of_le S_x.lt hz_d)
    have ne_tx_d : tx ≠ d := Nat.ne_of_lt (Nat.lt_of_lt_of_le S_x.ltt hz_d)
    have ne_a1_d : a1 ≠ d := Nat.ne_of_lt (Nat.lt_of_lt_of_le E_a1.lt hz_d)
    have ne_d1_d : d1 ≠ d := Nat.ne_of_lt (Nat.lt_of_lt_of_le V_d1.lt hz_d)
    have ne_b3_d : b3 ≠ d := Nat.ne_of_lt (Nat.lt_of_lt_of_le E_b3.lt hz_d)
    have ne_b4_d : b4 ≠ d := Nat.ne_of_lt (Nat.lt_of_lt_of_le E_b4.lt hz_d)
    have ne_b_d : b ≠ d := Nat.ne_of_lt (Nat.lt_of_lt_of_le V_b3.lt hz_d)
    have sz_d : h.size ≤ d := Nat.le_trans K0.1 hz_d
    replace S_x := S_x.keep K4 nin0 nin0
    replace E_a1 := E_a1.keep K4
    replace F_coder_a1 := F_coder_a1.keep K4 nin0
    replace F_value_a1 := F_value_a1.keep K4 nin0
    replace V_d1 := V_d1.keep K4 nin0
    replace E_b3 := E_b3.keep K4
    replace F_description_b3 := F_description_b3.keep K4 nin0
    replace F_test_b3 := F_test_b3.keep K4 nin0
    replace E_b4 := E_b4.keep K4
    replace F_value_o := F_value_o.keep K4 nin0
    replace F_coder_o := F_coder_o.keep K4 nin0
    replace F_count_o := F_count_o.keep K4 nin0
    replace V_b3 := V_b3.keep K4 nin0
    replace K0 := K0.trans K4 all0
    refine Go.st (fun _ => XS.aloadN W21.here W21.ex rfl (hb hby d15_30) rfl rfl) ?_
    show Go _ _ _ _ (T21.setTop (mkF m_ 31 #[.val (.ref x)] [(.ref x), (.ref d), (.ref b3), (.ref b3)]))
    refine W21.site (x := Y3) (fi := 15) (σ := sgR) hN_ (cx.w 213 rfl) rfl (by decide +kernel) (cx.w 216 rfl) (by rw [hml]; rfl) (hb hby d15_31) (a := x) (Wd := 3) (Nat.le_of_eq rfl) (by decide) (k' := 10) (n' := 79) rfl rfl (by decide) (by decide) ?_
    intro T22 h22 b22 cK hb22 g_b22 W22 E22 MD N_b22
    have ne_x_b22 : x ≠ b22 := Nat.ne_of_lt (Nat.lt_of_lt_of_le S_x.lt (Nat.le_of_eq hb22.symm))
    have ne_tx_b22 : tx ≠ b22 := Nat.ne_of_lt (Nat.lt_of_lt_of_le S_x.ltt (Nat.le_of_eq hb22.symm))
    have ne_a1_b22 : a1 ≠ b22 := Nat.ne_of_lt (Nat.lt_of_lt_of_le E_a1.lt (Nat.le_of_eq hb22.symm))
    have ne_d1_b22 : d1 ≠ b22 := Nat.ne_of_lt (Nat.lt_of_lt_of_le V_d1.lt (Nat.le_of_eq hb22.symm))
    have ne_b3_b22 : b3 ≠ b22 := Nat.ne_of_lt (Nat.lt_of_lt_of_le E_b3.lt (Nat.le_of_eq hb22.symm))
    have ne_b4_b22 : b4 ≠ b22 := Nat.ne_of_lt (Nat.lt_of_lt_of_le E_b4.lt (Nat.le_of_eq hb22.symm))
    have ne_d_b22 : d ≠ b22 := Nat.ne_of_lt (Nat.lt_of_lt_of_le S_d.lt (Nat.le_of_eq hb22.symm))
    have ne_u_b22 : u ≠ b22 := Nat.ne_of_lt (Nat.lt_of_lt_of_le S_d.ltt (Nat.le_of_eq hb22.symm))
    have sz_b22 : h.size ≤ b22 := Nat.le_trans K0.1 (Nat.le_of_eq hb22.symm)
    replace S_x := S_x.ext E22
    replace E_a1 := E_a1.ext E22
    replace F_coder_a1 := F_coder_a1.ext E22
    replace F_value_a1 := F_value_a1.ext E22
    replace V_d1 := V_d1.ext E22
    replace E_b3 := E_b3.ext E22
    replace F_description_b3 := F_description_b3.ext E22
    replace F_test_b3 := F_test_b3.ext E22
    replace E_b4 := E_b4.ext E22
    replace S_d := S_d.ext E22
    replace K0 := K0.ext E22
    show Go _ _ _ _ (T22.setTop (mkF m_ 36 #[.val (.ref x)] [(.ref b22), (.ref d), (.ref b3), (.ref b3)]))
    refine W22.callI (y := Y0) rfl (cx.w 217 rfl) (cx.w 218 rfl) (cx.w 95 rfl) (cx.w 219 rfl) (by decide) (ct_acI cx W22.old b3 d b22 E_b3 F_description_b3 F_test_b3 g_b3) (allS (List.mem_of_getElem? (i := 3) rfl) all0) (by decide) (Wd := 1) (by decide) (k' := 10) (n' := 79) rfl rfl (by decide) (by decide) (by rw [hml]; rfl) (a := b3) (argsL := [(.ref d), (.ref b22)]) (rest := [(.ref b3)]) rfl (lenOf pd26 rfl) rfl (Nat.le_of_eq rfl) (hb hby d15_36) ?_
    intro v23 vm23 T23 h23 L23 W23 q23
    obtain ⟨rfl, K5, E_n5, G1, G2⟩ := q23
    have ne_u_b3 : u ≠ b3 := (Ne.symm (Ne.symm (S_d.neT E_b3 (cx.w 100 rfl))))
    replace S_x := S_x.keep K5 (ninS ne_x_b3 nin0) (ninS ne_tx_b3 nin0)
    replace E_a1 := E_a1.keep K5
    replace F_coder_a1 := F_coder_a1.keep K5 (ninS ne_a1_b3 nin0)
    replace F_value_a1 := F_value_a1.keep K5 (ninS ne_a1_b3 nin0)
    replace V_d1 := V_d1.keep K5 (ninS ne_d1_b3 nin0)
    replace E_b3 := E_b3.keep K5
    replace E_b4 := E_b4.keep K5
    replace S_d := S_d.keep K5 (ninS (Ne.symm ne_b3_d) nin0) (ninS ne_u_b3 nin0)
    replace N_b22 := N_b22.keep K5 (ninS (Ne.symm ne_b3_b22) nin0)
    replace K0 := K0.trans K5 (allS (Or.inr sz_b3) all0)
    show Go _ _ _ _ (T23.setTop (mkF m_ 39 #[.val (.ref x)] [(.ref b3)]))
    exact W23.retA hret rfl rfl (hb hby d15_39) (by decide) (by decide) fun vr_ cr_ => ⟨b3, d, u, b22, cK, rfl, K0, E_n5, G1, G2, S_d, MD, N_b22⟩
theorem ct_tos {l : Launch} {Z a0 n0 g1 gf em es} (cx : Ctx Z a0 n0 g1 gf em es) {h : Heap} (O : Old Z n0 h) (c d fn : Addr) (E_c : Exa Z h c "com/example/elegua/elegua/authorization/Access") (F_description_c : Fld Z h c "com/example/elegua/elegua/authorization/Access" "description" "Ljava/lang/String;" (.ref d)) (F_test_c : Fld Z h c "com/example/elegua/elegua/authorization/Access" "test" "Ljava/util/function/Predicate;" (.ref fn)) :
    Ct l Z consts_1 n0 [] Y4 prog_2_method_6_code 1 (some (.object "java/lang/String")) ({ frames := 0, cells := 0, slots := 0, locals := 0 } : Room) #[(.ref c)] [] h (fun v _ h' => v = some (.ref d) ∧ h' = h) := by
  refine Ct.intro (plainFor_of_name pn12) O cx.ew ?_
  intro p_ e_ s_ m_ bl_ mt_ c_ T0 W0 hby hml hret hnm
  refine Go.st (fun t_ k_ => castTop (g' := mkF m_ 0 #[.val (.ref c)] []) (by first | (simp [entryFrame, mkF, argsToLocals, Value.category]; done) | rfl) k_) ?_
  refine Go.st (fun _ => XS.aloadN W0.here W0.ex rfl (hb hby d43_0) rfl rfl) ?_
  show Go _ _ _ _ (T0.setTop (mkF m_ 1 #[.val (.ref c)] [(.ref c)]))
  refine W0.getF (cx.w 221 rfl) Via.refl F_description_c (hb hby d43_1) ?_
  intro T1 W1
  show Go _ _ _ _ (T1.setTop (mkF m_ 4 #[.val (.ref c)] [(.ref d)]))
  exact W1.retA hret rfl rfl (hb hby d43_4) (by decide) (by decide) fun vr_ cr_ => ⟨rfl, rfl⟩
theorem law_q0 {l : Launch} {Z a0 n0 g1 gf em es} (cx : Ctx Z a0 n0 g1 gf em es) {p_ : Program} {e_ : Env} {s_ : State} {m_ : MethodId} {ar_ : Array Value} {bl_ : List Frame} {mt_ : Method} {c_ : Code} {vm0 : Vm} {T0 : State} {h : Heap} {L0 : List Loc} (i0 i1 i2 m5 e7 e9 : Int32) (x tx y c d u fn : Addr) (v6 : Value) (W0 : Wk p_ l e_ room_1 s_ m_ ar_ bl_ mt_ c_ Z a0 consts_1 n0 "com/example/elegua/elegua/authorization/AccessRolePinLaw" vm0 T0 h L0 46 5000 []) (hby : c_.code = code) (hml : c_.maxLocals = 13) (hret : mt_.sig.returnType = (some .boolean)) (hnm : mt_.name = "law") (heq : e9 = e7) (E_c : Exa Z h c "com/example/elegua/elegua/authorization/Access") (F_description_c : Fld Z h c "com/example/elegua/elegua/authorization/Access" "description" "Ljava/lang/String;" (.ref d)) (F_test_c : Fld Z h c "com/example/elegua/elegua/authorization/Access" "test" "Ljava/util/function/Predicate;" (.ref fn)) (S_x : StrAt Z h x tx ([] : List Int32)) (S_d : StrAt Z h d u ([114, 111, 108, 101, 32] : List Int32)) :
    Go p_ e_ bl_ (Pst Z consts_1 n0 s_ room_1.cells room_1.slots (fun v _ _ => v = some (.int 1))) (T0.setTop (mkF m_ 122 #[.val (.int i0), .val (.int i1), .val (.int i2), .val (.ref x), .val (.ref y), .val (.int m5), .val v6, .val (.int e7), .val (.ref c), .val (.int e9), .unset, .unset, .unset] [])) := by
  refine Go.st (fun _ => XS.aload W0.here W0.ex rfl (hb hby at_122) rfl rfl) ?_
  show Go _ _ _ _ (T0.setTop (mkF m_ 124 #[.val (.int i0), .val (.int i1), .val (.int i2), .val (.ref x), .val (.ref y), .val (.int m5), .val v6, .val (.int e7), .val (.ref c), .val (.int e9), .unset, .unset, .unset] [(.ref c)]))
  refine W0.callV (y := Y4) (z := Y4) (cx.w 255 rfl) (cx.w 256 rfl) (cx.w 258 rfl) (cx.w 257 rfl) (cx.w 95 rfl) (cx.w 259 rfl) (W0.nf (cx.w 258 rfl)) (by decide) E_c (ct_tos cx W0.old c d fn E_c F_description_c F_test_c) all0 (by decide) (Wd := 0) (by decide) (k' := 46) (n' := 5000) rfl rfl (by decide) (by decide) (by rw [hml]; rfl) (a := c) (argsL := []) (rest := []) rfl (lenOf pd25 rfl) rfl (Nat.le_of_eq rfl) (hb hby at_124) ?_
  intro v1 vm1 T1 h1 L1 W1 q1
  obtain ⟨rfl, eh_⟩ := q1
  subst h1
  refine Go.st (fun _ => XS.astore W1.here W1.ex rfl (hb hby at_127) rfl rfl (l' := #[.val (.int i0), .val (.int i1), .val (.int i2), .val (.ref x), .val (.ref y), .val (.int m5), .val v6, .val (.int e7), .val (.ref c), .val (.int e9), .val (.ref d), .unset, .unset]) rfl) ?_
  refine Go.st (fun _ => XS.aloadN W1.here W1.ex rfl (hb hby at_129) rfl rfl) ?_
  show Go _ _ _ _ (T1.setTop (mkF m_ 130 #[.val (.int i0), .val (.int i1), .val (.int i2), .val (.ref x), .val (.ref y), .val (.int m5), .val v6, .val (.int e7), .val (.ref c), .val (.int e9), .val (.ref d), .unset, .unset] [(.ref x)]))
  obtain ⟨k1_2, V1_2⟩ := S_x.kb
  have E1_2 := S_x.E
  refine W1.libV (y := Y27) (z := Y27) (cx.w 260 rfl) (cx.w 131 rfl) (cx.w 133 rfl) (cx.w 132 rfl) (W1.nf (cx.w 133 rfl)) (by decide) E1_2 (Q := fun v h' L' => v = some (.int (Int32.ofNat (([] : List Int32)).length)) ∧ L' = [] ∧ h' = h) (ws := []) (Wd := 0) (ck := 0) (cn := 0) (StrChars.Road.lenW (W := 0) W1.hZ cx.lw (kI := 4) (cx.w 5 rfl) (cs := ([] : List Int32)) S_x.1 S_x.2.2.1 S_x.2.1 V1_2 (StrChars.Road.codOf rfl fun c hc => (S_x.ch c hc).2) S_x.ch.up (cx.cmp.ext W1.e0) cx.g1 S_x.le (by decide) (by decide)) (fun v h' L' q => ⟨by rw [q.2.1]; exact Fr.nil _, by rw [q.2.2]; exact Keep.refl _ _⟩) all0 all0 (k' := 46) (n' := 5000) rfl rfl (by decide) (by decide) (by rw [hml]; rfl) (a := x) (argsL := []) (rest := []) rfl (lenOf pd14 rfl) rfl (Nat.le_of_eq rfl) (hb hby at_130) ?_
  intro v3 T3 h3 M3 L3 W3 q3
  obtain ⟨rfl, -, eh_⟩ := q3
  subst h3
  refine Go.st (fun _ => XS.istore W3.here W3.ex rfl (hb hby at_133) rfl (l' := #[.val (.int i0), .val (.int i1), .val (.int i2), .val (.ref x), .val (.ref y), .val (.int m5), .val v6, .val (.int e7), .val (.ref c), .val (.int e9), .val (.ref d), .val (.int (0 : Int32)), .unset]) rfl) ?_
  refine Go.st (fun _ => XS.aload W3.here W3.ex rfl (hb hby at_135) rfl rfl) ?_
  show Go _ _ _ _ (T3.setTop (mkF m_ 137 #[.val (.int i0), .val (.int i1), .val (.int i2), .val (.ref x), .val (.ref y), .val (.int m5), .val v6, .val (.int e7), .val (.ref c), .val (.int e9), .val (.ref d), .val (.int (0 : Int32)), .unset] [(.ref d)]))
  obtain ⟨k1_4, V1_4⟩ := S_d.kb
  have E1_4 := S_d.E
  refine W3.libV (y := Y27) (z := Y27) (cx.w 260 rfl) (cx.w 131 rfl) (cx.w 133 rfl) (cx.w 132 rfl) (W3.nf (cx.w 133 rfl)) (by decide) E1_4 (Q := fun v h' L' => v = some (.int (Int32.ofNat (([114, 111, 108, 101, 32] : List Int32)).length)) ∧ L' = [] ∧ h' = h) (ws := []) (Wd := 0) (ck := 0) (cn := 0) (StrChars.Road.lenW (W := 0) W3.hZ cx.lw (kI := 4) (cx.w 5 rfl) (cs := ([114, 111, 108, 101, 32] : List Int32)) S_d.1 S_d.2.2.1 S_d.2.1 V1_4 (StrChars.Road.codOf rfl fun c hc => (S_d.ch c hc).2) S_d.ch.up (cx.cmp.ext W3.e0) cx.g1 S_d.le (by decide) (by decide)) (fun v h' L' q => ⟨by rw [q.2.1]; exact Fr.nil _, by rw [q.2.2]; exact Keep.refl _ _⟩) all0 all0 (k' := 46) (n' := 5000) rfl rfl (by decide) (by decide) (by rw [hml]; rfl) (a := d) (argsL := []) (rest := []) rfl (lenOf pd14 rfl) rfl (Nat.le_of_eq rfl) (hb hby at_137) ?_
  intro v5 T5 h5 M5 L5 W5 q5
  obtain ⟨rfl, -, eh_⟩ := q5
  subst h5
  refine Go.st (fun _ => XS.iconst W5.here W5.ex rfl (hb hby at_140)) ?_
  refine Go.st (fun _ => XS.iload W5.here W5.ex rfl (hb hby at_141) rfl) ?_
  refine Go.st (fun _ => XS.iadd W5.here W5.ex rfl (hb hby at_143) rfl) ?_
  show Go _ _ _ _ (T5.setTop (mkF m_ 144 #[.val (.int i0), .val (.int i1), .val (.int i2), .val (.ref x), .val (.ref y), .val (.int m5), .val v6, .val (.int e7), .val (.ref c), .val (.int e9), .val (.ref d), .val (.int (0 : Int32)), .unset] [(.int (5 : Int32)), (.int (5 : Int32))]))
  refine Go.st (fun _ => XS.icmpNo W5.here W5.ex rfl (hb hby at_144) rfl (teq (rfl : (5 : Int32) = (5 : Int32))).2) ?_
  refine Go.st (fun _ => XS.aload W5.here W5.ex rfl (hb hby at_147) rfl rfl) ?_
  refine Go.st (fun _ => XS.iconst W5.here W5.ex rfl (hb hby at_149)) ?_
  show Go _ _ _ _ (T5.setTop (mkF m_ 150 #[.val (.int i0), .val (.int i1), .val (.int i2), .val (.ref x), .val (.ref y), .val (.int m5), .val v6, .val (.int e7), .val (.ref c), .val (.int e9), .val (.ref d), .val (.int (0 : Int32)), .unset] [(.int (0 : Int32)), (.ref d)]))
  obtain ⟨k1_6, V1_6⟩ := S_d.kb
  refine W5.libV (y := Y23) (z := Y23) (cx.w 261 rfl) (cx.w 262 rfl) (cx.w 264 rfl) (cx.w 263 rfl) (W5.nf (cx.w 264 rfl)) (by decide) E1_4 (Q := fun v h' L' => v = some (.int ((([114, 111, 108, 101, 32] : List Int32)).getD 0 0)) ∧ L' = [] ∧ h' = h) (ws := []) (Wd := 0) (ck := 0) (cn := 0) (StrChars.Road.chN (W := 0) W5.hZ cx.hw (kI := 4) (cx.w 5 rfl) (cs := ([114, 111, 108, 101, 32] : List Int32)) S_d.1 S_d.2.2.1 S_d.2.1 V1_6 (StrChars.Road.codOf rfl fun c hc => (S_d.ch c hc).2) S_d.ch.up (cx.cmp.ext W5.e0) cx.g1 (cx.fmt.ext W5.e0) cx.fref S_d.le (i := 0) (Nat.le_of_ble_eq_true rfl) (j := 0) rfl (by decide) (by decide)) (fun v h' L' q => ⟨by rw [q.2.1]; exact Fr.nil _, by rw [q.2.2]; exact Keep.refl _ _⟩) all0 all0 (k' := 46) (n' := 5000) rfl rfl (by decide) (by decide) (by rw [hml]; rfl) (a := d) (argsL := [(.int (0 : Int32))]) (rest := []) rfl (lenOf pd27 rfl) rfl (Nat.le_of_eq rfl) (hb hby at_150) ?_
  intro v7 T7 h7 M7 L7 W7 q7
  obtain ⟨rfl, -, eh_⟩ := q7
  subst h7
  refine Go.st (fun _ => XS.bipush W7.here W7.ex rfl (hb hby at_153)) ?_
  refine Go.st (fun _ => XS.icmpNo W7.here W7.ex rfl (hb hby at_155) rfl (teq (rfl : (114 : Int32) = (114 : Int32))).2) ?_
  refine Go.st (fun _ => XS.aload W7.here W7.ex rfl (hb hby at_158) rfl rfl) ?_
  show Go _ _ _ _ (T7.setTop (mkF m_ 160 #[.val (.int i0), .val (.int i1), .val (.int i2), .val (.ref x), .val (.ref y), .val (.int m5), .val v6, .val (.int e7), .val (.ref c), .val (.int e9), .val (.ref d), .val (.int (0 : Int32)), .unset] [(.ref d)]))
  refine Go.st (fun _ => XS.iconst W7.here W7.ex rfl (hb hby at_160)) ?_
  show Go _ _ _ _ (T7.setTop (mkF m_ 161 #[.val (.int i0), .val (.int i1), .val (.int i2), .val (.ref x), .val (.ref y), .val (.int m5), .val v6, .val (.int e7), .val (.ref c), .val (.int e9), .val (.ref d), .val (.int (0 : Int32)), .unset] [(.int (1 : Int32)), (.ref d)]))
  obtain ⟨k1_8, V1_8⟩ := S_d.kb
  refine W7.libV (y := Y23) (z := Y23) (cx.w 261 rfl) (cx.w 262 rfl) (cx.w 264 rfl) (cx.w 263 rfl) (W7.nf (cx.w 264 rfl)) (by decide) E1_4 (Q := fun v h' L' => v = some (.int ((([114, 111, 108, 101, 32] : List Int32)).getD 1 0)) ∧ L' = [] ∧ h' = h) (ws := []) (Wd := 0) (ck := 0) (cn := 0) (StrChars.Road.chN (W := 0) W7.hZ cx.hw (kI := 4) (cx.w 5 rfl) (cs := ([114, 111, 108, 101, 32] : List Int32)) S_d.1 S_d.2.2.1 S_d.2.1 V1_8 (StrChars.Road.codOf rfl fun c hc => (S_d.ch c hc).2) S_d.ch.up (cx.cmp.ext W7.e0) cx.g1 (cx.fmt.ext W7.e0) cx.fref S_d.le (i := 1) (Nat.le_of_ble_eq_true rfl) (j := 1) rfl (by decide) (by decide)) (fun v h' L' q => ⟨by rw [q.2.1]; exact Fr.nil _, by rw [q.2.2]; exact Keep.refl _ _⟩) all0 all0 (k' := 46) (n' := 5000) rfl rfl (by decide) (by decide) (by rw [hml]; rfl) (a := d) (argsL := [(.int (1 : Int32))]) (rest := []) rfl (lenOf pd27 rfl) rfl (Nat.le_of_eq rfl) (hb hby at_161) ?_
  intro v9 T9 h9 M9 L9 W9 q9
  obtain ⟨rfl, -, eh_⟩ := q9
  subst h9
  refine Go.st (fun _ => XS.bipush W9.here W9.ex rfl (hb hby at_164)) ?_
  refine Go.st (fun _ => XS.icmpNo W9.here W9.ex rfl (hb hby at_166) rfl (teq (rfl : (111 : Int32) = (111 : Int32))).2) ?_
  refine Go.st (fun _ => XS.aload W9.here W9.ex rfl (hb hby at_169) rfl rfl) ?_
  show Go _ _ _ _ (T9.setTop (mkF m_ 171 #[.val (.int i0), .val (.int i1), .val (.int i2), .val (.ref x), .val (.ref y), .val (.int m5), .val v6, .val (.int e7), .val (.ref c), .val (.int e9), .val (.ref d), .val (.int (0 : Int32)), .unset] [(.ref d)]))
  refine Go.st (fun _ => XS.iconst W9.here W9.ex rfl (hb hby at_171)) ?_
  show Go _ _ _ _ (T9.setTop (mkF m_ 172 #[.val (.int i0), .val (.int i1), .val (.int i2), .val (.ref x), .val (.ref y), .val (.int m5), .val v6, .val (.int e7), .val (.ref c), .val (.int e9), .val (.ref d), .val (.int (0 : Int32)), .unset] [(.int (2 : Int32)), (.ref d)]))
  obtain ⟨k1_10, V1_10⟩ := S_d.kb
  refine W9.libV (y := Y23) (z := Y23) (cx.w 261 rfl) (cx.w 262 rfl) (cx.w 264 rfl) (cx.w 263 rfl) (W9.nf (cx.w 264 rfl)) (by decide) E1_4 (Q := fun v h' L' => v = some (.int ((([114, 111, 108, 101, 32] : List Int32)).getD 2 0)) ∧ L' = [] ∧ h' = h) (ws := []) (Wd := 0) (ck := 0) (cn := 0) (StrChars.Road.chN (W := 0) W9.hZ cx.hw (kI := 4) (cx.w 5 rfl) (cs := ([114, 111, 108, 101, 32] : List Int32)) S_d.1 S_d.2.2.1 S_d.2.1 V1_10 (StrChars.Road.codOf rfl fun c hc => (S_d.ch c hc).2) S_d.ch.up (cx.cmp.ext W9.e0) cx.g1 (cx.fmt.ext W9.e0) cx.fref S_d.le (i := 2) (Nat.le_of_ble_eq_true rfl) (j := 2) rfl (by decide) (by decide)) (fun v h' L' q => ⟨by rw [q.2.1]; exact Fr.nil _, by rw [q.2.2]; exact Keep.refl _ _⟩) all0 all0 (k' := 46) (n' := 5000) rfl rfl (by decide) (by decide) (by rw [hml]; rfl) (a := d) (argsL := [(.int (2 : Int32))]) (rest := []) rfl (lenOf pd27 rfl) rfl (Nat.le_of_eq rfl) (hb hby at_172) ?_
  intro v11 T11 h11 M11 L11 W11 q11
  obtain ⟨rfl, -, eh_⟩ := q11
  subst h11
  refine Go.st (fun _ => XS.bipush W11.here W11.ex rfl (hb hby at_175)) ?_
  refine Go.st (fun _ => XS.icmpNo W11.here W11.ex rfl (hb hby at_177) rfl (teq (rfl : (108 : Int32) = (108 : Int32))).2) ?_
  refine Go.st (fun _ => XS.aload W11.here W11.ex rfl (hb hby at_180) rfl rfl) ?_
  show Go _ _ _ _ (T11.setTop (mkF m_ 182 #[.val (.int i0), .val (.int i1), .val (.int i2), .val (.ref x), .val (.ref y), .val (.int m5), .val v6, .val (.int e7), .val (.ref c), .val (.int e9), .val (.ref d), .val (.int (0 : Int32)), .unset] [(.ref d)]))
  refine Go.st (fun _ => XS.iconst W11.here W11.ex rfl (hb hby at_182)) ?_
  show Go _ _ _ _ (T11.setTop (mkF m_ 183 #[.val (.int i0), .val (.int i1), .val (.int i2), .val (.ref x), .val (.ref y), .val (.int m5), .val v6, .val (.int e7), .val (.ref c), .val (.int e9), .val (.ref d), .val (.int (0 : Int32)), .unset] [(.int (3 : Int32)), (.ref d)]))
  obtain ⟨k1_12, V1_12⟩ := S_d.kb
  refine W11.libV (y := Y23) (z := Y23) (cx.w 261 rfl) (cx.w 262 rfl) (cx.w 264 rfl) (cx.w 263 rfl) (W11.nf (cx.w 264 rfl)) (by decide) E1_4 (Q := fun v h' L' => v = some (.int ((([114, 111, 108, 101, 32] : List Int32)).getD 3 0)) ∧ L' = [] ∧ h' = h) (ws := []) (Wd := 0) (ck := 0) (cn := 0) (StrChars.Road.chN (W := 0) W11.hZ cx.hw (kI := 4) (cx.w 5 rfl) (cs := ([114, 111, 108, 101, 32] : List Int32)) S_d.1 S_d.2.2.1 S_d.2.1 V1_12 (StrChars.Road.codOf rfl fun c hc => (S_d.ch c hc).2) S_d.ch.up (cx.cmp.ext W11.e0) cx.g1 (cx.fmt.ext W11.e0) cx.fref S_d.le (i := 3) (Nat.le_of_ble_eq_true rfl) (j := 3) rfl (by decide) (by decide)) (fun v h' L' q => ⟨by rw [q.2.1]; exact Fr.nil _, by rw [q.2.2]; exact Keep.refl _ _⟩) all0 all0 (k' := 46) (n' := 5000) rfl rfl (by decide) (by decide) (by rw [hml]; rfl) (a := d) (argsL := [(.int (3 : Int32))]) (rest := []) rfl (lenOf pd27 rfl) rfl (Nat.le_of_eq rfl) (hb hby at_183) ?_
  intro v13 T13 h13 M13 L13 W13 q13
  obtain ⟨rfl, -, eh_⟩ := q13
  subst h13
  refine Go.st (fun _ => XS.bipush W13.here W13.ex rfl (hb hby at_186)) ?_
  refine Go.st (fun _ => XS.icmpNo W13.here W13.ex rfl (hb hby at_188) rfl (teq (rfl : (101 : Int32) = (101 : Int32))).2) ?_
  refine Go.st (fun _ => XS.aload W13.here W13.ex rfl (hb hby at_191) rfl rfl) ?_
  show Go _ _ _ _ (T13.setTop (mkF m_ 193 #[.val (.int i0), .val (.int i1), .val (.int i2), .val (.ref x), .val (.ref y), .val (.int m5), .val v6, .val (.int e7), .val (.ref c), .val (.int e9), .val (.ref d), .val (.int (0 : Int32)), .unset] [(.ref d)]))
  refine Go.st (fun _ => XS.iconst W13.here W13.ex rfl (hb hby at_193)) ?_
  show Go _ _ _ _ (T13.setTop (mkF m_ 194 #[.val (.int i0), .val (.int i1), .val (.int i2), .val (.ref x), .val (.ref y), .val (.int m5), .val v6, .val (.int e7), .val (.ref c), .val (.int e9), .val (.ref d), .val (.int (0 : Int32)), .unset] [(.int (4 : Int32)), (.ref d)]))
  obtain ⟨k1_14, V1_14⟩ := S_d.kb
  refine W13.libV (y := Y23) (z := Y23) (cx.w 261 rfl) (cx.w 262 rfl) (cx.w 264 rfl) (cx.w 263 rfl) (W13.nf (cx.w 264 rfl)) (by decide) E1_4 (Q := fun v h' L' => v = some (.int ((([114, 111, 108, 101, 32] : List Int32)).getD 4 0)) ∧ L' = [] ∧ h' = h) (ws := []) (Wd := 0) (ck := 0) (cn := 0) (StrChars.Road.chN (W := 0) W13.hZ cx.hw (kI := 4) (cx.w 5 rfl) (cs := ([114, 111, 108, 101, 32] : List Int32)) S_d.1 S_d.2.2.1 S_d.2.1 V1_14 (StrChars.Road.codOf rfl fun c hc => (S_d.ch c hc).2) S_d.ch.up (cx.cmp.ext W13.e0) cx.g1 (cx.fmt.ext W13.e0) cx.fref S_d.le (i := 4) (Nat.le_of_ble_eq_true rfl) (j := 4) rfl (by decide) (by decide)) (fun v h' L' q => ⟨by rw [q.2.1]; exact Fr.nil _, by rw [q.2.2]; exact Keep.refl _ _⟩) all0 all0 (k' := 46) (n' := 5000) rfl rfl (by decide) (by decide) (by rw [hml]; rfl) (a := d) (argsL := [(.int (4 : Int32))]) (rest := []) rfl (lenOf pd27 rfl) rfl (Nat.le_of_eq rfl) (hb hby at_194) ?_
  intro v15 T15 h15 M15 L15 W15 q15
  obtain ⟨rfl, -, eh_⟩ := q15
  subst h15
  refine Go.st (fun _ => XS.bipush W15.here W15.ex rfl (hb hby at_197)) ?_
  refine Go.st (fun _ => XS.icmpNo W15.here W15.ex rfl (hb hby at_199) rfl (teq (rfl : (32 : Int32) = (32 : Int32))).2) ?_
  refine Go.st (fun _ => XS.iload W15.here W15.ex rfl (hb hby at_202) rfl) ?_
  show Go _ _ _ _ (T15.setTop (mkF m_ 204 #[.val (.int i0), .val (.int i1), .val (.int i2), .val (.ref x), .val (.ref y), .val (.int m5), .val v6, .val (.int e7), .val (.ref c), .val (.int e9), .val (.ref d), .val (.int (0 : Int32)), .unset] [(.int (0 : Int32))]))
  refine Go.st (fun _ => XS.iconst W15.here W15.ex rfl (hb hby at_204)) ?_
  refine Go.st (fun _ => XS.icmpYes W15.here W15.ex rfl (pc0 := 205) (pc' := 222) rfl (hb hby at_205) rfl (tlt ((by decide) : (0 : Int32) < (1 : Int32))).1 (by decide) (by decide)) ?_
  refine Go.st (fun _ => XS.iload W15.here W15.ex rfl (hb hby at_222) rfl) ?_
  show Go _ _ _ _ (T15.setTop (mkF m_ 224 #[.val (.int i0), .val (.int i1), .val (.int i2), .val (.ref x), .val (.ref y), .val (.int m5), .val v6, .val (.int e7), .val (.ref c), .val (.int e9), .val (.ref d), .val (.int (0 : Int32)), .unset] [(.int (0 : Int32))]))
  refine Go.st (fun _ => XS.iconst W15.here W15.ex rfl (hb hby at_224)) ?_
  refine Go.st (fun _ => XS.icmpYes W15.here W15.ex rfl (pc0 := 225) (pc' := 243) rfl (hb hby at_225) rfl (tlt ((by decide) : (0 : Int32) < (2 : Int32))).1 (by decide) (by decide)) ?_
  refine Go.st (fun _ => XS.iload W15.here W15.ex rfl (hb hby at_243) rfl) ?_
  show Go _ _ _ _ (T15.setTop (mkF m_ 245 #[.val (.int i0), .val (.int i1), .val (.int i2), .val (.ref x), .val (.ref y), .val (.int m5), .val v6, .val (.int e7), .val (.ref c), .val (.int e9), .val (.ref d), .val (.int (0 : Int32)), .unset] [(.int (0 : Int32))]))
  refine Go.st (fun _ => XS.iconst W15.here W15.ex rfl (hb hby at_245)) ?_
  refine Go.st (fun _ => XS.icmpYes W15.here W15.ex rfl (pc0 := 246) (pc' := 264) rfl (hb hby at_246) rfl (tlt ((by decide) : (0 : Int32) < (3 : Int32))).1 (by decide) (by decide)) ?_
  refine Go.st (fun _ => XS.iconst W15.here W15.ex rfl (hb hby at_264)) ?_
  show Go _ _ _ _ (T15.setTop (mkF m_ 265 #[.val (.int i0), .val (.int i1), .val (.int i2), .val (.ref x), .val (.ref y), .val (.int m5), .val v6, .val (.int e7), .val (.ref c), .val (.int e9), .val (.ref d), .val (.int (0 : Int32)), .unset] [(.int (1 : Int32))]))
  refine Go.st (fun _ => XS.goto W15.here W15.ex rfl (pc0 := 265) (pc' := 269) rfl (hb hby at_265) (by decide) (by decide)) ?_
  refine Go.st (fun _ => XS.istore W15.here W15.ex rfl (hb hby at_269) rfl (l' := #[.val (.int i0), .val (.int i1), .val (.int i2), .val (.ref x), .val (.ref y), .val (.int m5), .val v6, .val (.int e7), .val (.ref c), .val (.int e9), .val (.ref d), .val (.int (0 : Int32)), .val (.int (1 : Int32))]) rfl) ?_
  refine Go.st (fun _ => XS.iload W15.here W15.ex rfl (hb hby at_271) rfl) ?_
  show Go _ _ _ _ (T15.setTop (mkF m_ 273 #[.val (.int i0), .val (.int i1), .val (.int i2), .val (.ref x), .val (.ref y), .val (.int m5), .val v6, .val (.int e7), .val (.ref c), .val (.int e9), .val (.ref d), .val (.int (0 : Int32)), .val (.int (1 : Int32))] [(.int e9)]))
  refine Go.st (fun _ => XS.iload W15.here W15.ex rfl (hb hby at_273) rfl) ?_
  refine Go.st (fun _ => XS.icmpNo W15.here W15.ex rfl (hb hby at_275) rfl (teq (heq : e9 = e7)).2) ?_
  refine Go.st (fun _ => XS.iload W15.here W15.ex rfl (hb hby at_278) rfl) ?_
  show Go _ _ _ _ (T15.setTop (mkF m_ 280 #[.val (.int i0), .val (.int i1), .val (.int i2), .val (.ref x), .val (.ref y), .val (.int m5), .val v6, .val (.int e7), .val (.ref c), .val (.int e9), .val (.ref d), .val (.int (0 : Int32)), .val (.int (1 : Int32))] [(.int (1 : Int32))]))
  refine Go.st (fun _ => XS.ifNo W15.here W15.ex rfl (hb hby at_280) rfl ((if0 _ _).trans (feq ((by decide) : ¬ ((1 : Int32) = (0 : Int32)))).1)) ?_
  refine Go.st (fun _ => XS.iconst W15.here W15.ex rfl (hb hby at_283)) ?_
  refine Go.st (fun _ => XS.goto W15.here W15.ex rfl (pc0 := 284) (pc' := 288) rfl (hb hby at_284) (by decide) (by decide)) ?_
  show Go _ _ _ _ (T15.setTop (mkF m_ 288 #[.val (.int i0), .val (.int i1), .val (.int i2), .val (.ref x), .val (.ref y), .val (.int m5), .val v6, .val (.int e7), .val (.ref c), .val (.int e9), .val (.ref d), .val (.int (0 : Int32)), .val (.int (1 : Int32))] [(.int (1 : Int32))]))
  exact W15.retN hret (by simp) (hb hby at_288) (by decide) (by decide) fun vr_ cr_ => rfl
theorem law_q1 {l : Launch} {Z a0 n0 g1 gf em es} (cx : Ctx Z a0 n0 g1 gf em es) {p_ : Program} {e_ : Env} {s_ : State} {m_ : MethodId} {ar_ : Array Value} {bl_ : List Frame} {mt_ : Method} {c_ : Code} {vm0 : Vm} {T0 : State} {h : Heap} {L0 : List Loc} (i0 i1 i2 m5 e7 e9 : Int32) (x tx y c d u fn : Addr) (v6 : Value) (c0 : Int32) (W0 : Wk p_ l e_ room_1 s_ m_ ar_ bl_ mt_ c_ Z a0 consts_1 n0 "com/example/elegua/elegua/authorization/AccessRolePinLaw" vm0 T0 h L0 46 5000 []) (hby : c_.code = code) (hml : c_.maxLocals = 13) (hret : mt_.sig.returnType = (some .boolean)) (hnm : mt_.name = "law") (heq : e9 = e7) (E_c : Exa Z h c "com/example/elegua/elegua/authorization/Access") (F_description_c : Fld Z h c "com/example/elegua/elegua/authorization/Access" "description" "Ljava/lang/String;" (.ref d)) (F_test_c : Fld Z h c "com/example/elegua/elegua/authorization/Access" "test" "Ljava/util/function/Predicate;" (.ref fn)) (S_x : StrAt Z h x tx ([c0] : List Int32)) (S_d : StrAt Z h d u ([114, 111, 108, 101, 32, c0] : List Int32)) :
    Go p_ e_ bl_ (Pst Z consts_1 n0 s_ room_1.cells room_1.slots (fun v _ _ => v = some (.int 1))) (T0.setTop (mkF m_ 122 #[.val (.int i0), .val (.int i1), .val (.int i2), .val (.ref x), .val (.ref y), .val (.int m5), .val v6, .val (.int e7), .val (.ref c), .val (.int e9), .unset, .unset, .unset] [])) := by
  refine Go.st (fun _ => XS.aload W0.here W0.ex rfl (hb hby at_122) rfl rfl) ?_
  show Go _ _ _ _ (T0.setTop (mkF m_ 124 #[.val (.int i0), .val (.int i1), .val (.int i2), .val (.ref x), .val (.ref y), .val (.int m5), .val v6, .val (.int e7), .val (.ref c), .val (.int e9), .unset, .unset, .unset] [(.ref c)]))
  refine W0.callV (y := Y4) (z := Y4) (cx.w 255 rfl) (cx.w 256 rfl) (cx.w 258 rfl) (cx.w 257 rfl) (cx.w 95 rfl) (cx.w 259 rfl) (W0.nf (cx.w 258 rfl)) (by decide) E_c (ct_tos cx W0.old c d fn E_c F_description_c F_test_c) all0 (by decide) (Wd := 0) (by decide) (k' := 46) (n' := 5000) rfl rfl (by decide) (by decide) (by rw [hml]; rfl) (a := c) (argsL := []) (rest := []) rfl (lenOf pd25 rfl) rfl (Nat.le_of_eq rfl) (hb hby at_124) ?_
  intro v1 vm1 T1 h1 L1 W1 q1
  obtain ⟨rfl, eh_⟩ := q1
  subst h1
  refine Go.st (fun _ => XS.astore W1.here W1.ex rfl (hb hby at_127) rfl rfl (l' := #[.val (.int i0), .val (.int i1), .val (.int i2), .val (.ref x), .val (.ref y), .val (.int m5), .val v6, .val (.int e7), .val (.ref c), .val (.int e9), .val (.ref d), .unset, .unset]) rfl) ?_
  refine Go.st (fun _ => XS.aloadN W1.here W1.ex rfl (hb hby at_129) rfl rfl) ?_
  show Go _ _ _ _ (T1.setTop (mkF m_ 130 #[.val (.int i0), .val (.int i1), .val (.int i2), .val (.ref x), .val (.ref y), .val (.int m5), .val v6, .val (.int e7), .val (.ref c), .val (.int e9), .val (.ref d), .unset, .unset] [(.ref x)]))
  obtain ⟨k1_2, V1_2⟩ := S_x.kb
  have E1_2 := S_x.E
  refine W1.libV (y := Y27) (z := Y27) (cx.w 260 rfl) (cx.w 131 rfl) (cx.w 133 rfl) (cx.w 132 rfl) (W1.nf (cx.w 133 rfl)) (by decide) E1_2 (Q := fun v h' L' => v = some (.int (Int32.ofNat (([c0] : List Int32)).length)) ∧ L' = [] ∧ h' = h) (ws := []) (Wd := 0) (ck := 0) (cn := 0) (StrChars.Road.lenW (W := 0) W1.hZ cx.lw (kI := 4) (cx.w 5 rfl) (cs := ([c0] : List Int32)) S_x.1 S_x.2.2.1 S_x.2.1 V1_2 (StrChars.Road.codOf rfl fun c hc => (S_x.ch c hc).2) S_x.ch.up (cx.cmp.ext W1.e0) cx.g1 S_x.le (by decide) (by decide)) (fun v h' L' q => ⟨by rw [q.2.1]; exact Fr.nil _, by rw [q.2.2]; exact Keep.refl _ _⟩) all0 all0 (k' := 46) (n' := 5000) rfl rfl (by decide) (by decide) (by rw [hml]; rfl) (a := x) (argsL := []) (rest := []) rfl (lenOf pd14 rfl) rfl (Nat.le_of_eq rfl) (hb hby at_130) ?_
  intro v3 T3 h3 M3 L3 W3 q3
  obtain ⟨rfl, -, eh_⟩ := q3
  subst h3
  refine Go.st (fun _ => XS.istore W3.here W3.ex rfl (hb hby at_133) rfl (l' := #[.val (.int i0), .val (.int i1), .val (.int i2), .val (.ref x), .val (.ref y), .val (.int m5), .val v6, .val (.int e7), .val (.ref c), .val (.int e9), .val (.ref d), .val (.int (1 : Int32)), .unset]) rfl) ?_
  refine Go.st (fun _ => XS.aload W3.here W3.ex rfl (hb hby at_135) rfl rfl) ?_
  show Go _ _ _ _ (T3.setTop (mkF m_ 137 #[.val (.int i0), .val (.int i1), .val (.int i2), .val (.ref x), .val (.ref y), .val (.int m5), .val v6, .val (.int e7), .val (.ref c), .val (.int e9), .val (.ref d), .val (.int (1 : Int32)), .unset] [(.ref d)]))
  obtain ⟨k1_4, V1_4⟩ := S_d.kb
  have E1_4 := S_d.E
  refine W3.libV (y := Y27) (z := Y27) (cx.w 260 rfl) (cx.w 131 rfl) (cx.w 133 rfl) (cx.w 132 rfl) (W3.nf (cx.w 133 rfl)) (by decide) E1_4 (Q := fun v h' L' => v = some (.int (Int32.ofNat (([114, 111, 108, 101, 32, c0] : List Int32)).length)) ∧ L' = [] ∧ h' = h) (ws := []) (Wd := 0) (ck := 0) (cn := 0) (StrChars.Road.lenW (W := 0) W3.hZ cx.lw (kI := 4) (cx.w 5 rfl) (cs := ([114, 111, 108, 101, 32, c0] : List Int32)) S_d.1 S_d.2.2.1 S_d.2.1 V1_4 (StrChars.Road.codOf rfl fun c hc => (S_d.ch c hc).2) S_d.ch.up (cx.cmp.ext W3.e0) cx.g1 S_d.le (by decide) (by decide)) (fun v h' L' q => ⟨by rw [q.2.1]; exact Fr.nil _, by rw [q.2.2]; exact Keep.refl _ _⟩) all0 all0 (k' := 46) (n' := 5000) rfl rfl (by decide) (by decide) (by rw [hml]; rfl) (a := d) (argsL := []) (rest := []) rfl (lenOf pd14 rfl) rfl (Nat.le_of_eq rfl) (hb hby at_137) ?_
  intro v5 T5 h5 M5 L5 W5 q5
  obtain ⟨rfl, -, eh_⟩ := q5
  subst h5
  refine Go.st (fun _ => XS.iconst W5.here W5.ex rfl (hb hby at_140)) ?_
  refine Go.st (fun _ => XS.iload W5.here W5.ex rfl (hb hby at_141) rfl) ?_
  refine Go.st (fun _ => XS.iadd W5.here W5.ex rfl (hb hby at_143) rfl) ?_
  show Go _ _ _ _ (T5.setTop (mkF m_ 144 #[.val (.int i0), .val (.int i1), .val (.int i2), .val (.ref x), .val (.ref y), .val (.int m5), .val v6, .val (.int e7), .val (.ref c), .val (.int e9), .val (.ref d), .val (.int (1 : Int32)), .unset] [(.int (6 : Int32)), (.int (6 : Int32))]))
  refine Go.st (fun _ => XS.icmpNo W5.here W5.ex rfl (hb hby at_144) rfl (teq (rfl : (6 : Int32) = (6 : Int32))).2) ?_
  refine Go.st (fun _ => XS.aload W5.here W5.ex rfl (hb hby at_147) rfl rfl) ?_
  refine Go.st (fun _ => XS.iconst W5.here W5.ex rfl (hb hby at_149)) ?_
  show Go _ _ _ _ (T5.setTop (mkF m_ 150 #[.val (.int i0), .val (.int i1), .val (.int i2), .val (.ref x), .val (.ref y), .val (.int m5), .val v6, .val (.int e7), .val (.ref c), .val (.int e9), .val (.ref d), .val (.int (1 : Int32)), .unset] [(.int (0 : Int32)), (.ref d)]))
  obtain ⟨k1_6, V1_6⟩ := S_d.kb
  refine W5.libV (y := Y23) (z := Y23) (cx.w 261 rfl) (cx.w 262 rfl) (cx.w 264 rfl) (cx.w 263 rfl) (W5.nf (cx.w 264 rfl)) (by decide) E1_4 (Q := fun v h' L' => v = some (.int ((([114, 111, 108, 101, 32, c0] : List Int32)).getD 0 0)) ∧ L' = [] ∧ h' = h) (ws := []) (Wd := 0) (ck := 0) (cn := 0) (StrChars.Road.chN (W := 0) W5.hZ cx.hw (kI := 4) (cx.w 5 rfl) (cs := ([114, 111, 108, 101, 32, c0] : List Int32)) S_d.1 S_d.2.2.1 S_d.2.1 V1_6 (StrChars.Road.codOf rfl fun c hc => (S_d.ch c hc).2) S_d.ch.up (cx.cmp.ext W5.e0) cx.g1 (cx.fmt.ext W5.e0) cx.fref S_d.le (i := 0) (Nat.le_of_ble_eq_true rfl) (j := 0) rfl (by decide) (by decide)) (fun v h' L' q => ⟨by rw [q.2.1]; exact Fr.nil _, by rw [q.2.2]; exact Keep.refl _ _⟩) all0 all0 (k' := 46) (n' := 5000) rfl rfl (by decide) (by decide) (by rw [hml]; rfl) (a := d) (argsL := [(.int (0 : Int32))]) (rest := []) rfl (lenOf pd27 rfl) rfl (Nat.le_of_eq rfl) (hb hby at_150) ?_
  intro v7 T7 h7 M7 L7 W7 q7
  obtain ⟨rfl, -, eh_⟩ := q7
  subst h7
  refine Go.st (fun _ => XS.bipush W7.here W7.ex rfl (hb hby at_153)) ?_
  refine Go.st (fun _ => XS.icmpNo W7.here W7.ex rfl (hb hby at_155) rfl (teq (rfl : (114 : Int32) = (114 : Int32))).2) ?_
  refine Go.st (fun _ => XS.aload W7.here W7.ex rfl (hb hby at_158) rfl rfl) ?_
  show Go _ _ _ _ (T7.setTop (mkF m_ 160 #[.val (.int i0), .val (.int i1), .val (.int i2), .val (.ref x), .val (.ref y), .val (.int m5), .val v6, .val (.int e7), .val (.ref c), .val (.int e9), .val (.ref d), .val (.int (1 : Int32)), .unset] [(.ref d)]))
  refine Go.st (fun _ => XS.iconst W7.here W7.ex rfl (hb hby at_160)) ?_
  show Go _ _ _ _ (T7.setTop (mkF m_ 161 #[.val (.int i0), .val (.int i1), .val (.int i2), .val (.ref x), .val (.ref y), .val (.int m5), .val v6, .val (.int e7), .val (.ref c), .val (.int e9), .val (.ref d), .val (.int (1 : Int32)), .unset] [(.int (1 : Int32)), (.ref d)]))
  obtain ⟨k1_8, V1_8⟩ := S_d.kb
  refine W7.libV (y := Y23) (z := Y23) (cx.w 261 rfl) (cx.w 262 rfl) (cx.w 264 rfl) (cx.w 263 rfl) (W7.nf (cx.w 264 rfl)) (by decide) E1_4 (Q := fun v h' L' => v = some (.int ((([114, 111, 108, 101, 32, c0] : List Int32)).getD 1 0)) ∧ L' = [] ∧ h' = h) (ws := []) (Wd := 0) (ck := 0) (cn := 0) (StrChars.Road.chN (W := 0) W7.hZ cx.hw (kI := 4) (cx.w 5 rfl) (cs := ([114, 111, 108, 101, 32, c0] : List Int32)) S_d.1 S_d.2.2.1 S_d.2.1 V1_8 (StrChars.Road.codOf rfl fun c hc => (S_d.ch c hc).2) S_d.ch.up (cx.cmp.ext W7.e0) cx.g1 (cx.fmt.ext W7.e0) cx.fref S_d.le (i := 1) (Nat.le_of_ble_eq_true rfl) (j := 1) rfl (by decide) (by decide)) (fun v h' L' q => ⟨by rw [q.2.1]; exact Fr.nil _, by rw [q.2.2]; exact Keep.refl _ _⟩) all0 all0 (k' := 46) (n' := 5000) rfl rfl (by decide) (by decide) (by rw [hml]; rfl) (a := d) (argsL := [(.int (1 : Int32))]) (rest := []) rfl (lenOf pd27 rfl) rfl (Nat.le_of_eq rfl) (hb hby at_161) ?_
  intro v9 T9 h9 M9 L9 W9 q9
  obtain ⟨rfl, -, eh_⟩ := q9
  subst h9
  refine Go.st (fun _ => XS.bipush W9.here W9.ex rfl (hb hby at_164)) ?_
  refine Go.st (fun _ => XS.icmpNo W9.here W9.ex rfl (hb hby at_166) rfl (teq (rfl : (111 : Int32) = (111 : Int32))).2) ?_
  refine Go.st (fun _ => XS.aload W9.here W9.ex rfl (hb hby at_169) rfl rfl) ?_
  show Go _ _ _ _ (T9.setTop (mkF m_ 171 #[.val (.int i0), .val (.int i1), .val (.int i2), .val (.ref x), .val (.ref y), .val (.int m5), .val v6, .val (.int e7), .val (.ref c), .val (.int e9), .val (.ref d), .val (.int (1 : Int32)), .unset] [(.ref d)]))
  refine Go.st (fun _ => XS.iconst W9.here W9.ex rfl (hb hby at_171)) ?_
  show Go _ _ _ _ (T9.setTop (mkF m_ 172 #[.val (.int i0), .val (.int i1), .val (.int i2), .val (.ref x), .val (.ref y), .val (.int m5), .val v6, .val (.int e7), .val (.ref c), .val (.int e9), .val (.ref d), .val (.int (1 : Int32)), .unset] [(.int (2 : Int32)), (.ref d)]))
  obtain ⟨k1_10, V1_10⟩ := S_d.kb
  refine W9.libV (y := Y23) (z := Y23) (cx.w 261 rfl) (cx.w 262 rfl) (cx.w 264 rfl) (cx.w 263 rfl) (W9.nf (cx.w 264 rfl)) (by decide) E1_4 (Q := fun v h' L' => v = some (.int ((([114, 111, 108, 101, 32, c0] : List Int32)).getD 2 0)) ∧ L' = [] ∧ h' = h) (ws := []) (Wd := 0) (ck := 0) (cn := 0) (StrChars.Road.chN (W := 0) W9.hZ cx.hw (kI := 4) (cx.w 5 rfl) (cs := ([114, 111, 108, 101, 32, c0] : List Int32)) S_d.1 S_d.2.2.1 S_d.2.1 V1_10 (StrChars.Road.codOf rfl fun c hc => (S_d.ch c hc).2) S_d.ch.up (cx.cmp.ext W9.e0) cx.g1 (cx.fmt.ext W9.e0) cx.fref S_d.le (i := 2) (Nat.le_of_ble_eq_true rfl) (j := 2) rfl (by decide) (by decide)) (fun v h' L' q => ⟨by rw [q.2.1]; exact Fr.nil _, by rw [q.2.2]; exact Keep.refl _ _⟩) all0 all0 (k' := 46) (n' := 5000) rfl rfl (by decide) (by decide) (by rw [hml]; rfl) (a := d) (argsL := [(.int (2 : Int32))]) (rest := []) rfl (lenOf pd27 rfl) rfl (Nat.le_of_eq rfl) (hb hby at_172) ?_
  intro v11 T11 h11 M11 L11 W11 q11
  obtain ⟨rfl, -, eh_⟩ := q11
  subst h11
  refine Go.st (fun _ => XS.bipush W11.here W11.ex rfl (hb hby at_175)) ?_
  refine Go.st (fun _ => XS.icmpNo W11.here W11.ex rfl (hb hby at_177) rfl (teq (rfl : (108 : Int32) = (108 : Int32))).2) ?_
  refine Go.st (fun _ => XS.aload W11.here W11.ex rfl (hb hby at_180) rfl rfl) ?_
  show Go _ _ _ _ (T11.setTop (mkF m_ 182 #[.val (.int i0), .val (.int i1), .val (.int i2), .val (.ref x), .val (.ref y), .val (.int m5), .val v6, .val (.int e7), .val (.ref c), .val (.int e9), .val (.ref d), .val (.int (1 : Int32)), .unset] [(.ref d)]))
  refine Go.st (fun _ => XS.iconst W11.here W11.ex rfl (hb hby at_182)) ?_
  show Go _ _ _ _ (T11.setTop (mkF m_ 183 #[.val (.int i0), .val (.int i1), .val (.int i2), .val (.ref x), .val (.ref y), .val (.int m5), .val v6, .val (.int e7), .val (.ref c), .val (.int e9), .val (.ref d), .val (.int (1 : Int32)), .unset] [(.int (3 : Int32)), (.ref d)]))
  obtain ⟨k1_12, V1_12⟩ := S_d.kb
  refine W11.libV (y := Y23) (z := Y23) (cx.w 261 rfl) (cx.w 262 rfl) (cx.w 264 rfl) (cx.w 263 rfl) (W11.nf (cx.w 264 rfl)) (by decide) E1_4 (Q := fun v h' L' => v = some (.int ((([114, 111, 108, 101, 32, c0] : List Int32)).getD 3 0)) ∧ L' = [] ∧ h' = h) (ws := []) (Wd := 0) (ck := 0) (cn := 0) (StrChars.Road.chN (W := 0) W11.hZ cx.hw (kI := 4) (cx.w 5 rfl) (cs := ([114, 111, 108, 101, 32, c0] : List Int32)) S_d.1 S_d.2.2.1 S_d.2.1 V1_12 (StrChars.Road.codOf rfl fun c hc => (S_d.ch c hc).2) S_d.ch.up (cx.cmp.ext W11.e0) cx.g1 (cx.fmt.ext W11.e0) cx.fref S_d.le (i := 3) (Nat.le_of_ble_eq_true rfl) (j := 3) rfl (by decide) (by decide)) (fun v h' L' q => ⟨by rw [q.2.1]; exact Fr.nil _, by rw [q.2.2]; exact Keep.refl _ _⟩) all0 all0 (k' := 46) (n' := 5000) rfl rfl (by decide) (by decide) (by rw [hml]; rfl) (a := d) (argsL := [(.int (3 : Int32))]) (rest := []) rfl (lenOf pd27 rfl) rfl (Nat.le_of_eq rfl) (hb hby at_183) ?_
  intro v13 T13 h13 M13 L13 W13 q13
  obtain ⟨rfl, -, eh_⟩ := q13
  subst h13
  refine Go.st (fun _ => XS.bipush W13.here W13.ex rfl (hb hby at_186)) ?_
  refine Go.st (fun _ => XS.icmpNo W13.here W13.ex rfl (hb hby at_188) rfl (teq (rfl : (101 : Int32) = (101 : Int32))).2) ?_
  refine Go.st (fun _ => XS.aload W13.here W13.ex rfl (hb hby at_191) rfl rfl) ?_
  show Go _ _ _ _ (T13.setTop (mkF m_ 193 #[.val (.int i0), .val (.int i1), .val (.int i2), .val (.ref x), .val (.ref y), .val (.int m5), .val v6, .val (.int e7), .val (.ref c), .val (.int e9), .val (.ref d), .val (.int (1 : Int32)), .unset] [(.ref d)]))
  refine Go.st (fun _ => XS.iconst W13.here W13.ex rfl (hb hby at_193)) ?_
  show Go _ _ _ _ (T13.setTop (mkF m_ 194 #[.val (.int i0), .val (.int i1), .val (.int i2), .val (.ref x), .val (.ref y), .val (.int m5), .val v6, .val (.int e7), .val (.ref c), .val (.int e9), .val (.ref d), .val (.int (1 : Int32)), .unset] [(.int (4 : Int32)), (.ref d)]))
  obtain ⟨k1_14, V1_14⟩ := S_d.kb
  refine W13.libV (y := Y23) (z := Y23) (cx.w 261 rfl) (cx.w 262 rfl) (cx.w 264 rfl) (cx.w 263 rfl) (W13.nf (cx.w 264 rfl)) (by decide) E1_4 (Q := fun v h' L' => v = some (.int ((([114, 111, 108, 101, 32, c0] : List Int32)).getD 4 0)) ∧ L' = [] ∧ h' = h) (ws := []) (Wd := 0) (ck := 0) (cn := 0) (StrChars.Road.chN (W := 0) W13.hZ cx.hw (kI := 4) (cx.w 5 rfl) (cs := ([114, 111, 108, 101, 32, c0] : List Int32)) S_d.1 S_d.2.2.1 S_d.2.1 V1_14 (StrChars.Road.codOf rfl fun c hc => (S_d.ch c hc).2) S_d.ch.up (cx.cmp.ext W13.e0) cx.g1 (cx.fmt.ext W13.e0) cx.fref S_d.le (i := 4) (Nat.le_of_ble_eq_true rfl) (j := 4) rfl (by decide) (by decide)) (fun v h' L' q => ⟨by rw [q.2.1]; exact Fr.nil _, by rw [q.2.2]; exact Keep.refl _ _⟩) all0 all0 (k' := 46) (n' := 5000) rfl rfl (by decide) (by decide) (by rw [hml]; rfl) (a := d) (argsL := [(.int (4 : Int32))]) (rest := []) rfl (lenOf pd27 rfl) rfl (Nat.le_of_eq rfl) (hb hby at_194) ?_
  intro v15 T15 h15 M15 L15 W15 q15
  obtain ⟨rfl, -, eh_⟩ := q15
  subst h15
  refine Go.st (fun _ => XS.bipush W15.here W15.ex rfl (hb hby at_197)) ?_
  refine Go.st (fun _ => XS.icmpNo W15.here W15.ex rfl (hb hby at_199) rfl (teq (rfl : (32 : Int32) = (32 : Int32))).2) ?_
  refine Go.st (fun _ => XS.iload W15.here W15.ex rfl (hb hby at_202) rfl) ?_
  show Go _ _ _ _ (T15.setTop (mkF m_ 204 #[.val (.int i0), .val (.int i1), .val (.int i2), .val (.ref x), .val (.ref y), .val (.int m5), .val v6, .val (.int e7), .val (.ref c), .val (.int e9), .val (.ref d), .val (.int (1 : Int32)), .unset] [(.int (1 : Int32))]))
  refine Go.st (fun _ => XS.iconst W15.here W15.ex rfl (hb hby at_204)) ?_
  refine Go.st (fun _ => XS.icmpNo W15.here W15.ex rfl (hb hby at_205) rfl (flt ((by decide) : ¬ ((1 : Int32) < (1 : Int32)))).1) ?_
  refine Go.st (fun _ => XS.aload W15.here W15.ex rfl (hb hby at_208) rfl rfl) ?_
  show Go _ _ _ _ (T15.setTop (mkF m_ 210 #[.val (.int i0), .val (.int i1), .val (.int i2), .val (.ref x), .val (.ref y), .val (.int m5), .val v6, .val (.int e7), .val (.ref c), .val (.int e9), .val (.ref d), .val (.int (1 : Int32)), .unset] [(.ref d)]))
  refine Go.st (fun _ => XS.iconst W15.here W15.ex rfl (hb hby at_210)) ?_
  show Go _ _ _ _ (T15.setTop (mkF m_ 211 #[.val (.int i0), .val (.int i1), .val (.int i2), .val (.ref x), .val (.ref y), .val (.int m5), .val v6, .val (.int e7), .val (.ref c), .val (.int e9), .val (.ref d), .val (.int (1 : Int32)), .unset] [(.int (5 : Int32)), (.ref d)]))
  obtain ⟨k1_16, V1_16⟩ := S_d.kb
  refine W15.libV (y := Y23) (z := Y23) (cx.w 261 rfl) (cx.w 262 rfl) (cx.w 264 rfl) (cx.w 263 rfl) (W15.nf (cx.w 264 rfl)) (by decide) E1_4 (Q := fun v h' L' => v = some (.int ((([114, 111, 108, 101, 32, c0] : List Int32)).getD 5 0)) ∧ L' = [] ∧ h' = h) (ws := []) (Wd := 0) (ck := 0) (cn := 0) (StrChars.Road.chN (W := 0) W15.hZ cx.hw (kI := 4) (cx.w 5 rfl) (cs := ([114, 111, 108, 101, 32, c0] : List Int32)) S_d.1 S_d.2.2.1 S_d.2.1 V1_16 (StrChars.Road.codOf rfl fun c hc => (S_d.ch c hc).2) S_d.ch.up (cx.cmp.ext W15.e0) cx.g1 (cx.fmt.ext W15.e0) cx.fref S_d.le (i := 5) (Nat.le_of_ble_eq_true rfl) (j := 5) rfl (by decide) (by decide)) (fun v h' L' q => ⟨by rw [q.2.1]; exact Fr.nil _, by rw [q.2.2]; exact Keep.refl _ _⟩) all0 all0 (k' := 46) (n' := 5000) rfl rfl (by decide) (by decide) (by rw [hml]; rfl) (a := d) (argsL := [(.int (5 : Int32))]) (rest := []) rfl (lenOf pd27 rfl) rfl (Nat.le_of_eq rfl) (hb hby at_211) ?_
  intro v17 T17 h17 M17 L17 W17 q17
  obtain ⟨rfl, -, eh_⟩ := q17
  subst h17
  refine Go.st (fun _ => XS.aloadN W17.here W17.ex rfl (hb hby at_214) rfl rfl) ?_
  refine Go.st (fun _ => XS.iconst W17.here W17.ex rfl (hb hby at_215)) ?_
  show Go _ _ _ _ (T17.setTop (mkF m_ 216 #[.val (.int i0), .val (.int i1), .val (.int i2), .val (.ref x), .val (.ref y), .val (.int m5), .val v6, .val (.int e7), .val (.ref c), .val (.int e9), .val (.ref d), .val (.int (1 : Int32)), .unset] [(.int (0 : Int32)), (.ref x), (.int c0)]))
  obtain ⟨k1_18, V1_18⟩ := S_x.kb
  refine W17.libV (y := Y23) (z := Y23) (cx.w 261 rfl) (cx.w 262 rfl) (cx.w 264 rfl) (cx.w 263 rfl) (W17.nf (cx.w 264 rfl)) (by decide) E1_2 (Q := fun v h' L' => v = some (.int ((([c0] : List Int32)).getD 0 0)) ∧ L' = [] ∧ h' = h) (ws := []) (Wd := 1) (ck := 0) (cn := 0) (StrChars.Road.chN (W := 1) W17.hZ cx.hw (kI := 4) (cx.w 5 rfl) (cs := ([c0] : List Int32)) S_x.1 S_x.2.2.1 S_x.2.1 V1_18 (StrChars.Road.codOf rfl fun c hc => (S_x.ch c hc).2) S_x.ch.up (cx.cmp.ext W17.e0) cx.g1 (cx.fmt.ext W17.e0) cx.fref S_x.le (i := 0) (Nat.le_of_ble_eq_true rfl) (j := 0) rfl (by decide) (by decide)) (fun v h' L' q => ⟨by rw [q.2.1]; exact Fr.nil _, by rw [q.2.2]; exact Keep.refl _ _⟩) all0 all0 (k' := 46) (n' := 5000) rfl rfl (by decide) (by decide) (by rw [hml]; rfl) (a := x) (argsL := [(.int (0 : Int32))]) (rest := [(.int c0)]) rfl (lenOf pd27 rfl) rfl (Nat.le_of_eq rfl) (hb hby at_216) ?_
  intro v19 T19 h19 M19 L19 W19 q19
  obtain ⟨rfl, -, eh_⟩ := q19
  subst h19
  refine Go.st (fun _ => XS.icmpNo W19.here W19.ex rfl (hb hby at_219) rfl (teq (rfl : c0 = c0)).2) ?_
  refine Go.st (fun _ => XS.iload W19.here W19.ex rfl (hb hby at_222) rfl) ?_
  refine Go.st (fun _ => XS.iconst W19.here W19.ex rfl (hb hby at_224)) ?_
  show Go _ _ _ _ (T19.setTop (mkF m_ 225 #[.val (.int i0), .val (.int i1), .val (.int i2), .val (.ref x), .val (.ref y), .val (.int m5), .val v6, .val (.int e7), .val (.ref c), .val (.int e9), .val (.ref d), .val (.int (1 : Int32)), .unset] [(.int (2 : Int32)), (.int (1 : Int32))]))
  refine Go.st (fun _ => XS.icmpYes W19.here W19.ex rfl (pc0 := 225) (pc' := 243) rfl (hb hby at_225) rfl (tlt ((by decide) : (1 : Int32) < (2 : Int32))).1 (by decide) (by decide)) ?_
  refine Go.st (fun _ => XS.iload W19.here W19.ex rfl (hb hby at_243) rfl) ?_
  refine Go.st (fun _ => XS.iconst W19.here W19.ex rfl (hb hby at_245)) ?_
  show Go _ _ _ _ (T19.setTop (mkF m_ 246 #[.val (.int i0), .val (.int i1), .val (.int i2), .val (.ref x), .val (.ref y), .val (.int m5), .val v6, .val (.int e7), .val (.ref c), .val (.int e9), .val (.ref d), .val (.int (1 : Int32)), .unset] [(.int (3 : Int32)), (.int (1 : Int32))]))
  refine Go.st (fun _ => XS.icmpYes W19.here W19.ex rfl (pc0 := 246) (pc' := 264) rfl (hb hby at_246) rfl (tlt ((by decide) : (1 : Int32) < (3 : Int32))).1 (by decide) (by decide)) ?_
  refine Go.st (fun _ => XS.iconst W19.here W19.ex rfl (hb hby at_264)) ?_
  refine Go.st (fun _ => XS.goto W19.here W19.ex rfl (pc0 := 265) (pc' := 269) rfl (hb hby at_265) (by decide) (by decide)) ?_
  show Go _ _ _ _ (T19.setTop (mkF m_ 269 #[.val (.int i0), .val (.int i1), .val (.int i2), .val (.ref x), .val (.ref y), .val (.int m5), .val v6, .val (.int e7), .val (.ref c), .val (.int e9), .val (.ref d), .val (.int (1 : Int32)), .unset] [(.int (1 : Int32))]))
  refine Go.st (fun _ => XS.istore W19.here W19.ex rfl (hb hby at_269) rfl (l' := #[.val (.int i0), .val (.int i1), .val (.int i2), .val (.ref x), .val (.ref y), .val (.int m5), .val v6, .val (.int e7), .val (.ref c), .val (.int e9), .val (.ref d), .val (.int (1 : Int32)), .val (.int (1 : Int32))]) rfl) ?_
  refine Go.st (fun _ => XS.iload W19.here W19.ex rfl (hb hby at_271) rfl) ?_
  refine Go.st (fun _ => XS.iload W19.here W19.ex rfl (hb hby at_273) rfl) ?_
  show Go _ _ _ _ (T19.setTop (mkF m_ 275 #[.val (.int i0), .val (.int i1), .val (.int i2), .val (.ref x), .val (.ref y), .val (.int m5), .val v6, .val (.int e7), .val (.ref c), .val (.int e9), .val (.ref d), .val (.int (1 : Int32)), .val (.int (1 : Int32))] [(.int e7), (.int e9)]))
  refine Go.st (fun _ => XS.icmpNo W19.here W19.ex rfl (hb hby at_275) rfl (teq (heq : e9 = e7)).2) ?_
  refine Go.st (fun _ => XS.iload W19.here W19.ex rfl (hb hby at_278) rfl) ?_
  refine Go.st (fun _ => XS.ifNo W19.here W19.ex rfl (hb hby at_280) rfl ((if0 _ _).trans (feq ((by decide) : ¬ ((1 : Int32) = (0 : Int32)))).1)) ?_
  show Go _ _ _ _ (T19.setTop (mkF m_ 283 #[.val (.int i0), .val (.int i1), .val (.int i2), .val (.ref x), .val (.ref y), .val (.int m5), .val v6, .val (.int e7), .val (.ref c), .val (.int e9), .val (.ref d), .val (.int (1 : Int32)), .val (.int (1 : Int32))] []))
  refine Go.st (fun _ => XS.iconst W19.here W19.ex rfl (hb hby at_283)) ?_
  refine Go.st (fun _ => XS.goto W19.here W19.ex rfl (pc0 := 284) (pc' := 288) rfl (hb hby at_284) (by decide) (by decide)) ?_
  show Go _ _ _ _ (T19.setTop (mkF m_ 288 #[.val (.int i0), .val (.int i1), .val (.int i2), .val (.ref x), .val (.ref y), .val (.int m5), .val v6, .val (.int e7), .val (.ref c), .val (.int e9), .val (.ref d), .val (.int (1 : Int32)), .val (.int (1 : Int32))] [(.int (1 : Int32))]))
  exact W19.retN hret (by simp) (hb hby at_288) (by decide) (by decide) fun vr_ cr_ => rfl
theorem law_q2 {l : Launch} {Z a0 n0 g1 gf em es} (cx : Ctx Z a0 n0 g1 gf em es) {p_ : Program} {e_ : Env} {s_ : State} {m_ : MethodId} {ar_ : Array Value} {bl_ : List Frame} {mt_ : Method} {c_ : Code} {vm0 : Vm} {T0 : State} {h : Heap} {L0 : List Loc} (i0 i1 i2 m5 e7 e9 : Int32) (x tx y c d u fn : Addr) (v6 : Value) (c0 c1 : Int32) (W0 : Wk p_ l e_ room_1 s_ m_ ar_ bl_ mt_ c_ Z a0 consts_1 n0 "com/example/elegua/elegua/authorization/AccessRolePinLaw" vm0 T0 h L0 46 5000 []) (hby : c_.code = code) (hml : c_.maxLocals = 13) (hret : mt_.sig.returnType = (some .boolean)) (hnm : mt_.name = "law") (heq : e9 = e7) (E_c : Exa Z h c "com/example/elegua/elegua/authorization/Access") (F_description_c : Fld Z h c "com/example/elegua/elegua/authorization/Access" "description" "Ljava/lang/String;" (.ref d)) (F_test_c : Fld Z h c "com/example/elegua/elegua/authorization/Access" "test" "Ljava/util/function/Predicate;" (.ref fn)) (S_x : StrAt Z h x tx ([c0, c1] : List Int32)) (S_d : StrAt Z h d u ([114, 111, 108, 101, 32, c0, c1] : List Int32)) :
    Go p_ e_ bl_ (Pst Z consts_1 n0 s_ room_1.cells room_1.slots (fun v _ _ => v = some (.int 1))) (T0.setTop (mkF m_ 122 #[.val (.int i0), .val (.int i1), .val (.int i2), .val (.ref x), .val (.ref y), .val (.int m5), .val v6, .val (.int e7), .val (.ref c), .val (.int e9), .unset, .unset, .unset] [])) := by
  refine Go.st (fun _ => XS.aload W0.here W0.ex rfl (hb hby at_122) rfl rfl) ?_
  show Go _ _ _ _ (T0.setTop (mkF m_ 124 #[.val (.int i0), .val (.int i1), .val (.int i2), .val (.ref x), .val (.ref y), .val (.int m5), .val v6, .val (.int e7), .val (.ref c), .val (.int e9), .unset, .unset, .unset] [(.ref c)]))
  refine W0.callV (y := Y4) (z := Y4) (cx.w 255 rfl) (cx.w 256 rfl) (cx.w 258 rfl) (cx.w 257 rfl) (cx.w 95 rfl) (cx.w 259 rfl) (W0.nf (cx.w 258 rfl)) (by decide) E_c (ct_tos cx W0.old c d fn E_c F_description_c F_test_c) all0 (by decide) (Wd := 0) (by decide) (k' := 46) (n' := 5000) rfl rfl (by decide) (by decide) (by rw [hml]; rfl) (a := c) (argsL := []) (rest := []) rfl (lenOf pd25 rfl) rfl (Nat.le_of_eq rfl) (hb hby at_124) ?_
  intro v1 vm1 T1 h1 L1 W1 q1
  obtain ⟨rfl, eh_⟩ := q1
  subst h1
  refine Go.st (fun _ => XS.astore W1.here W1.ex rfl (hb hby at_127) rfl rfl (l' := #[.val (.int i0), .val (.int i1), .val (.int i2), .val (.ref x), .val (.ref y), .val (.int m5), .val v6, .val (.int e7), .val (.ref c), .val (.int e9), .val (.ref d), .unset, .unset]) rfl) ?_
  refine Go.st (fun _ => XS.aloadN W1.here W1.ex rfl (hb hby at_129) rfl rfl) ?_
  show Go _ _ _ _ (T1.setTop (mkF m_ 130 #[.val (.int i0), .val (.int i1), .val (.int i2), .val (.ref x), .val (.ref y), .val (.int m5), .val v6, .val (.int e7), .val (.ref c), .val (.int e9), .val (.ref d), .unset, .unset] [(.ref x)]))
  obtain ⟨k1_2, V1_2⟩ := S_x.kb
  have E1_2 := S_x.E
  refine W1.libV (y := Y27) (z := Y27) (cx.w 260 rfl) (cx.w 131 rfl) (cx.w 133 rfl) (cx.w 132 rfl) (W1.nf (cx.w 133 rfl)) (by decide) E1_2 (Q := fun v h' L' => v = some (.int (Int32.ofNat (([c0, c1] : List Int32)).length)) ∧ L' = [] ∧ h' = h) (ws := []) (Wd := 0) (ck := 0) (cn := 0) (StrChars.Road.lenW (W := 0) W1.hZ cx.lw (kI := 4) (cx.w 5 rfl) (cs := ([c0, c1] : List Int32)) S_x.1 S_x.2.2.1 S_x.2.1 V1_2 (StrChars.Road.codOf rfl fun c hc => (S_x.ch c hc).2) S_x.ch.up (cx.cmp.ext W1.e0) cx.g1 S_x.le (by decide) (by decide)) (fun v h' L' q => ⟨by rw [q.2.1]; exact Fr.nil _, by rw [q.2.2]; exact Keep.refl _ _⟩) all0 all0 (k' := 46) (n' := 5000) rfl rfl (by decide) (by decide) (by rw [hml]; rfl) (a := x) (argsL := []) (rest := []) rfl (lenOf pd14 rfl) rfl (Nat.le_of_eq rfl) (hb hby at_130) ?_
  intro v3 T3 h3 M3 L3 W3 q3
  obtain ⟨rfl, -, eh_⟩ := q3
  subst h3
  refine Go.st (fun _ => XS.istore W3.here W3.ex rfl (hb hby at_133) rfl (l' := #[.val (.int i0), .val (.int i1), .val (.int i2), .val (.ref x), .val (.ref y), .val (.int m5), .val v6, .val (.int e7), .val (.ref c), .val (.int e9), .val (.ref d), .val (.int (2 : Int32)), .unset]) rfl) ?_
  refine Go.st (fun _ => XS.aload W3.here W3.ex rfl (hb hby at_135) rfl rfl) ?_
  show Go _ _ _ _ (T3.setTop (mkF m_ 137 #[.val (.int i0), .val (.int i1), .val (.int i2), .val (.ref x), .val (.ref y), .val (.int m5), .val v6, .val (.int e7), .val (.ref c), .val (.int e9), .val (.ref d), .val (.int (2 : Int32)), .unset] [(.ref d)]))
  obtain ⟨k1_4, V1_4⟩ := S_d.kb
  have E1_4 := S_d.E
  refine W3.libV (y := Y27) (z := Y27) (cx.w 260 rfl) (cx.w 131 rfl) (cx.w 133 rfl) (cx.w 132 rfl) (W3.nf (cx.w 133 rfl)) (by decide) E1_4 (Q := fun v h' L' => v = some (.int (Int32.ofNat (([114, 111, 108, 101, 32, c0, c1] : List Int32)).length)) ∧ L' = [] ∧ h' = h) (ws := []) (Wd := 0) (ck := 0) (cn := 0) (StrChars.Road.lenW (W := 0) W3.hZ cx.lw (kI := 4) (cx.w 5 rfl) (cs := ([114, 111, 108, 101, 32, c0, c1] : List Int32)) S_d.1 S_d.2.2.1 S_d.2.1 V1_4 (StrChars.Road.codOf rfl fun c hc => (S_d.ch c hc).2) S_d.ch.up (cx.cmp.ext W3.e0) cx.g1 S_d.le (by decide) (by decide)) (fun v h' L' q => ⟨by rw [q.2.1]; exact Fr.nil _, by rw [q.2.2]; exact Keep.refl _ _⟩) all0 all0 (k' := 46) (n' := 5000) rfl rfl (by decide) (by decide) (by rw [hml]; rfl) (a := d) (argsL := []) (rest := []) rfl (lenOf pd14 rfl) rfl (Nat.le_of_eq rfl) (hb hby at_137) ?_
  intro v5 T5 h5 M5 L5 W5 q5
  obtain ⟨rfl, -, eh_⟩ := q5
  subst h5
  refine Go.st (fun _ => XS.iconst W5.here W5.ex rfl (hb hby at_140)) ?_
  refine Go.st (fun _ => XS.iload W5.here W5.ex rfl (hb hby at_141) rfl) ?_
  refine Go.st (fun _ => XS.iadd W5.here W5.ex rfl (hb hby at_143) rfl) ?_
  show Go _ _ _ _ (T5.setTop (mkF m_ 144 #[.val (.int i0), .val (.int i1), .val (.int i2), .val (.ref x), .val (.ref y), .val (.int m5), .val v6, .val (.int e7), .val (.ref c), .val (.int e9), .val (.ref d), .val (.int (2 : Int32)), .unset] [(.int (7 : Int32)), (.int (7 : Int32))]))
  refine Go.st (fun _ => XS.icmpNo W5.here W5.ex rfl (hb hby at_144) rfl (teq (rfl : (7 : Int32) = (7 : Int32))).2) ?_
  refine Go.st (fun _ => XS.aload W5.here W5.ex rfl (hb hby at_147) rfl rfl) ?_
  refine Go.st (fun _ => XS.iconst W5.here W5.ex rfl (hb hby at_149)) ?_
  show Go _ _ _ _ (T5.setTop (mkF m_ 150 #[.val (.int i0), .val (.int i1), .val (.int i2), .val (.ref x), .val (.ref y), .val (.int m5), .val v6, .val (.int e7), .val (.ref c), .val (.int e9), .val (.ref d), .val (.int (2 : Int32)), .unset] [(.int (0 : Int32)), (.ref d)]))
  obtain ⟨k1_6, V1_6⟩ := S_d.kb
  refine W5.libV (y := Y23) (z := Y23) (cx.w 261 rfl) (cx.w 262 rfl) (cx.w 264 rfl) (cx.w 263 rfl) (W5.nf (cx.w 264 rfl)) (by decide) E1_4 (Q := fun v h' L' => v = some (.int ((([114, 111, 108, 101, 32, c0, c1] : List Int32)).getD 0 0)) ∧ L' = [] ∧ h' = h) (ws := []) (Wd := 0) (ck := 0) (cn := 0) (StrChars.Road.chN (W := 0) W5.hZ cx.hw (kI := 4) (cx.w 5 rfl) (cs := ([114, 111, 108, 101, 32, c0, c1] : List Int32)) S_d.1 S_d.2.2.1 S_d.2.1 V1_6 (StrChars.Road.codOf rfl fun c hc => (S_d.ch c hc).2) S_d.ch.up (cx.cmp.ext W5.e0) cx.g1 (cx.fmt.ext W5.e0) cx.fref S_d.le (i := 0) (Nat.le_of_ble_eq_true rfl) (j := 0) rfl (by decide) (by decide)) (fun v h' L' q => ⟨by rw [q.2.1]; exact Fr.nil _, by rw [q.2.2]; exact Keep.refl _ _⟩) all0 all0 (k' := 46) (n' := 5000) rfl rfl (by decide) (by decide) (by rw [hml]; rfl) (a := d) (argsL := [(.int (0 : Int32))]) (rest := []) rfl (lenOf pd27 rfl) rfl (Nat.le_of_eq rfl) (hb hby at_150) ?_
  intro v7 T7 h7 M7 L7 W7 q7
  obtain ⟨rfl, -, eh_⟩ := q7
  subst h7
  refine Go.st (fun _ => XS.bipush W7.here W7.ex rfl (hb hby at_153)) ?_
  refine Go.st (fun _ => XS.icmpNo W7.here W7.ex rfl (hb hby at_155) rfl (teq (rfl : (114 : Int32) = (114 : Int32))).2) ?_
  refine Go.st (fun _ => XS.aload W7.here W7.ex rfl (hb hby at_158) rfl rfl) ?_
  show Go _ _ _ _ (T7.setTop (mkF m_ 160 #[.val (.int i0), .val (.int i1), .val (.int i2), .val (.ref x), .val (.ref y), .val (.int m5), .val v6, .val (.int e7), .val (.ref c), .val (.int e9), .val (.ref d), .val (.int (2 : Int32)), .unset] [(.ref d)]))
  refine Go.st (fun _ => XS.iconst W7.here W7.ex rfl (hb hby at_160)) ?_
  show Go _ _ _ _ (T7.setTop (mkF m_ 161 #[.val (.int i0), .val (.int i1), .val (.int i2), .val (.ref x), .val (.ref y), .val (.int m5), .val v6, .val (.int e7), .val (.ref c), .val (.int e9), .val (.ref d), .val (.int (2 : Int32)), .unset] [(.int (1 : Int32)), (.ref d)]))
  obtain ⟨k1_8, V1_8⟩ := S_d.kb
  refine W7.libV (y := Y23) (z := Y23) (cx.w 261 rfl) (cx.w 262 rfl) (cx.w 264 rfl) (cx.w 263 rfl) (W7.nf (cx.w 264 rfl)) (by decide) E1_4 (Q := fun v h' L' => v = some (.int ((([114, 111, 108, 101, 32, c0, c1] : List Int32)).getD 1 0)) ∧ L' = [] ∧ h' = h) (ws := []) (Wd := 0) (ck := 0) (cn := 0) (StrChars.Road.chN (W := 0) W7.hZ cx.hw (kI := 4) (cx.w 5 rfl) (cs := ([114, 111, 108, 101, 32, c0, c1] : List Int32)) S_d.1 S_d.2.2.1 S_d.2.1 V1_8 (StrChars.Road.codOf rfl fun c hc => (S_d.ch c hc).2) S_d.ch.up (cx.cmp.ext W7.e0) cx.g1 (cx.fmt.ext W7.e0) cx.fref S_d.le (i := 1) (Nat.le_of_ble_eq_true rfl) (j := 1) rfl (by decide) (by decide)) (fun v h' L' q => ⟨by rw [q.2.1]; exact Fr.nil _, by rw [q.2.2]; exact Keep.refl _ _⟩) all0 all0 (k' := 46) (n' := 5000) rfl rfl (by decide) (by decide) (by rw [hml]; rfl) (a := d) (argsL := [(.int (1 : Int32))]) (rest := []) rfl (lenOf pd27 rfl) rfl (Nat.le_of_eq rfl) (hb hby at_161) ?_
  intro v9 T9 h9 M9 L9 W9 q9
  obtain ⟨rfl, -, eh_⟩ := q9
  subst h9
  refine Go.st (fun _ => XS.bipush W9.here W9.ex rfl (hb hby at_164)) ?_
  refine Go.st (fun _ => XS.icmpNo W9.here W9.ex rfl (hb hby at_166) rfl (teq (rfl : (111 : Int32) = (111 : Int32))).2) ?_
  refine Go.st (fun _ => XS.aload W9.here W9.ex rfl (hb hby at_169) rfl rfl) ?_
  show Go _ _ _ _ (T9.setTop (mkF m_ 171 #[.val (.int i0), .val (.int i1), .val (.int i2), .val (.ref x), .val (.ref y), .val (.int m5), .val v6, .val (.int e7), .val (.ref c), .val (.int e9), .val (.ref d), .val (.int (2 : Int32)), .unset] [(.ref d)]))
  refine Go.st (fun _ => XS.iconst W9.here W9.ex rfl (hb hby at_171)) ?_
  show Go _ _ _ _ (T9.setTop (mkF m_ 172 #[.val (.int i0), .val (.int i1), .val (.int i2), .val (.ref x), .val (.ref y), .val (.int m5), .val v6, .val (.int e7), .val (.ref c), .val (.int e9), .val (.ref d), .val (.int (2 : Int32)), .unset] [(.int (2 : Int32)), (.ref d)]))
  obtain ⟨k1_10, V1_10⟩ := S_d.kb
  refine W9.libV (y := Y23) (z := Y23) (cx.w 261 rfl) (cx.w 262 rfl) (cx.w 264 rfl) (cx.w 263 rfl) (W9.nf (cx.w 264 rfl)) (by decide) E1_4 (Q := fun v h' L' => v = some (.int ((([114, 111, 108, 101, 32, c0, c1] : List Int32)).getD 2 0)) ∧ L' = [] ∧ h' = h) (ws := []) (Wd := 0) (ck := 0) (cn := 0) (StrChars.Road.chN (W := 0) W9.hZ cx.hw (kI := 4) (cx.w 5 rfl) (cs := ([114, 111, 108, 101, 32, c0, c1] : List Int32)) S_d.1 S_d.2.2.1 S_d.2.1 V1_10 (StrChars.Road.codOf rfl fun c hc => (S_d.ch c hc).2) S_d.ch.up (cx.cmp.ext W9.e0) cx.g1 (cx.fmt.ext W9.e0) cx.fref S_d.le (i := 2) (Nat.le_of_ble_eq_true rfl) (j := 2) rfl (by decide) (by decide)) (fun v h' L' q => ⟨by rw [q.2.1]; exact Fr.nil _, by rw [q.2.2]; exact Keep.refl _ _⟩) all0 all0 (k' := 46) (n' := 5000) rfl rfl (by decide) (by decide) (by rw [hml]; rfl) (a := d) (argsL := [(.int (2 : Int32))]) (rest := []) rfl (lenOf pd27 rfl) rfl (Nat.le_of_eq rfl) (hb hby at_172) ?_
  intro v11 T11 h11 M11 L11 W11 q11
  obtain ⟨rfl, -, eh_⟩ := q11
  subst h11
  refine Go.st (fun _ => XS.bipush W11.here W11.ex rfl (hb hby at_175)) ?_
  refine Go.st (fun _ => XS.icmpNo W11.here W11.ex rfl (hb hby at_177) rfl (teq (rfl : (108 : Int32) = (108 : Int32))).2) ?_
  refine Go.st (fun _ => XS.aload W11.here W11.ex rfl (hb hby at_180) rfl rfl) ?_
  show Go _ _ _ _ (T11.setTop (mkF m_ 182 #[.val (.int i0), .val (.int i1), .val (.int i2), .val (.ref x), .val (.ref y), .val (.int m5), .val v6, .val (.int e7), .val (.ref c), .val (.int e9), .val (.ref d), .val (.int (2 : Int32)), .unset] [(.ref d)]))
  refine Go.st (fun _ => XS.iconst W11.here W11.ex rfl (hb hby at_182)) ?_
  show Go _ _ _ _ (T11.setTop (mkF m_ 183 #[.val (.int i0), .val (.int i1), .val (.int i2), .val (.ref x), .val (.ref y), .val (.int m5), .val v6, .val (.int e7), .val (.ref c), .val (.int e9), .val (.ref d), .val (.int (2 : Int32)), .unset] [(.int (3 : Int32)), (.ref d)]))
  obtain ⟨k1_12, V1_12⟩ := S_d.kb
  refine W11.libV (y := Y23) (z := Y23) (cx.w 261 rfl) (cx.w 262 rfl) (cx.w 264 rfl) (cx.w 263 rfl) (W11.nf (cx.w 264 rfl)) (by decide) E1_4 (Q := fun v h' L' => v = some (.int ((([114, 111, 108, 101, 32, c0, c1] : List Int32)).getD 3 0)) ∧ L' = [] ∧ h' = h) (ws := []) (Wd := 0) (ck := 0) (cn := 0) (StrChars.Road.chN (W := 0) W11.hZ cx.hw (kI := 4) (cx.w 5 rfl) (cs := ([114, 111, 108, 101, 32, c0, c1] : List Int32)) S_d.1 S_d.2.2.1 S_d.2.1 V1_12 (StrChars.Road.codOf rfl fun c hc => (S_d.ch c hc).2) S_d.ch.up (cx.cmp.ext W11.e0) cx.g1 (cx.fmt.ext W11.e0) cx.fref S_d.le (i := 3) (Nat.le_of_ble_eq_true rfl) (j := 3) rfl (by decide) (by decide)) (fun v h' L' q => ⟨by rw [q.2.1]; exact Fr.nil _, by rw [q.2.2]; exact Keep.refl _ _⟩) all0 all0 (k' := 46) (n' := 5000) rfl rfl (by decide) (by decide) (by rw [hml]; rfl) (a := d) (argsL := [(.int (3 : Int32))]) (rest := []) rfl (lenOf pd27 rfl) rfl (Nat.le_of_eq rfl) (hb hby at_183) ?_
  intro v13 T13 h13 M13 L13 W13 q13
  obtain ⟨rfl, -, eh_⟩ := q13
  subst h13
  refine Go.st (fun _ => XS.bipush W13.here W13.ex rfl (hb hby at_186)) ?_
  refine Go.st (fun _ => XS.icmpNo W13.here W13.ex rfl (hb hby at_188) rfl (teq (rfl : (101 : Int32) = (101 : Int32))).2) ?_
  refine Go.st (fun _ => XS.aload W13.here W13.ex rfl (hb hby at_191) rfl rfl) ?_
  show Go _ _ _ _ (T13.setTop (mkF m_ 193 #[.val (.int i0), .val (.int i1), .val (.int i2), .val (.ref x), .val (.ref y), .val (.int m5), .val v6, .val (.int e7), .val (.ref c), .val (.int e9), .val (.ref d), .val (.int (2 : Int32)), .unset] [(.ref d)]))
  refine Go.st (fun _ => XS.iconst W13.here W13.ex rfl (hb hby at_193)) ?_
  show Go _ _ _ _ (T13.setTop (mkF m_ 194 #[.val (.int i0), .val (.int i1), .val (.int i2), .val (.ref x), .val (.ref y), .val (.int m5), .val v6, .val (.int e7), .val (.ref c), .val (.int e9), .val (.ref d), .val (.int (2 : Int32)), .unset] [(.int (4 : Int32)), (.ref d)]))
  obtain ⟨k1_14, V1_14⟩ := S_d.kb
  refine W13.libV (y := Y23) (z := Y23) (cx.w 261 rfl) (cx.w 262 rfl) (cx.w 264 rfl) (cx.w 263 rfl) (W13.nf (cx.w 264 rfl)) (by decide) E1_4 (Q := fun v h' L' => v = some (.int ((([114, 111, 108, 101, 32, c0, c1] : List Int32)).getD 4 0)) ∧ L' = [] ∧ h' = h) (ws := []) (Wd := 0) (ck := 0) (cn := 0) (StrChars.Road.chN (W := 0) W13.hZ cx.hw (kI := 4) (cx.w 5 rfl) (cs := ([114, 111, 108, 101, 32, c0, c1] : List Int32)) S_d.1 S_d.2.2.1 S_d.2.1 V1_14 (StrChars.Road.codOf rfl fun c hc => (S_d.ch c hc).2) S_d.ch.up (cx.cmp.ext W13.e0) cx.g1 (cx.fmt.ext W13.e0) cx.fref S_d.le (i := 4) (Nat.le_of_ble_eq_true rfl) (j := 4) rfl (by decide) (by decide)) (fun v h' L' q => ⟨by rw [q.2.1]; exact Fr.nil _, by rw [q.2.2]; exact Keep.refl _ _⟩) all0 all0 (k' := 46) (n' := 5000) rfl rfl (by decide) (by decide) (by rw [hml]; rfl) (a := d) (argsL := [(.int (4 : Int32))]) (rest := []) rfl (lenOf pd27 rfl) rfl (Nat.le_of_eq rfl) (hb hby at_194) ?_
  intro v15 T15 h15 M15 L15 W15 q15
  obtain ⟨rfl, -, eh_⟩ := q15
  subst h15
  refine Go.st (fun _ => XS.bipush W15.here W15.ex rfl (hb hby at_197)) ?_
  refine Go.st (fun _ => XS.icmpNo W15.here W15.ex rfl (hb hby at_199) rfl (teq (rfl : (32 : Int32) = (32 : Int32))).2) ?_
  refine Go.st (fun _ => XS.iload W15.here W15.ex rfl (hb hby at_202) rfl) ?_
  show Go _ _ _ _ (T15.setTop (mkF m_ 204 #[.val (.int i0), .val (.int i1), .val (.int i2), .val (.ref x), .val (.ref y), .val (.int m5), .val v6, .val (.int e7), .val (.ref c), .val (.int e9), .val (.ref d), .val (.int (2 : Int32)), .unset] [(.int (2 : Int32))]))
  refine Go.st (fun _ => XS.iconst W15.here W15.ex rfl (hb hby at_204)) ?_
  refine Go.st (fun _ => XS.icmpNo W15.here W15.ex rfl (hb hby at_205) rfl (flt ((by decide) : ¬ ((2 : Int32) < (1 : Int32)))).1) ?_
  refine Go.st (fun _ => XS.aload W15.here W15.ex rfl (hb hby at_208) rfl rfl) ?_
  show Go _ _ _ _ (T15.setTop (mkF m_ 210 #[.val (.int i0), .val (.int i1), .val (.int i2), .val (.ref x), .val (.ref y), .val (.int m5), .val v6, .val (.int e7), .val (.ref c), .val (.int e9), .val (.ref d), .val (.int (2 : Int32)), .unset] [(.ref d)]))
  refine Go.st (fun _ => XS.iconst W15.here W15.ex rfl (hb hby at_210)) ?_
  show Go _ _ _ _ (T15.setTop (mkF m_ 211 #[.val (.int i0), .val (.int i1), .val (.int i2), .val (.ref x), .val (.ref y), .val (.int m5), .val v6, .val (.int e7), .val (.ref c), .val (.int e9), .val (.ref d), .val (.int (2 : Int32)), .unset] [(.int (5 : Int32)), (.ref d)]))
  obtain ⟨k1_16, V1_16⟩ := S_d.kb
  refine W15.libV (y := Y23) (z := Y23) (cx.w 261 rfl) (cx.w 262 rfl) (cx.w 264 rfl) (cx.w 263 rfl) (W15.nf (cx.w 264 rfl)) (by decide) E1_4 (Q := fun v h' L' => v = some (.int ((([114, 111, 108, 101, 32, c0, c1] : List Int32)).getD 5 0)) ∧ L' = [] ∧ h' = h) (ws := []) (Wd := 0) (ck := 0) (cn := 0) (StrChars.Road.chN (W := 0) W15.hZ cx.hw (kI := 4) (cx.w 5 rfl) (cs := ([114, 111, 108, 101, 32, c0, c1] : List Int32)) S_d.1 S_d.2.2.1 S_d.2.1 V1_16 (StrChars.Road.codOf rfl fun c hc => (S_d.ch c hc).2) S_d.ch.up (cx.cmp.ext W15.e0) cx.g1 (cx.fmt.ext W15.e0) cx.fref S_d.le (i := 5) (Nat.le_of_ble_eq_true rfl) (j := 5) rfl (by decide) (by decide)) (fun v h' L' q => ⟨by rw [q.2.1]; exact Fr.nil _, by rw [q.2.2]; exact Keep.refl _ _⟩) all0 all0 (k' := 46) (n' := 5000) rfl rfl (by decide) (by decide) (by rw [hml]; rfl) (a := d) (argsL := [(.int (5 : Int32))]) (rest := []) rfl (lenOf pd27 rfl) rfl (Nat.le_of_eq rfl) (hb hby at_211) ?_
  intro v17 T17 h17 M17 L17 W17 q17
  obtain ⟨rfl, -, eh_⟩ := q17
  subst h17
  refine Go.st (fun _ => XS.aloadN W17.here W17.ex rfl (hb hby at_214) rfl rfl) ?_
  refine Go.st (fun _ => XS.iconst W17.here W17.ex rfl (hb hby at_215)) ?_
  show Go _ _ _ _ (T17.setTop (mkF m_ 216 #[.val (.int i0), .val (.int i1), .val (.int i2), .val (.ref x), .val (.ref y), .val (.int m5), .val v6, .val (.int e7), .val (.ref c), .val (.int e9), .val (.ref d), .val (.int (2 : Int32)), .unset] [(.int (0 : Int32)), (.ref x), (.int c0)]))
  obtain ⟨k1_18, V1_18⟩ := S_x.kb
  refine W17.libV (y := Y23) (z := Y23) (cx.w 261 rfl) (cx.w 262 rfl) (cx.w 264 rfl) (cx.w 263 rfl) (W17.nf (cx.w 264 rfl)) (by decide) E1_2 (Q := fun v h' L' => v = some (.int ((([c0, c1] : List Int32)).getD 0 0)) ∧ L' = [] ∧ h' = h) (ws := []) (Wd := 1) (ck := 0) (cn := 0) (StrChars.Road.chN (W := 1) W17.hZ cx.hw (kI := 4) (cx.w 5 rfl) (cs := ([c0, c1] : List Int32)) S_x.1 S_x.2.2.1 S_x.2.1 V1_18 (StrChars.Road.codOf rfl fun c hc => (S_x.ch c hc).2) S_x.ch.up (cx.cmp.ext W17.e0) cx.g1 (cx.fmt.ext W17.e0) cx.fref S_x.le (i := 0) (Nat.le_of_ble_eq_true rfl) (j := 0) rfl (by decide) (by decide)) (fun v h' L' q => ⟨by rw [q.2.1]; exact Fr.nil _, by rw [q.2.2]; exact Keep.refl _ _⟩) all0 all0 (k' := 46) (n' := 5000) rfl rfl (by decide) (by decide) (by rw [hml]; rfl) (a := x) (argsL := [(.int (0 : Int32))]) (rest := [(.int c0)]) rfl (lenOf pd27 rfl) rfl (Nat.le_of_eq rfl) (hb hby at_216) ?_
  intro v19 T19 h19 M19 L19 W19 q19
  obtain ⟨rfl, -, eh_⟩ := q19
  subst h19
  refine Go.st (fun _ => XS.icmpNo W19.here W19.ex rfl (hb hby at_219) rfl (teq (rfl : c0 = c0)).2) ?_
  refine Go.st (fun _ => XS.iload W19.here W19.ex rfl (hb hby at_222) rfl) ?_
  refine Go.st (fun _ => XS.iconst W19.here W19.ex rfl (hb hby at_224)) ?_
  show Go _ _ _ _ (T19.setTop (mkF m_ 225 #[.val (.int i0), .val (.int i1), .val (.int i2), .val (.ref x), .val (.ref y), .val (.int m5), .val v6, .val (.int e7), .val (.ref c), .val (.int e9), .val (.ref d), .val (.int (2 : Int32)), .unset] [(.int (2 : Int32)), (.int (2 : Int32))]))
  refine Go.st (fun _ => XS.icmpNo W19.here W19.ex rfl (hb hby at_225) rfl (flt ((by decide) : ¬ ((2 : Int32) < (2 : Int32)))).1) ?_
  refine Go.st (fun _ => XS.aload W19.here W19.ex rfl (hb hby at_228) rfl rfl) ?_
  refine Go.st (fun _ => XS.bipush W19.here W19.ex rfl (hb hby at_230)) ?_
  show Go _ _ _ _ (T19.setTop (mkF m_ 232 #[.val (.int i0), .val (.int i1), .val (.int i2), .val (.ref x), .val (.ref y), .val (.int m5), .val v6, .val (.int e7), .val (.ref c), .val (.int e9), .val (.ref d), .val (.int (2 : Int32)), .unset] [(.int (6 : Int32)), (.ref d)]))
  obtain ⟨k1_20, V1_20⟩ := S_d.kb
  refine W19.libV (y := Y23) (z := Y23) (cx.w 261 rfl) (cx.w 262 rfl) (cx.w 264 rfl) (cx.w 263 rfl) (W19.nf (cx.w 264 rfl)) (by decide) E1_4 (Q := fun v h' L' => v = some (.int ((([114, 111, 108, 101, 32, c0, c1] : List Int32)).getD 6 0)) ∧ L' = [] ∧ h' = h) (ws := []) (Wd := 0) (ck := 0) (cn := 0) (StrChars.Road.chN (W := 0) W19.hZ cx.hw (kI := 4) (cx.w 5 rfl) (cs := ([114, 111, 108, 101, 32, c0, c1] : List Int32)) S_d.1 S_d.2.2.1 S_d.2.1 V1_20 (StrChars.Road.codOf rfl fun c hc => (S_d.ch c hc).2) S_d.ch.up (cx.cmp.ext W19.e0) cx.g1 (cx.fmt.ext W19.e0) cx.fref S_d.le (i := 6) (Nat.le_of_ble_eq_true rfl) (j := 6) rfl (by decide) (by decide)) (fun v h' L' q => ⟨by rw [q.2.1]; exact Fr.nil _, by rw [q.2.2]; exact Keep.refl _ _⟩) all0 all0 (k' := 46) (n' := 5000) rfl rfl (by decide) (by decide) (by rw [hml]; rfl) (a := d) (argsL := [(.int (6 : Int32))]) (rest := []) rfl (lenOf pd27 rfl) rfl (Nat.le_of_eq rfl) (hb hby at_232) ?_
  intro v21 T21 h21 M21 L21 W21 q21
  obtain ⟨rfl, -, eh_⟩ := q21
  subst h21
  refine Go.st (fun _ => XS.aloadN W21.here W21.ex rfl (hb hby at_235) rfl rfl) ?_
  refine Go.st (fun _ => XS.iconst W21.here W21.ex rfl (hb hby at_236)) ?_
  show Go _ _ _ _ (T21.setTop (mkF m_ 237 #[.val (.int i0), .val (.int i1), .val (.int i2), .val (.ref x), .val (.ref y), .val (.int m5), .val v6, .val (.int e7), .val (.ref c), .val (.int e9), .val (.ref d), .val (.int (2 : Int32)), .unset] [(.int (1 : Int32)), (.ref x), (.int c1)]))
  obtain ⟨k1_22, V1_22⟩ := S_x.kb
  refine W21.libV (y := Y23) (z := Y23) (cx.w 261 rfl) (cx.w 262 rfl) (cx.w 264 rfl) (cx.w 263 rfl) (W21.nf (cx.w 264 rfl)) (by decide) E1_2 (Q := fun v h' L' => v = some (.int ((([c0, c1] : List Int32)).getD 1 0)) ∧ L' = [] ∧ h' = h) (ws := []) (Wd := 1) (ck := 0) (cn := 0) (StrChars.Road.chN (W := 1) W21.hZ cx.hw (kI := 4) (cx.w 5 rfl) (cs := ([c0, c1] : List Int32)) S_x.1 S_x.2.2.1 S_x.2.1 V1_22 (StrChars.Road.codOf rfl fun c hc => (S_x.ch c hc).2) S_x.ch.up (cx.cmp.ext W21.e0) cx.g1 (cx.fmt.ext W21.e0) cx.fref S_x.le (i := 1) (Nat.le_of_ble_eq_true rfl) (j := 1) rfl (by decide) (by decide)) (fun v h' L' q => ⟨by rw [q.2.1]; exact Fr.nil _, by rw [q.2.2]; exact Keep.refl _ _⟩) all0 all0 (k' := 46) (n' := 5000) rfl rfl (by decide) (by decide) (by rw [hml]; rfl) (a := x) (argsL := [(.int (1 : Int32))]) (rest := [(.int c1)]) rfl (lenOf pd27 rfl) rfl (Nat.le_of_eq rfl) (hb hby at_237) ?_
  intro v23 T23 h23 M23 L23 W23 q23
  obtain ⟨rfl, -, eh_⟩ := q23
  subst h23
  refine Go.st (fun _ => XS.icmpNo W23.here W23.ex rfl (hb hby at_240) rfl (teq (rfl : c1 = c1)).2) ?_
  refine Go.st (fun _ => XS.iload W23.here W23.ex rfl (hb hby at_243) rfl) ?_
  refine Go.st (fun _ => XS.iconst W23.here W23.ex rfl (hb hby at_245)) ?_
  show Go _ _ _ _ (T23.setTop (mkF m_ 246 #[.val (.int i0), .val (.int i1), .val (.int i2), .val (.ref x), .val (.ref y), .val (.int m5), .val v6, .val (.int e7), .val (.ref c), .val (.int e9), .val (.ref d), .val (.int (2 : Int32)), .unset] [(.int (3 : Int32)), (.int (2 : Int32))]))
  refine Go.st (fun _ => XS.icmpYes W23.here W23.ex rfl (pc0 := 246) (pc' := 264) rfl (hb hby at_246) rfl (tlt ((by decide) : (2 : Int32) < (3 : Int32))).1 (by decide) (by decide)) ?_
  refine Go.st (fun _ => XS.iconst W23.here W23.ex rfl (hb hby at_264)) ?_
  refine Go.st (fun _ => XS.goto W23.here W23.ex rfl (pc0 := 265) (pc' := 269) rfl (hb hby at_265) (by decide) (by decide)) ?_
  show Go _ _ _ _ (T23.setTop (mkF m_ 269 #[.val (.int i0), .val (.int i1), .val (.int i2), .val (.ref x), .val (.ref y), .val (.int m5), .val v6, .val (.int e7), .val (.ref c), .val (.int e9), .val (.ref d), .val (.int (2 : Int32)), .unset] [(.int (1 : Int32))]))
  refine Go.st (fun _ => XS.istore W23.here W23.ex rfl (hb hby at_269) rfl (l' := #[.val (.int i0), .val (.int i1), .val (.int i2), .val (.ref x), .val (.ref y), .val (.int m5), .val v6, .val (.int e7), .val (.ref c), .val (.int e9), .val (.ref d), .val (.int (2 : Int32)), .val (.int (1 : Int32))]) rfl) ?_
  refine Go.st (fun _ => XS.iload W23.here W23.ex rfl (hb hby at_271) rfl) ?_
  refine Go.st (fun _ => XS.iload W23.here W23.ex rfl (hb hby at_273) rfl) ?_
  show Go _ _ _ _ (T23.setTop (mkF m_ 275 #[.val (.int i0), .val (.int i1), .val (.int i2), .val (.ref x), .val (.ref y), .val (.int m5), .val v6, .val (.int e7), .val (.ref c), .val (.int e9), .val (.ref d), .val (.int (2 : Int32)), .val (.int (1 : Int32))] [(.int e7), (.int e9)]))
  refine Go.st (fun _ => XS.icmpNo W23.here W23.ex rfl (hb hby at_275) rfl (teq (heq : e9 = e7)).2) ?_
  refine Go.st (fun _ => XS.iload W23.here W23.ex rfl (hb hby at_278) rfl) ?_
  refine Go.st (fun _ => XS.ifNo W23.here W23.ex rfl (hb hby at_280) rfl ((if0 _ _).trans (feq ((by decide) : ¬ ((1 : Int32) = (0 : Int32)))).1)) ?_
  show Go _ _ _ _ (T23.setTop (mkF m_ 283 #[.val (.int i0), .val (.int i1), .val (.int i2), .val (.ref x), .val (.ref y), .val (.int m5), .val v6, .val (.int e7), .val (.ref c), .val (.int e9), .val (.ref d), .val (.int (2 : Int32)), .val (.int (1 : Int32))] []))
  refine Go.st (fun _ => XS.iconst W23.here W23.ex rfl (hb hby at_283)) ?_
  refine Go.st (fun _ => XS.goto W23.here W23.ex rfl (pc0 := 284) (pc' := 288) rfl (hb hby at_284) (by decide) (by decide)) ?_
  show Go _ _ _ _ (T23.setTop (mkF m_ 288 #[.val (.int i0), .val (.int i1), .val (.int i2), .val (.ref x), .val (.ref y), .val (.int m5), .val v6, .val (.int e7), .val (.ref c), .val (.int e9), .val (.ref d), .val (.int (2 : Int32)), .val (.int (1 : Int32))] [(.int (1 : Int32))]))
  exact W23.retN hret (by simp) (hb hby at_288) (by decide) (by decide) fun vr_ cr_ => rfl
theorem law_q3 {l : Launch} {Z a0 n0 g1 gf em es} (cx : Ctx Z a0 n0 g1 gf em es) {p_ : Program} {e_ : Env} {s_ : State} {m_ : MethodId} {ar_ : Array Value} {bl_ : List Frame} {mt_ : Method} {c_ : Code} {vm0 : Vm} {T0 : State} {h : Heap} {L0 : List Loc} (i0 i1 i2 m5 e7 e9 : Int32) (x tx y c d u fn : Addr) (v6 : Value) (c0 c1 c2 : Int32) (W0 : Wk p_ l e_ room_1 s_ m_ ar_ bl_ mt_ c_ Z a0 consts_1 n0 "com/example/elegua/elegua/authorization/AccessRolePinLaw" vm0 T0 h L0 46 5000 []) (hby : c_.code = code) (hml : c_.maxLocals = 13) (hret : mt_.sig.returnType = (some .boolean)) (hnm : mt_.name = "law") (heq : e9 = e7) (E_c : Exa Z h c "com/example/elegua/elegua/authorization/Access") (F_description_c : Fld Z h c "com/example/elegua/elegua/authorization/Access" "description" "Ljava/lang/String;" (.ref d)) (F_test_c : Fld Z h c "com/example/elegua/elegua/authorization/Access" "test" "Ljava/util/function/Predicate;" (.ref fn)) (S_x : StrAt Z h x tx ([c0, c1, c2] : List Int32)) (S_d : StrAt Z h d u ([114, 111, 108, 101, 32, c0, c1, c2] : List Int32)) :
    Go p_ e_ bl_ (Pst Z consts_1 n0 s_ room_1.cells room_1.slots (fun v _ _ => v = some (.int 1))) (T0.setTop (mkF m_ 122 #[.val (.int i0), .val (.int i1), .val (.int i2), .val (.ref x), .val (.ref y), .val (.int m5), .val v6, .val (.int e7), .val (.ref c), .val (.int e9), .unset, .unset, .unset] [])) := by
  refine Go.st (fun _ => XS.aload W0.here W0.ex rfl (hb hby at_122) rfl rfl) ?_
  show Go _ _ _ _ (T0.setTop (mkF m_ 124 #[.val (.int i0), .val (.int i1), .val (.int i2), .val (.ref x), .val (.ref y), .val (.int m5), .val v6, .val (.int e7), .val (.ref c), .val (.int e9), .unset, .unset, .unset] [(.ref c)]))
  refine W0.callV (y := Y4) (z := Y4) (cx.w 255 rfl) (cx.w 256 rfl) (cx.w 258 rfl) (cx.w 257 rfl) (cx.w 95 rfl) (cx.w 259 rfl) (W0.nf (cx.w 258 rfl)) (by decide) E_c (ct_tos cx W0.old c d fn E_c F_description_c F_test_c) all0 (by decide) (Wd := 0) (by decide) (k' := 46) (n' := 5000) rfl rfl (by decide) (by decide) (by rw [hml]; rfl) (a := c) (argsL := []) (rest := []) rfl (lenOf pd25 rfl) rfl (Nat.le_of_eq rfl) (hb hby at_124) ?_
  intro v1 vm1 T1 h1 L1 W1 q1
  obtain ⟨rfl, eh_⟩ := q1
  subst h1
  refine Go.st (fun _ => XS.astore W1.here W1.ex rfl (hb hby at_127) rfl rfl (l' := #[.val (.int i0), .val (.int i1), .val (.int i2), .val (.ref x), .val (.ref y), .val (.int m5), .val v6, .val (.int e7), .val (.ref c), .val (.int e9), .val (.ref d), .unset, .unset]) rfl) ?_
  refine Go.st (fun _ => XS.aloadN W1.here W1.ex rfl (hb hby at_129) rfl rfl) ?_
  show Go _ _ _ _ (T1.setTop (mkF m_ 130 #[.val (.int i0), .val (.int i1), .val (.int i2), .val (.ref x), .val (.ref y), .val (.int m5), .val v6, .val (.int e7), .val (.ref c), .val (.int e9), .val (.ref d), .unset, .unset] [(.ref x)]))
  obtain ⟨k1_2, V1_2⟩ := S_x.kb
  have E1_2 := S_x.E
  refine W1.libV (y := Y27) (z := Y27) (cx.w 260 rfl) (cx.w 131 rfl) (cx.w 133 rfl) (cx.w 132 rfl) (W1.nf (cx.w 133 rfl)) (by decide) E1_2 (Q := fun v h' L' => v = some (.int (Int32.ofNat (([c0, c1, c2] : List Int32)).length)) ∧ L' = [] ∧ h' = h) (ws := []) (Wd := 0) (ck := 0) (cn := 0) (StrChars.Road.lenW (W := 0) W1.hZ cx.lw (kI := 4) (cx.w 5 rfl) (cs := ([c0, c1, c2] : List Int32)) S_x.1 S_x.2.2.1 S_x.2.1 V1_2 (StrChars.Road.codOf rfl fun c hc => (S_x.ch c hc).2) S_x.ch.up (cx.cmp.ext W1.e0) cx.g1 S_x.le (by decide) (by decide)) (fun v h' L' q => ⟨by rw [q.2.1]; exact Fr.nil _, by rw [q.2.2]; exact Keep.refl _ _⟩) all0 all0 (k' := 46) (n' := 5000) rfl rfl (by decide) (by decide) (by rw [hml]; rfl) (a := x) (argsL := []) (rest := []) rfl (lenOf pd14 rfl) rfl (Nat.le_of_eq rfl) (hb hby at_130) ?_
  intro v3 T3 h3 M3 L3 W3 q3
  obtain ⟨rfl, -, eh_⟩ := q3
  subst h3
  refine Go.st (fun _ => XS.istore W3.here W3.ex rfl (hb hby at_133) rfl (l' := #[.val (.int i0), .val (.int i1), .val (.int i2), .val (.ref x), .val (.ref y), .val (.int m5), .val v6, .val (.int e7), .val (.ref c), .val (.int e9), .val (.ref d), .val (.int (3 : Int32)), .unset]) rfl) ?_
  refine Go.st (fun _ => XS.aload W3.here W3.ex rfl (hb hby at_135) rfl rfl) ?_
  show Go _ _ _ _ (T3.setTop (mkF m_ 137 #[.val (.int i0), .val (.int i1), .val (.int i2), .val (.ref x), .val (.ref y), .val (.int m5), .val v6, .val (.int e7), .val (.ref c), .val (.int e9), .val (.ref d), .val (.int (3 : Int32)), .unset] [(.ref d)]))
  obtain ⟨k1_4, V1_4⟩ := S_d.kb
  have E1_4 := S_d.E
  refine W3.libV (y := Y27) (z := Y27) (cx.w 260 rfl) (cx.w 131 rfl) (cx.w 133 rfl) (cx.w 132 rfl) (W3.nf (cx.w 133 rfl)) (by decide) E1_4 (Q := fun v h' L' => v = some (.int (Int32.ofNat (([114, 111, 108, 101, 32, c0, c1, c2] : List Int32)).length)) ∧ L' = [] ∧ h' = h) (ws := []) (Wd := 0) (ck := 0) (cn := 0) (StrChars.Road.lenW (W := 0) W3.hZ cx.lw (kI := 4) (cx.w 5 rfl) (cs := ([114, 111, 108, 101, 32, c0, c1, c2] : List Int32)) S_d.1 S_d.2.2.1 S_d.2.1 V1_4 (StrChars.Road.codOf rfl fun c hc => (S_d.ch c hc).2) S_d.ch.up (cx.cmp.ext W3.e0) cx.g1 S_d.le (by decide) (by decide)) (fun v h' L' q => ⟨by rw [q.2.1]; exact Fr.nil _, by rw [q.2.2]; exact Keep.refl _ _⟩) all0 all0 (k' := 46) (n' := 5000) rfl rfl (by decide) (by decide) (by rw [hml]; rfl) (a := d) (argsL := []) (rest := []) rfl (lenOf pd14 rfl) rfl (Nat.le_of_eq rfl) (hb hby at_137) ?_
  intro v5 T5 h5 M5 L5 W5 q5
  obtain ⟨rfl, -, eh_⟩ := q5
  subst h5
  refine Go.st (fun _ => XS.iconst W5.here W5.ex rfl (hb hby at_140)) ?_
  refine Go.st (fun _ => XS.iload W5.here W5.ex rfl (hb hby at_141) rfl) ?_
  refine Go.st (fun _ => XS.iadd W5.here W5.ex rfl (hb hby at_143) rfl) ?_
  show Go _ _ _ _ (T5.setTop (mkF m_ 144 #[.val (.int i0), .val (.int i1), .val (.int i2), .val (.ref x), .val (.ref y), .val (.int m5), .val v6, .val (.int e7), .val (.ref c), .val (.int e9), .val (.ref d), .val (.int (3 : Int32)), .unset] [(.int (8 : Int32)), (.int (8 : Int32))]))
  refine Go.st (fun _ => XS.icmpNo W5.here W5.ex rfl (hb hby at_144) rfl (teq (rfl : (8 : Int32) = (8 : Int32))).2) ?_
  refine Go.st (fun _ => XS.aload W5.here W5.ex rfl (hb hby at_147) rfl rfl) ?_
  refine Go.st (fun _ => XS.iconst W5.here W5.ex rfl (hb hby at_149)) ?_
  show Go _ _ _ _ (T5.setTop (mkF m_ 150 #[.val (.int i0), .val (.int i1), .val (.int i2), .val (.ref x), .val (.ref y), .val (.int m5), .val v6, .val (.int e7), .val (.ref c), .val (.int e9), .val (.ref d), .val (.int (3 : Int32)), .unset] [(.int (0 : Int32)), (.ref d)]))
  obtain ⟨k1_6, V1_6⟩ := S_d.kb
  refine W5.libV (y := Y23) (z := Y23) (cx.w 261 rfl) (cx.w 262 rfl) (cx.w 264 rfl) (cx.w 263 rfl) (W5.nf (cx.w 264 rfl)) (by decide) E1_4 (Q := fun v h' L' => v = some (.int ((([114, 111, 108, 101, 32, c0, c1, c2] : List Int32)).getD 0 0)) ∧ L' = [] ∧ h' = h) (ws := []) (Wd := 0) (ck := 0) (cn := 0) (StrChars.Road.chN (W := 0) W5.hZ cx.hw (kI := 4) (cx.w 5 rfl) (cs := ([114, 111, 108, 101, 32, c0, c1, c2] : List Int32)) S_d.1 S_d.2.2.1 S_d.2.1 V1_6 (StrChars.Road.codOf rfl fun c hc => (S_d.ch c hc).2) S_d.ch.up (cx.cmp.ext W5.e0) cx.g1 (cx.fmt.ext W5.e0) cx.fref S_d.le (i := 0) (Nat.le_of_ble_eq_true rfl) (j := 0) rfl (by decide) (by decide)) (fun v h' L' q => ⟨by rw [q.2.1]; exact Fr.nil _, by rw [q.2.2]; exact Keep.refl _ _⟩) all0 all0 (k' := 46) (n' := 5000) rfl rfl (by decide) (by decide) (by rw [hml]; rfl) (a := d) (argsL := [(.int (0 : Int32))]) (rest := []) rfl (lenOf pd27 rfl) rfl (Nat.le_of_eq rfl) (hb hby at_150) ?_
  intro v7 T7 h7 M7 L7 W7 q7
  obtain ⟨rfl, -, eh_⟩ := q7
  subst h7
  refine Go.st (fun _ => XS.bipush W7.here W7.ex rfl (hb hby at_153)) ?_
  refine Go.st (fun _ => XS.icmpNo W7.here W7.ex rfl (hb hby at_155) rfl (teq (rfl : (114 : Int32) = (114 : Int32))).2) ?_
  refine Go.st (fun _ => XS.aload W7.here W7.ex rfl (hb hby at_158) rfl rfl) ?_
  show Go _ _ _ _ (T7.setTop (mkF m_ 160 #[.val (.int i0), .val (.int i1), .val (.int i2), .val (.ref x), .val (.ref y), .val (.int m5), .val v6, .val (.int e7), .val (.ref c), .val (.int e9), .val (.ref d), .val (.int (3 : Int32)), .unset] [(.ref d)]))
  refine Go.st (fun _ => XS.iconst W7.here W7.ex rfl (hb hby at_160)) ?_
  show Go _ _ _ _ (T7.setTop (mkF m_ 161 #[.val (.int i0), .val (.int i1), .val (.int i2), .val (.ref x), .val (.ref y), .val (.int m5), .val v6, .val (.int e7), .val (.ref c), .val (.int e9), .val (.ref d), .val (.int (3 : Int32)), .unset] [(.int (1 : Int32)), (.ref d)]))
  obtain ⟨k1_8, V1_8⟩ := S_d.kb
  refine W7.libV (y := Y23) (z := Y23) (cx.w 261 rfl) (cx.w 262 rfl) (cx.w 264 rfl) (cx.w 263 rfl) (W7.nf (cx.w 264 rfl)) (by decide) E1_4 (Q := fun v h' L' => v = some (.int ((([114, 111, 108, 101, 32, c0, c1, c2] : List Int32)).getD 1 0)) ∧ L' = [] ∧ h' = h) (ws := []) (Wd := 0) (ck := 0) (cn := 0) (StrChars.Road.chN (W := 0) W7.hZ cx.hw (kI := 4) (cx.w 5 rfl) (cs := ([114, 111, 108, 101, 32, c0, c1, c2] : List Int32)) S_d.1 S_d.2.2.1 S_d.2.1 V1_8 (StrChars.Road.codOf rfl fun c hc => (S_d.ch c hc).2) S_d.ch.up (cx.cmp.ext W7.e0) cx.g1 (cx.fmt.ext W7.e0) cx.fref S_d.le (i := 1) (Nat.le_of_ble_eq_true rfl) (j := 1) rfl (by decide) (by decide)) (fun v h' L' q => ⟨by rw [q.2.1]; exact Fr.nil _, by rw [q.2.2]; exact Keep.refl _ _⟩) all0 all0 (k' := 46) (n' := 5000) rfl rfl (by decide) (by decide) (by rw [hml]; rfl) (a := d) (argsL := [(.int (1 : Int32))]) (rest := []) rfl (lenOf pd27 rfl) rfl (Nat.le_of_eq rfl) (hb hby at_161) ?_
  intro v9 T9 h9 M9 L9 W9 q9
  obtain ⟨rfl, -, eh_⟩ := q9
  subst h9
  refine Go.st (fun _ => XS.bipush W9.here W9.ex rfl (hb hby at_164)) ?_
  refine Go.st (fun _ => XS.icmpNo W9.here W9.ex rfl (hb hby at_166) rfl (teq (rfl : (111 : Int32) = (111 : Int32))).2) ?_
  refine Go.st (fun _ => XS.aload W9.here W9.ex rfl (hb hby at_169) rfl rfl) ?_
  show Go _ _ _ _ (T9.setTop (mkF m_ 171 #[.val (.int i0), .val (.int i1), .val (.int i2), .val (.ref x), .val (.ref y), .val (.int m5), .val v6, .val (.int e7), .val (.ref c), .val (.int e9), .val (.ref d), .val (.int (3 : Int32)), .unset] [(.ref d)]))
  refine Go.st (fun _ => XS.iconst W9.here W9.ex rfl (hb hby at_171)) ?_
  show Go _ _ _ _ (T9.setTop (mkF m_ 172 #[.val (.int i0), .val (.int i1), .val (.int i2), .val (.ref x), .val (.ref y), .val (.int m5), .val v6, .val (.int e7), .val (.ref c), .val (.int e9), .val (.ref d), .val (.int (3 : Int32)), .unset] [(.int (2 : Int32)), (.ref d)]))
  obtain ⟨k1_10, V1_10⟩ := S_d.kb
  refine W9.libV (y := Y23) (z := Y23) (cx.w 261 rfl) (cx.w 262 rfl) (cx.w 264 rfl) (cx.w 263 rfl) (W9.nf (cx.w 264 rfl)) (by decide) E1_4 (Q := fun v h' L' => v = some (.int ((([114, 111, 108, 101, 32, c0, c1, c2] : List Int32)).getD 2 0)) ∧ L' = [] ∧ h' = h) (ws := []) (Wd := 0) (ck := 0) (cn := 0) (StrChars.Road.chN (W := 0) W9.hZ cx.hw (kI := 4) (cx.w 5 rfl) (cs := ([114, 111, 108, 101, 32, c0, c1, c2] : List Int32)) S_d.1 S_d.2.2.1 S_d.2.1 V1_10 (StrChars.Road.codOf rfl fun c hc => (S_d.ch c hc).2) S_d.ch.up (cx.cmp.ext W9.e0) cx.g1 (cx.fmt.ext W9.e0) cx.fref S_d.le (i := 2) (Nat.le_of_ble_eq_true rfl) (j := 2) rfl (by decide) (by decide)) (fun v h' L' q => ⟨by rw [q.2.1]; exact Fr.nil _, by rw [q.2.2]; exact Keep.refl _ _⟩) all0 all0 (k' := 46) (n' := 5000) rfl rfl (by decide) (by decide) (by rw [hml]; rfl) (a := d) (argsL := [(.int (2 : Int32))]) (rest := []) rfl (lenOf pd27 rfl) rfl (Nat.le_of_eq rfl) (hb hby at_172) ?_
  intro v11 T11 h11 M11 L11 W11 q11
  obtain ⟨rfl, -, eh_⟩ := q11
  subst h11
  refine Go.st (fun _ => XS.bipush W11.here W11.ex rfl (hb hby at_175)) ?_
  refine Go.st (fun _ => XS.icmpNo W11.here W11.ex rfl (hb hby at_177) rfl (teq (rfl : (108 : Int32) = (108 : Int32))).2) ?_
  refine Go.st (fun _ => XS.aload W11.here W11.ex rfl (hb hby at_180) rfl rfl) ?_
  show Go _ _ _ _ (T11.setTop (mkF m_ 182 #[.val (.int i0), .val (.int i1), .val (.int i2), .val (.ref x), .val (.ref y), .val (.int m5), .val v6, .val (.int e7), .val (.ref c), .val (.int e9), .val (.ref d), .val (.int (3 : Int32)), .unset] [(.ref d)]))
  refine Go.st (fun _ => XS.iconst W11.here W11.ex rfl (hb hby at_182)) ?_
  show Go _ _ _ _ (T11.setTop (mkF m_ 183 #[.val (.int i0), .val (.int i1), .val (.int i2), .val (.ref x), .val (.ref y), .val (.int m5), .val v6, .val (.int e7), .val (.ref c), .val (.int e9), .val (.ref d), .val (.int (3 : Int32)), .unset] [(.int (3 : Int32)), (.ref d)]))
  obtain ⟨k1_12, V1_12⟩ := S_d.kb
  refine W11.libV (y := Y23) (z := Y23) (cx.w 261 rfl) (cx.w 262 rfl) (cx.w 264 rfl) (cx.w 263 rfl) (W11.nf (cx.w 264 rfl)) (by decide) E1_4 (Q := fun v h' L' => v = some (.int ((([114, 111, 108, 101, 32, c0, c1, c2] : List Int32)).getD 3 0)) ∧ L' = [] ∧ h' = h) (ws := []) (Wd := 0) (ck := 0) (cn := 0) (StrChars.Road.chN (W := 0) W11.hZ cx.hw (kI := 4) (cx.w 5 rfl) (cs := ([114, 111, 108, 101, 32, c0, c1, c2] : List Int32)) S_d.1 S_d.2.2.1 S_d.2.1 V1_12 (StrChars.Road.codOf rfl fun c hc => (S_d.ch c hc).2) S_d.ch.up (cx.cmp.ext W11.e0) cx.g1 (cx.fmt.ext W11.e0) cx.fref S_d.le (i := 3) (Nat.le_of_ble_eq_true rfl) (j := 3) rfl (by decide) (by decide)) (fun v h' L' q => ⟨by rw [q.2.1]; exact Fr.nil _, by rw [q.2.2]; exact Keep.refl _ _⟩) all0 all0 (k' := 46) (n' := 5000) rfl rfl (by decide) (by decide) (by rw [hml]; rfl) (a := d) (argsL := [(.int (3 : Int32))]) (rest := []) rfl (lenOf pd27 rfl) rfl (Nat.le_of_eq rfl) (hb hby at_183) ?_
  intro v13 T13 h13 M13 L13 W13 q13
  obtain ⟨rfl, -, eh_⟩ := q13
  subst h13
  refine Go.st (fun _ => XS.bipush W13.here W13.ex rfl (hb hby at_186)) ?_
  refine Go.st (fun _ => XS.icmpNo W13.here W13.ex rfl (hb hby at_188) rfl (teq (rfl : (101 : Int32) = (101 : Int32))).2) ?_
  refine Go.st (fun _ => XS.aload W13.here W13.ex rfl (hb hby at_191) rfl rfl) ?_
  show Go _ _ _ _ (T13.setTop (mkF m_ 193 #[.val (.int i0), .val (.int i1), .val (.int i2), .val (.ref x), .val (.ref y), .val (.int m5), .val v6, .val (.int e7), .val (.ref c), .val (.int e9), .val (.ref d), .val (.int (3 : Int32)), .unset] [(.ref d)]))
  refine Go.st (fun _ => XS.iconst W13.here W13.ex rfl (hb hby at_193)) ?_
  show Go _ _ _ _ (T13.setTop (mkF m_ 194 #[.val (.int i0), .val (.int i1), .val (.int i2), .val (.ref x), .val (.ref y), .val (.int m5), .val v6, .val (.int e7), .val (.ref c), .val (.int e9), .val (.ref d), .val (.int (3 : Int32)), .unset] [(.int (4 : Int32)), (.ref d)]))
  obtain ⟨k1_14, V1_14⟩ := S_d.kb
  refine W13.libV (y := Y23) (z := Y23) (cx.w 261 rfl) (cx.w 262 rfl) (cx.w 264 rfl) (cx.w 263 rfl) (W13.nf (cx.w 264 rfl)) (by decide) E1_4 (Q := fun v h' L' => v = some (.int ((([114, 111, 108, 101, 32, c0, c1, c2] : List Int32)).getD 4 0)) ∧ L' = [] ∧ h' = h) (ws := []) (Wd := 0) (ck := 0) (cn := 0) (StrChars.Road.chN (W := 0) W13.hZ cx.hw (kI := 4) (cx.w 5 rfl) (cs := ([114, 111, 108, 101, 32, c0, c1, c2] : List Int32)) S_d.1 S_d.2.2.1 S_d.2.1 V1_14 (StrChars.Road.codOf rfl fun c hc => (S_d.ch c hc).2) S_d.ch.up (cx.cmp.ext W13.e0) cx.g1 (cx.fmt.ext W13.e0) cx.fref S_d.le (i := 4) (Nat.le_of_ble_eq_true rfl) (j := 4) rfl (by decide) (by decide)) (fun v h' L' q => ⟨by rw [q.2.1]; exact Fr.nil _, by rw [q.2.2]; exact Keep.refl _ _⟩) all0 all0 (k' := 46) (n' := 5000) rfl rfl (by decide) (by decide) (by rw [hml]; rfl) (a := d) (argsL := [(.int (4 : Int32))]) (rest := []) rfl (lenOf pd27 rfl) rfl (Nat.le_of_eq rfl) (hb hby at_194) ?_
  intro v15 T15 h15 M15 L15 W15 q15
  obtain ⟨rfl, -, eh_⟩ := q15
  subst h15
  refine Go.st (fun _ => XS.bipush W15.here W15.ex rfl (hb hby at_197)) ?_
  refine Go.st (fun _ => XS.icmpNo W15.here W15.ex rfl (hb hby at_199) rfl (teq (rfl : (32 : Int32) = (32 : Int32))).2) ?_
  refine Go.st (fun _ => XS.iload W15.here W15.ex rfl (hb hby at_202) rfl) ?_
  show Go _ _ _ _ (T15.setTop (mkF m_ 204 #[.val (.int i0), .val (.int i1), .val (.int i2), .val (.ref x), .val (.ref y), .val (.int m5), .val v6, .val (.int e7), .val (.ref c), .val (.int e9), .val (.ref d), .val (.int (3 : Int32)), .unset] [(.int (3 : Int32))]))
  refine Go.st (fun _ => XS.iconst W15.here W15.ex rfl (hb hby at_204)) ?_
  refine Go.st (fun _ => XS.icmpNo W15.here W15.ex rfl (hb hby at_205) rfl (flt ((by decide) : ¬ ((3 : Int32) < (1 : Int32)))).1) ?_
  refine Go.st (fun _ => XS.aload W15.here W15.ex rfl (hb hby at_208) rfl rfl) ?_
  show Go _ _ _ _ (T15.setTop (mkF m_ 210 #[.val (.int i0), .val (.int i1), .val (.int i2), .val (.ref x), .val (.ref y), .val (.int m5), .val v6, .val (.int e7), .val (.ref c), .val (.int e9), .val (.ref d), .val (.int (3 : Int32)), .unset] [(.ref d)]))
  refine Go.st (fun _ => XS.iconst W15.here W15.ex rfl (hb hby at_210)) ?_
  show Go _ _ _ _ (T15.setTop (mkF m_ 211 #[.val (.int i0), .val (.int i1), .val (.int i2), .val (.ref x), .val (.ref y), .val (.int m5), .val v6, .val (.int e7), .val (.ref c), .val (.int e9), .val (.ref d), .val (.int (3 : Int32)), .unset] [(.int (5 : Int32)), (.ref d)]))
  obtain ⟨k1_16, V1_16⟩ := S_d.kb
  refine W15.libV (y := Y23) (z := Y23) (cx.w 261 rfl) (cx.w 262 rfl) (cx.w 264 rfl) (cx.w 263 rfl) (W15.nf (cx.w 264 rfl)) (by decide) E1_4 (Q := fun v h' L' => v = some (.int ((([114, 111, 108, 101, 32, c0, c1, c2] : List Int32)).getD 5 0)) ∧ L' = [] ∧ h' = h) (ws := []) (Wd := 0) (ck := 0) (cn := 0) (StrChars.Road.chN (W := 0) W15.hZ cx.hw (kI := 4) (cx.w 5 rfl) (cs := ([114, 111, 108, 101, 32, c0, c1, c2] : List Int32)) S_d.1 S_d.2.2.1 S_d.2.1 V1_16 (StrChars.Road.codOf rfl fun c hc => (S_d.ch c hc).2) S_d.ch.up (cx.cmp.ext W15.e0) cx.g1 (cx.fmt.ext W15.e0) cx.fref S_d.le (i := 5) (Nat.le_of_ble_eq_true rfl) (j := 5) rfl (by decide) (by decide)) (fun v h' L' q => ⟨by rw [q.2.1]; exact Fr.nil _, by rw [q.2.2]; exact Keep.refl _ _⟩) all0 all0 (k' := 46) (n' := 5000) rfl rfl (by decide) (by decide) (by rw [hml]; rfl) (a := d) (argsL := [(.int (5 : Int32))]) (rest := []) rfl (lenOf pd27 rfl) rfl (Nat.le_of_eq rfl) (hb hby at_211) ?_
  intro v17 T17 h17 M17 L17 W17 q17
  obtain ⟨rfl, -, eh_⟩ := q17
  subst h17
  refine Go.st (fun _ => XS.aloadN W17.here W17.ex rfl (hb hby at_214) rfl rfl) ?_
  refine Go.st (fun _ => XS.iconst W17.here W17.ex rfl (hb hby at_215)) ?_
  show Go _ _ _ _ (T17.setTop (mkF m_ 216 #[.val (.int i0), .val (.int i1), .val (.int i2), .val (.ref x), .val (.ref y), .val (.int m5), .val v6, .val (.int e7), .val (.ref c), .val (.int e9), .val (.ref d), .val (.int (3 : Int32)), .unset] [(.int (0 : Int32)), (.ref x), (.int c0)]))
  obtain ⟨k1_18, V1_18⟩ := S_x.kb
  refine W17.libV (y := Y23) (z := Y23) (cx.w 261 rfl) (cx.w 262 rfl) (cx.w 264 rfl) (cx.w 263 rfl) (W17.nf (cx.w 264 rfl)) (by decide) E1_2 (Q := fun v h' L' => v = some (.int ((([c0, c1, c2] : List Int32)).getD 0 0)) ∧ L' = [] ∧ h' = h) (ws := []) (Wd := 1) (ck := 0) (cn := 0) (StrChars.Road.chN (W := 1) W17.hZ cx.hw (kI := 4) (cx.w 5 rfl) (cs := ([c0, c1, c2] : List Int32)) S_x.1 S_x.2.2.1 S_x.2.1 V1_18 (StrChars.Road.codOf rfl fun c hc => (S_x.ch c hc).2) S_x.ch.up (cx.cmp.ext W17.e0) cx.g1 (cx.fmt.ext W17.e0) cx.fref S_x.le (i := 0) (Nat.le_of_ble_eq_true rfl) (j := 0) rfl (by decide) (by decide)) (fun v h' L' q => ⟨by rw [q.2.1]; exact Fr.nil _, by rw [q.2.2]; exact Keep.refl _ _⟩) all0 all0 (k' := 46) (n' := 5000) rfl rfl (by decide) (by decide) (by rw [hml]; rfl) (a := x) (argsL := [(.int (0 : Int32))]) (rest := [(.int c0)]) rfl (lenOf pd27 rfl) rfl (Nat.le_of_eq rfl) (hb hby at_216) ?_
  intro v19 T19 h19 M19 L19 W19 q19
  obtain ⟨rfl, -, eh_⟩ := q19
  subst h19
  refine Go.st (fun _ => XS.icmpNo W19.here W19.ex rfl (hb hby at_219) rfl (teq (rfl : c0 = c0)).2) ?_
  refine Go.st (fun _ => XS.iload W19.here W19.ex rfl (hb hby at_222) rfl) ?_
  refine Go.st (fun _ => XS.iconst W19.here W19.ex rfl (hb hby at_224)) ?_
  show Go _ _ _ _ (T19.setTop (mkF m_ 225 #[.val (.int i0), .val (.int i1), .val (.int i2), .val (.ref x), .val (.ref y), .val (.int m5), .val v6, .val (.int e7), .val (.ref c), .val (.int e9), .val (.ref d), .val (.int (3 : Int32)), .unset] [(.int (2 : Int32)), (.int (3 : Int32))]))
  refine Go.st (fun _ => XS.icmpNo W19.here W19.ex rfl (hb hby at_225) rfl (flt ((by decide) : ¬ ((3 : Int32) < (2 : Int32)))).1) ?_
  refine Go.st (fun _ => XS.aload W19.here W19.ex rfl (hb hby at_228) rfl rfl) ?_
  refine Go.st (fun _ => XS.bipush W19.here W19.ex rfl (hb hby at_230)) ?_
  show Go _ _ _ _ (T19.setTop (mkF m_ 232 #[.val (.int i0), .val (.int i1), .val (.int i2), .val (.ref x), .val (.ref y), .val (.int m5), .val v6, .val (.int e7), .val (.ref c), .val (.int e9), .val (.ref d), .val (.int (3 : Int32)), .unset] [(.int (6 : Int32)), (.ref d)]))
  obtain ⟨k1_20, V1_20⟩ := S_d.kb
  refine W19.libV (y := Y23) (z := Y23) (cx.w 261 rfl) (cx.w 262 rfl) (cx.w 264 rfl) (cx.w 263 rfl) (W19.nf (cx.w 264 rfl)) (by decide) E1_4 (Q := fun v h' L' => v = some (.int ((([114, 111, 108, 101, 32, c0, c1, c2] : List Int32)).getD 6 0)) ∧ L' = [] ∧ h' = h) (ws := []) (Wd := 0) (ck := 0) (cn := 0) (StrChars.Road.chN (W := 0) W19.hZ cx.hw (kI := 4) (cx.w 5 rfl) (cs := ([114, 111, 108, 101, 32, c0, c1, c2] : List Int32)) S_d.1 S_d.2.2.1 S_d.2.1 V1_20 (StrChars.Road.codOf rfl fun c hc => (S_d.ch c hc).2) S_d.ch.up (cx.cmp.ext W19.e0) cx.g1 (cx.fmt.ext W19.e0) cx.fref S_d.le (i := 6) (Nat.le_of_ble_eq_true rfl) (j := 6) rfl (by decide) (by decide)) (fun v h' L' q => ⟨by rw [q.2.1]; exact Fr.nil _, by rw [q.2.2]; exact Keep.refl _ _⟩) all0 all0 (k' := 46) (n' := 5000) rfl rfl (by decide) (by decide) (by rw [hml]; rfl) (a := d) (argsL := [(.int (6 : Int32))]) (rest := []) rfl (lenOf pd27 rfl) rfl (Nat.le_of_eq rfl) (hb hby at_232) ?_
  intro v21 T21 h21 M21 L21 W21 q21
  obtain ⟨rfl, -, eh_⟩ := q21
  subst h21
  refine Go.st (fun _ => XS.aloadN W21.here W21.ex rfl (hb hby at_235) rfl rfl) ?_
  refine Go.st (fun _ => XS.iconst W21.here W21.ex rfl (hb hby at_236)) ?_
  show Go _ _ _ _ (T21.setTop (mkF m_ 237 #[.val (.int i0), .val (.int i1), .val (.int i2), .val (.ref x), .val (.ref y), .val (.int m5), .val v6, .val (.int e7), .val (.ref c), .val (.int e9), .val (.ref d), .val (.int (3 : Int32)), .unset] [(.int (1 : Int32)), (.ref x), (.int c1)]))
  obtain ⟨k1_22, V1_22⟩ := S_x.kb
  refine W21.libV (y := Y23) (z := Y23) (cx.w 261 rfl) (cx.w 262 rfl) (cx.w 264 rfl) (cx.w 263 rfl) (W21.nf (cx.w 264 rfl)) (by decide) E1_2 (Q := fun v h' L' => v = some (.int ((([c0, c1, c2] : List Int32)).getD 1 0)) ∧ L' = [] ∧ h' = h) (ws := []) (Wd := 1) (ck := 0) (cn := 0) (StrChars.Road.chN (W := 1) W21.hZ cx.hw (kI := 4) (cx.w 5 rfl) (cs := ([c0, c1, c2] : List Int32)) S_x.1 S_x.2.2.1 S_x.2.1 V1_22 (StrChars.Road.codOf rfl fun c hc => (S_x.ch c hc).2) S_x.ch.up (cx.cmp.ext W21.e0) cx.g1 (cx.fmt.ext W21.e0) cx.fref S_x.le (i := 1) (Nat.le_of_ble_eq_true rfl) (j := 1) rfl (by decide) (by decide)) (fun v h' L' q => ⟨by rw [q.2.1]; exact Fr.nil _, by rw [q.2.2]; exact Keep.refl _ _⟩) all0 all0 (k' := 46) (n' := 5000) rfl rfl (by decide) (by decide) (by rw [hml]; rfl) (a := x) (argsL := [(.int (1 : Int32))]) (rest := [(.int c1)]) rfl (lenOf pd27 rfl) rfl (Nat.le_of_eq rfl) (hb hby at_237) ?_
  intro v23 T23 h23 M23 L23 W23 q23
  obtain ⟨rfl, -, eh_⟩ := q23
  subst h23
  refine Go.st (fun _ => XS.icmpNo W23.here W23.ex rfl (hb hby at_240) rfl (teq (rfl : c1 = c1)).2) ?_
  refine Go.st (fun _ => XS.iload W23.here W23.ex rfl (hb hby at_243) rfl) ?_
  refine Go.st (fun _ => XS.iconst W23.here W23.ex rfl (hb hby at_245)) ?_
  show Go _ _ _ _ (T23.setTop (mkF m_ 246 #[.val (.int i0), .val (.int i1), .val (.int i2), .val (.ref x), .val (.ref y), .val (.int m5), .val v6, .val (.int e7), .val (.ref c), .val (.int e9), .val (.ref d), .val (.int (3 : Int32)), .unset] [(.int (3 : Int32)), (.int (3 : Int32))]))
  refine Go.st (fun _ => XS.icmpNo W23.here W23.ex rfl (hb hby at_246) rfl (flt ((by decide) : ¬ ((3 : Int32) < (3 : Int32)))).1) ?_
  refine Go.st (fun _ => XS.aload W23.here W23.ex rfl (hb hby at_249) rfl rfl) ?_
  refine Go.st (fun _ => XS.bipush W23.here W23.ex rfl (hb hby at_251)) ?_
  show Go _ _ _ _ (T23.setTop (mkF m_ 253 #[.val (.int i0), .val (.int i1), .val (.int i2), .val (.ref x), .val (.ref y), .val (.int m5), .val v6, .val (.int e7), .val (.ref c), .val (.int e9), .val (.ref d), .val (.int (3 : Int32)), .unset] [(.int (7 : Int32)), (.ref d)]))
  obtain ⟨k1_24, V1_24⟩ := S_d.kb
  refine W23.libV (y := Y23) (z := Y23) (cx.w 261 rfl) (cx.w 262 rfl) (cx.w 264 rfl) (cx.w 263 rfl) (W23.nf (cx.w 264 rfl)) (by decide) E1_4 (Q := fun v h' L' => v = some (.int ((([114, 111, 108, 101, 32, c0, c1, c2] : List Int32)).getD 7 0)) ∧ L' = [] ∧ h' = h) (ws := []) (Wd := 0) (ck := 0) (cn := 0) (StrChars.Road.chN (W := 0) W23.hZ cx.hw (kI := 4) (cx.w 5 rfl) (cs := ([114, 111, 108, 101, 32, c0, c1, c2] : List Int32)) S_d.1 S_d.2.2.1 S_d.2.1 V1_24 (StrChars.Road.codOf rfl fun c hc => (S_d.ch c hc).2) S_d.ch.up (cx.cmp.ext W23.e0) cx.g1 (cx.fmt.ext W23.e0) cx.fref S_d.le (i := 7) (Nat.le_of_ble_eq_true rfl) (j := 7) rfl (by decide) (by decide)) (fun v h' L' q => ⟨by rw [q.2.1]; exact Fr.nil _, by rw [q.2.2]; exact Keep.refl _ _⟩) all0 all0 (k' := 46) (n' := 5000) rfl rfl (by decide) (by decide) (by rw [hml]; rfl) (a := d) (argsL := [(.int (7 : Int32))]) (rest := []) rfl (lenOf pd27 rfl) rfl (Nat.le_of_eq rfl) (hb hby at_253) ?_
  intro v25 T25 h25 M25 L25 W25 q25
  obtain ⟨rfl, -, eh_⟩ := q25
  subst h25
  refine Go.st (fun _ => XS.aloadN W25.here W25.ex rfl (hb hby at_256) rfl rfl) ?_
  refine Go.st (fun _ => XS.iconst W25.here W25.ex rfl (hb hby at_257)) ?_
  show Go _ _ _ _ (T25.setTop (mkF m_ 258 #[.val (.int i0), .val (.int i1), .val (.int i2), .val (.ref x), .val (.ref y), .val (.int m5), .val v6, .val (.int e7), .val (.ref c), .val (.int e9), .val (.ref d), .val (.int (3 : Int32)), .unset] [(.int (2 : Int32)), (.ref x), (.int c2)]))
  obtain ⟨k1_26, V1_26⟩ := S_x.kb
  refine W25.libV (y := Y23) (z := Y23) (cx.w 261 rfl) (cx.w 262 rfl) (cx.w 264 rfl) (cx.w 263 rfl) (W25.nf (cx.w 264 rfl)) (by decide) E1_2 (Q := fun v h' L' => v = some (.int ((([c0, c1, c2] : List Int32)).getD 2 0)) ∧ L' = [] ∧ h' = h) (ws := []) (Wd := 1) (ck := 0) (cn := 0) (StrChars.Road.chN (W := 1) W25.hZ cx.hw (kI := 4) (cx.w 5 rfl) (cs := ([c0, c1, c2] : List Int32)) S_x.1 S_x.2.2.1 S_x.2.1 V1_26 (StrChars.Road.codOf rfl fun c hc => (S_x.ch c hc).2) S_x.ch.up (cx.cmp.ext W25.e0) cx.g1 (cx.fmt.ext W25.e0) cx.fref S_x.le (i := 2) (Nat.le_of_ble_eq_true rfl) (j := 2) rfl (by decide) (by decide)) (fun v h' L' q => ⟨by rw [q.2.1]; exact Fr.nil _, by rw [q.2.2]; exact Keep.refl _ _⟩) all0 all0 (k' := 46) (n' := 5000) rfl rfl (by decide) (by decide) (by rw [hml]; rfl) (a := x) (argsL := [(.int (2 : Int32))]) (rest := [(.int c2)]) rfl (lenOf pd27 rfl) rfl (Nat.le_of_eq rfl) (hb hby at_258) ?_
  intro v27 T27 h27 M27 L27 W27 q27
  obtain ⟨rfl, -, eh_⟩ := q27
  subst h27
  refine Go.st (fun _ => XS.icmpNo W27.here W27.ex rfl (hb hby at_261) rfl (teq (rfl : c2 = c2)).2) ?_
  refine Go.st (fun _ => XS.iconst W27.here W27.ex rfl (hb hby at_264)) ?_
  refine Go.st (fun _ => XS.goto W27.here W27.ex rfl (pc0 := 265) (pc' := 269) rfl (hb hby at_265) (by decide) (by decide)) ?_
  show Go _ _ _ _ (T27.setTop (mkF m_ 269 #[.val (.int i0), .val (.int i1), .val (.int i2), .val (.ref x), .val (.ref y), .val (.int m5), .val v6, .val (.int e7), .val (.ref c), .val (.int e9), .val (.ref d), .val (.int (3 : Int32)), .unset] [(.int (1 : Int32))]))
  refine Go.st (fun _ => XS.istore W27.here W27.ex rfl (hb hby at_269) rfl (l' := #[.val (.int i0), .val (.int i1), .val (.int i2), .val (.ref x), .val (.ref y), .val (.int m5), .val v6, .val (.int e7), .val (.ref c), .val (.int e9), .val (.ref d), .val (.int (3 : Int32)), .val (.int (1 : Int32))]) rfl) ?_
  refine Go.st (fun _ => XS.iload W27.here W27.ex rfl (hb hby at_271) rfl) ?_
  refine Go.st (fun _ => XS.iload W27.here W27.ex rfl (hb hby at_273) rfl) ?_
  show Go _ _ _ _ (T27.setTop (mkF m_ 275 #[.val (.int i0), .val (.int i1), .val (.int i2), .val (.ref x), .val (.ref y), .val (.int m5), .val v6, .val (.int e7), .val (.ref c), .val (.int e9), .val (.ref d), .val (.int (3 : Int32)), .val (.int (1 : Int32))] [(.int e7), (.int e9)]))
  refine Go.st (fun _ => XS.icmpNo W27.here W27.ex rfl (hb hby at_275) rfl (teq (heq : e9 = e7)).2) ?_
  refine Go.st (fun _ => XS.iload W27.here W27.ex rfl (hb hby at_278) rfl) ?_
  refine Go.st (fun _ => XS.ifNo W27.here W27.ex rfl (hb hby at_280) rfl ((if0 _ _).trans (feq ((by decide) : ¬ ((1 : Int32) = (0 : Int32)))).1)) ?_
  show Go _ _ _ _ (T27.setTop (mkF m_ 283 #[.val (.int i0), .val (.int i1), .val (.int i2), .val (.ref x), .val (.ref y), .val (.int m5), .val v6, .val (.int e7), .val (.ref c), .val (.int e9), .val (.ref d), .val (.int (3 : Int32)), .val (.int (1 : Int32))] []))
  refine Go.st (fun _ => XS.iconst W27.here W27.ex rfl (hb hby at_283)) ?_
  refine Go.st (fun _ => XS.goto W27.here W27.ex rfl (pc0 := 284) (pc' := 288) rfl (hb hby at_284) (by decide) (by decide)) ?_
  show Go _ _ _ _ (T27.setTop (mkF m_ 288 #[.val (.int i0), .val (.int i1), .val (.int i2), .val (.ref x), .val (.ref y), .val (.int m5), .val v6, .val (.int e7), .val (.ref c), .val (.int e9), .val (.ref d), .val (.int (3 : Int32)), .val (.int (1 : Int32))] [(.int (1 : Int32))]))
  exact W27.retN hret (by simp) (hb hby at_288) (by decide) (by decide) fun vr_ cr_ => rfl
theorem law_pA {l : Launch} {Z a0 n0 g1 gf em es} (cx : Ctx Z a0 n0 g1 gf em es) {p_ : Program} {e_ : Env} {s_ : State} {m_ : MethodId} {ar_ : Array Value} {bl_ : List Frame} {mt_ : Method} {c_ : Code} {vm0 : Vm} {T0 : State} {h : Heap} {L0 : List Loc} (i0 i1 i2 m5 : Int32) (x tx y : Addr) (cs : List Int32) (W0 : Wk p_ l e_ room_1 s_ m_ ar_ bl_ mt_ c_ Z a0 consts_1 n0 "com/example/elegua/elegua/authorization/AccessRolePinLaw" vm0 T0 h L0 36 4921 []) (hby : c_.code = code) (hml : c_.maxLocals = 13) (hret : mt_.sig.returnType = (some .boolean)) (hnm : mt_.name = "law") (hl : cs.length ≤ 3) (S_x : StrAt Z h x tx cs) :
    Go p_ e_ bl_ (Pst Z consts_1 n0 s_ room_1.cells room_1.slots (fun v _ _ => v = some (.int 1))) (T0.setTop (mkF m_ 107 #[.val (.int i0), .val (.int i1), .val (.int i2), .val (.ref x), .val (.ref y), .val (.int m5), .val .null, .val (.int (0 : Int32)), .unset, .unset, .unset, .unset, .unset] [])) := by
  refine Go.st (fun _ => XS.aloadN W0.here W0.ex rfl (hb hby at_107) rfl rfl) ?_
  show Go _ _ _ _ (T0.setTop (mkF m_ 108 #[.val (.int i0), .val (.int i1), .val (.int i2), .val (.ref x), .val (.ref y), .val (.int m5), .val .null, .val (.int (0 : Int32)), .unset, .unset, .unset, .unset, .unset] [(.ref x)]))
  refine W0.callS (y := Y3) (cx.w 93 rfl) (cx.w 94 rfl) (cx.w 95 rfl) (cx.w 96 rfl) (by decide) (ct_role cx W0.old x tx cs hl S_x) all0 (by decide) (Wd := 0) (by decide) (k' := 46) (n' := 5000) rfl rfl (by decide) (by decide) (by rw [hml]; rfl) (argsL := [(.ref x)]) (rest := []) rfl (lenOf pd28 rfl) rfl (Nat.le_of_eq rfl) (hb hby at_108) ?_
  intro v1 vm1 T1 h1 L1 W1 q1
  obtain ⟨c, d, u, fn, cK, rfl, K1, E_c, F_description_c, F_test_c, S_d, MD, N_fn⟩ := q1
  replace S_x := S_x.keep K1 nin0 nin0
  refine Go.st (fun _ => XS.astore W1.here W1.ex rfl (hb hby at_111) rfl rfl (l' := #[.val (.int i0), .val (.int i1), .val (.int i2), .val (.ref x), .val (.ref y), .val (.int m5), .val .null, .val (.int (0 : Int32)), .val (.ref c), .unset, .unset, .unset, .unset]) rfl) ?_
  refine Go.st (fun _ => XS.aload W1.here W1.ex rfl (hb hby at_113) rfl rfl) ?_
  refine Go.st (fun _ => XS.aload W1.here W1.ex rfl (hb hby at_115) rfl rfl) ?_
  show Go _ _ _ _ (T1.setTop (mkF m_ 117 #[.val (.int i0), .val (.int i1), .val (.int i2), .val (.ref x), .val (.ref y), .val (.int m5), .val .null, .val (.int (0 : Int32)), .val (.ref c), .unset, .unset, .unset, .unset] [.null, (.ref c)]))
  refine W1.callV (y := Y1) (z := Y1) (cx.w 225 rfl) (cx.w 226 rfl) (cx.w 228 rfl) (cx.w 227 rfl) (cx.w 95 rfl) (cx.w 229 rfl) (W1.nf (cx.w 228 rfl)) (by decide) E_c (ct_alA cx W1.old c d fn cK x E_c F_description_c F_test_c MD N_fn) all0 (by decide) (Wd := 0) (by decide) (k' := 46) (n' := 5000) rfl rfl (by decide) (by decide) (by rw [hml]; rfl) (a := c) (argsL := [.null]) (rest := []) rfl (lenOf pd29 rfl) rfl (Nat.le_of_eq rfl) (hb hby at_117) ?_
  intro v2 vm2 T2 h2 L2 W2 q2
  obtain ⟨rfl, eh_⟩ := q2
  subst h2
  refine Go.st (fun _ => XS.istore W2.here W2.ex rfl (hb hby at_120) rfl (l' := #[.val (.int i0), .val (.int i1), .val (.int i2), .val (.ref x), .val (.ref y), .val (.int m5), .val .null, .val (.int (0 : Int32)), .val (.ref c), .val (.int (0 : Int32)), .unset, .unset, .unset]) rfl) ?_
  show Go _ _ _ _ (T2.setTop (mkF m_ 122 #[.val (.int i0), .val (.int i1), .val (.int i2), .val (.ref x), .val (.ref y), .val (.int m5), .val .null, .val (.int (0 : Int32)), .val (.ref c), .val (.int (0 : Int32)), .unset, .unset, .unset] []))
  rcases own_list3 hl with rfl | ⟨c0, rfl⟩ | ⟨c0, c1, rfl⟩ | ⟨c0, c1, c2, rfl⟩
  · exact law_q0 cx i0 i1 i2 m5 (0 : Int32) (0 : Int32) x tx y c d u fn .null  (W2.meet (by decide) (by decide)) hby hml hret hnm rfl E_c F_description_c F_test_c S_x S_d
  · exact law_q1 cx i0 i1 i2 m5 (0 : Int32) (0 : Int32) x tx y c d u fn .null c0 (W2.meet (by decide) (by decide)) hby hml hret hnm rfl E_c F_description_c F_test_c S_x S_d
  · exact law_q2 cx i0 i1 i2 m5 (0 : Int32) (0 : Int32) x tx y c d u fn .null c0 c1 (W2.meet (by decide) (by decide)) hby hml hret hnm rfl E_c F_description_c F_test_c S_x S_d
  · exact law_q3 cx i0 i1 i2 m5 (0 : Int32) (0 : Int32) x tx y c d u fn .null c0 c1 c2 (W2.meet (by decide) (by decide)) hby hml hret hnm rfl E_c F_description_c F_test_c S_x S_d
theorem law_pB {l : Launch} {Z a0 n0 g1 gf em es} (cx : Ctx Z a0 n0 g1 gf em es) {p_ : Program} {e_ : Env} {s_ : State} {m_ : MethodId} {ar_ : Array Value} {bl_ : List Frame} {mt_ : Method} {c_ : Code} {vm0 : Vm} {T0 : State} {h : Heap} {L0 : List Loc} (i0 i1 i2 m5 : Int32) (x tx y : Addr) (cs : List Int32) (i nm : Addr) (W0 : Wk p_ l e_ room_1 s_ m_ ar_ bl_ mt_ c_ Z a0 consts_1 n0 "com/example/elegua/elegua/authorization/AccessRolePinLaw" vm0 T0 h L0 36 4921 []) (hby : c_.code = code) (hml : c_.maxLocals = 13) (hret : mt_.sig.returnType = (some .boolean)) (hnm : mt_.name = "law") (hl : cs.length ≤ 3) (S_x : StrAt Z h x tx cs) (E_i : Exa Z h i "com/example/elegua/elegua/context/Identity") (F_name_i : Fld Z h i "com/example/elegua/elegua/context/Identity" "name" "Ljava/lang/String;" (.ref nm)) (F_roles_i : Fld Z h i "com/example/elegua/elegua/context/Identity" "roles" "Ljava/util/Set;" (.ref es)) :
    Go p_ e_ bl_ (Pst Z consts_1 n0 s_ room_1.cells room_1.slots (fun v _ _ => v = some (.int 1))) (T0.setTop (mkF m_ 107 #[.val (.int i0), .val (.int i1), .val (.int i2), .val (.ref x), .val (.ref y), .val (.int m5), .val (.ref i), .val (.int (0 : Int32)), .unset, .unset, .unset, .unset, .unset] [])) := by
  refine Go.st (fun _ => XS.aloadN W0.here W0.ex rfl (hb hby at_107) rfl rfl) ?_
  show Go _ _ _ _ (T0.setTop (mkF m_ 108 #[.val (.int i0), .val (.int i1), .val (.int i2), .val (.ref x), .val (.ref y), .val (.int m5), .val (.ref i), .val (.int (0 : Int32)), .unset, .unset, .unset, .unset, .unset] [(.ref x)]))
  refine W0.callS (y := Y3) (cx.w 93 rfl) (cx.w 94 rfl) (cx.w 95 rfl) (cx.w 96 rfl) (by decide) (ct_role cx W0.old x tx cs hl S_x) all0 (by decide) (Wd := 0) (by decide) (k' := 46) (n' := 5000) rfl rfl (by decide) (by decide) (by rw [hml]; rfl) (argsL := [(.ref x)]) (rest := []) rfl (lenOf pd28 rfl) rfl (Nat.le_of_eq rfl) (hb hby at_108) ?_
  intro v1 vm1 T1 h1 L1 W1 q1
  obtain ⟨c, d, u, fn, cK, rfl, K1, E_c, F_description_c, F_test_c, S_d, MD, N_fn⟩ := q1
  replace S_x := S_x.keep K1 nin0 nin0
  replace E_i := E_i.keep K1
  replace F_name_i := F_name_i.keep K1 nin0
  replace F_roles_i := F_roles_i.keep K1 nin0
  refine Go.st (fun _ => XS.astore W1.here W1.ex rfl (hb hby at_111) rfl rfl (l' := #[.val (.int i0), .val (.int i1), .val (.int i2), .val (.ref x), .val (.ref y), .val (.int m5), .val (.ref i), .val (.int (0 : Int32)), .val (.ref c), .unset, .unset, .unset, .unset]) rfl) ?_
  refine Go.st (fun _ => XS.aload W1.here W1.ex rfl (hb hby at_113) rfl rfl) ?_
  refine Go.st (fun _ => XS.aload W1.here W1.ex rfl (hb hby at_115) rfl rfl) ?_
  show Go _ _ _ _ (T1.setTop (mkF m_ 117 #[.val (.int i0), .val (.int i1), .val (.int i2), .val (.ref x), .val (.ref y), .val (.int m5), .val (.ref i), .val (.int (0 : Int32)), .val (.ref c), .unset, .unset, .unset, .unset] [(.ref i), (.ref c)]))
  refine W1.callV (y := Y1) (z := Y1) (cx.w 225 rfl) (cx.w 226 rfl) (cx.w 228 rfl) (cx.w 227 rfl) (cx.w 95 rfl) (cx.w 229 rfl) (W1.nf (cx.w 228 rfl)) (by decide) E_c (ct_alB cx W1.old c d fn cK i nm x E_c F_description_c F_test_c MD N_fn E_i F_name_i F_roles_i) all0 (by decide) (Wd := 0) (by decide) (k' := 46) (n' := 5000) rfl rfl (by decide) (by decide) (by rw [hml]; rfl) (a := c) (argsL := [(.ref i)]) (rest := []) rfl (lenOf pd29 rfl) rfl (Nat.le_of_eq rfl) (hb hby at_117) ?_
  intro v2 vm2 T2 h2 L2 W2 q2
  obtain ⟨rfl, eh_⟩ := q2
  subst h2
  refine Go.st (fun _ => XS.istore W2.here W2.ex rfl (hb hby at_120) rfl (l' := #[.val (.int i0), .val (.int i1), .val (.int i2), .val (.ref x), .val (.ref y), .val (.int m5), .val (.ref i), .val (.int (0 : Int32)), .val (.ref c), .val (.int (0 : Int32)), .unset, .unset, .unset]) rfl) ?_
  show Go _ _ _ _ (T2.setTop (mkF m_ 122 #[.val (.int i0), .val (.int i1), .val (.int i2), .val (.ref x), .val (.ref y), .val (.int m5), .val (.ref i), .val (.int (0 : Int32)), .val (.ref c), .val (.int (0 : Int32)), .unset, .unset, .unset] []))
  rcases own_list3 hl with rfl | ⟨c0, rfl⟩ | ⟨c0, c1, rfl⟩ | ⟨c0, c1, c2, rfl⟩
  · exact law_q0 cx i0 i1 i2 m5 (0 : Int32) (0 : Int32) x tx y c d u fn (.ref i)  (W2.meet (by decide) (by decide)) hby hml hret hnm rfl E_c F_description_c F_test_c S_x S_d
  · exact law_q1 cx i0 i1 i2 m5 (0 : Int32) (0 : Int32) x tx y c d u fn (.ref i) c0 (W2.meet (by decide) (by decide)) hby hml hret hnm rfl E_c F_description_c F_test_c S_x S_d
  · exact law_q2 cx i0 i1 i2 m5 (0 : Int32) (0 : Int32) x tx y c d u fn (.ref i) c0 c1 (W2.meet (by decide) (by decide)) hby hml hret hnm rfl E_c F_description_c F_test_c S_x S_d
  · exact law_q3 cx i0 i1 i2 m5 (0 : Int32) (0 : Int32) x tx y c d u fn (.ref i) c0 c1 c2 (W2.meet (by decide) (by decide)) hby hml hret hnm rfl E_c F_description_c F_test_c S_x S_d
theorem law_pC {l : Launch} {Z a0 n0 g1 gf em es} (cx : Ctx Z a0 n0 g1 gf em es) {p_ : Program} {e_ : Env} {s_ : State} {m_ : MethodId} {ar_ : Array Value} {bl_ : List Frame} {mt_ : Method} {c_ : Code} {vm0 : Vm} {T0 : State} {h : Heap} {L0 : List Loc} (i0 i1 i2 m5 : Int32) (x tx y : Addr) (cs : List Int32) (i nm r o to : Addr) (ds : List Int32) (e7 : Int32) (W0 : Wk p_ l e_ room_1 s_ m_ ar_ bl_ mt_ c_ Z a0 consts_1 n0 "com/example/elegua/elegua/authorization/AccessRolePinLaw" vm0 T0 h L0 36 4921 []) (hby : c_.code = code) (hml : c_.maxLocals = 13) (hret : mt_.sig.returnType = (some .boolean)) (hnm : mt_.name = "law") (hl : cs.length ≤ 3) (E_i : Exa Z h i "com/example/elegua/elegua/context/Identity") (F_name_i : Fld Z h i "com/example/elegua/elegua/context/Identity" "name" "Ljava/lang/String;" (.ref nm)) (F_roles_i : Fld Z h i "com/example/elegua/elegua/context/Identity" "roles" "Ljava/util/Set;" (.ref r)) (E_r : Exa Z h r "java/util/ImmutableCollections$Set12") (F_e0_r : Fld Z h r "java/util/ImmutableCollections$Set12" "e0" "Ljava/lang/Object;" (.ref o)) (F_e1_r : Fld Z h r "java/util/ImmutableCollections$Set12" "e1" "Ljava/lang/Object;" (.ref em)) (S_x : StrAt Z h x tx cs) (S_o : StrAt Z h o to ds) (he7 : (e7 = 1 ∧ cs = ds) ∨ (e7 = 0 ∧ ¬ cs = ds)) :
    Go p_ e_ bl_ (Pst Z consts_1 n0 s_ room_1.cells room_1.slots (fun v _ _ => v = some (.int 1))) (T0.setTop (mkF m_ 107 #[.val (.int i0), .val (.int i1), .val (.int i2), .val (.ref x), .val (.ref y), .val (.int m5), .val (.ref i), .val (.int e7), .unset, .unset, .unset, .unset, .unset] [])) := by
  refine Go.st (fun _ => XS.aloadN W0.here W0.ex rfl (hb hby at_107) rfl rfl) ?_
  show Go _ _ _ _ (T0.setTop (mkF m_ 108 #[.val (.int i0), .val (.int i1), .val (.int i2), .val (.ref x), .val (.ref y), .val (.int m5), .val (.ref i), .val (.int e7), .unset, .unset, .unset, .unset, .unset] [(.ref x)]))
  refine W0.callS (y := Y3) (cx.w 93 rfl) (cx.w 94 rfl) (cx.w 95 rfl) (cx.w 96 rfl) (by decide) (ct_role cx W0.old x tx cs hl S_x) all0 (by decide) (Wd := 0) (by decide) (k' := 46) (n' := 5000) rfl rfl (by decide) (by decide) (by rw [hml]; rfl) (argsL := [(.ref x)]) (rest := []) rfl (lenOf pd28 rfl) rfl (Nat.le_of_eq rfl) (hb hby at_108) ?_
  intro v1 vm1 T1 h1 L1 W1 q1
  obtain ⟨c, d, u, fn, cK, rfl, K1, E_c, F_description_c, F_test_c, S_d, MD, N_fn⟩ := q1
  replace E_i := E_i.keep K1
  replace F_name_i := F_name_i.keep K1 nin0
  replace F_roles_i := F_roles_i.keep K1 nin0
  replace E_r := E_r.keep K1
  replace F_e0_r := F_e0_r.keep K1 nin0
  replace F_e1_r := F_e1_r.keep K1 nin0
  replace S_x := S_x.keep K1 nin0 nin0
  replace S_o := S_o.keep K1 nin0 nin0
  refine Go.st (fun _ => XS.astore W1.here W1.ex rfl (hb hby at_111) rfl rfl (l' := #[.val (.int i0), .val (.int i1), .val (.int i2), .val (.ref x), .val (.ref y), .val (.int m5), .val (.ref i), .val (.int e7), .val (.ref c), .unset, .unset, .unset, .unset]) rfl) ?_
  refine Go.st (fun _ => XS.aload W1.here W1.ex rfl (hb hby at_113) rfl rfl) ?_
  refine Go.st (fun _ => XS.aload W1.here W1.ex rfl (hb hby at_115) rfl rfl) ?_
  show Go _ _ _ _ (T1.setTop (mkF m_ 117 #[.val (.int i0), .val (.int i1), .val (.int i2), .val (.ref x), .val (.ref y), .val (.int m5), .val (.ref i), .val (.int e7), .val (.ref c), .unset, .unset, .unset, .unset] [(.ref i), (.ref c)]))
  refine W1.callV (y := Y1) (z := Y1) (cx.w 225 rfl) (cx.w 226 rfl) (cx.w 228 rfl) (cx.w 227 rfl) (cx.w 95 rfl) (cx.w 229 rfl) (W1.nf (cx.w 228 rfl)) (by decide) E_c (ct_alC cx W1.old c d fn cK i nm r x tx o to cs ds E_c F_description_c F_test_c MD N_fn E_i F_name_i F_roles_i E_r F_e0_r F_e1_r S_x S_o) all0 (by decide) (Wd := 0) (by decide) (k' := 46) (n' := 5000) rfl rfl (by decide) (by decide) (by rw [hml]; rfl) (a := c) (argsL := [(.ref i)]) (rest := []) rfl (lenOf pd29 rfl) rfl (Nat.le_of_eq rfl) (hb hby at_117) ?_
  intro v2 vm2 T2 h2 L2 W2 q2
  rcases q2 with ⟨⟨rfl, he⟩ | ⟨rfl, he⟩, eh_⟩
  · subst h2
    show Go _ _ _ _ (T2.setTop (mkF m_ 120 #[.val (.int i0), .val (.int i1), .val (.int i2), .val (.ref x), .val (.ref y), .val (.int m5), .val (.ref i), .val (.int e7), .val (.ref c), .unset, .unset, .unset, .unset] [(.int (1 : Int32))]))
    have hq : (1 : Int32) = e7 := by rcases he7 with ⟨e, -⟩ | ⟨-, e⟩ <;> first | exact e.symm | exact absurd he e
    refine Go.st (fun _ => XS.istore W2.here W2.ex rfl (hb hby at_120) rfl (l' := #[.val (.int i0), .val (.int i1), .val (.int i2), .val (.ref x), .val (.ref y), .val (.int m5), .val (.ref i), .val (.int e7), .val (.ref c), .val (.int (1 : Int32)), .unset, .unset, .unset]) rfl) ?_
    show Go _ _ _ _ (T2.setTop (mkF m_ 122 #[.val (.int i0), .val (.int i1), .val (.int i2), .val (.ref x), .val (.ref y), .val (.int m5), .val (.ref i), .val (.int e7), .val (.ref c), .val (.int (1 : Int32)), .unset, .unset, .unset] []))
    rcases own_list3 hl with rfl | ⟨c0, rfl⟩ | ⟨c0, c1, rfl⟩ | ⟨c0, c1, c2, rfl⟩
    · exact law_q0 cx i0 i1 i2 m5 e7 (1 : Int32) x tx y c d u fn (.ref i)  (W2.meet (by decide) (by decide)) hby hml hret hnm hq E_c F_description_c F_test_c S_x S_d
    · exact law_q1 cx i0 i1 i2 m5 e7 (1 : Int32) x tx y c d u fn (.ref i) c0 (W2.meet (by decide) (by decide)) hby hml hret hnm hq E_c F_description_c F_test_c S_x S_d
    · exact law_q2 cx i0 i1 i2 m5 e7 (1 : Int32) x tx y c d u fn (.ref i) c0 c1 (W2.meet (by decide) (by decide)) hby hml hret hnm hq E_c F_description_c F_test_c S_x S_d
    · exact law_q3 cx i0 i1 i2 m5 e7 (1 : Int32) x tx y c d u fn (.ref i) c0 c1 c2 (W2.meet (by decide) (by decide)) hby hml hret hnm hq E_c F_description_c F_test_c S_x S_d
  · subst h2
    show Go _ _ _ _ (T2.setTop (mkF m_ 120 #[.val (.int i0), .val (.int i1), .val (.int i2), .val (.ref x), .val (.ref y), .val (.int m5), .val (.ref i), .val (.int e7), .val (.ref c), .unset, .unset, .unset, .unset] [(.int (0 : Int32))]))
    have hq : (0 : Int32) = e7 := by rcases he7 with ⟨-, e⟩ | ⟨e, -⟩ <;> first | exact absurd e he | exact e.symm
    refine Go.st (fun _ => XS.istore W2.here W2.ex rfl (hb hby at_120) rfl (l' := #[.val (.int i0), .val (.int i1), .val (.int i2), .val (.ref x), .val (.ref y), .val (.int m5), .val (.ref i), .val (.int e7), .val (.ref c), .val (.int (0 : Int32)), .unset, .unset, .unset]) rfl) ?_
    show Go _ _ _ _ (T2.setTop (mkF m_ 122 #[.val (.int i0), .val (.int i1), .val (.int i2), .val (.ref x), .val (.ref y), .val (.int m5), .val (.ref i), .val (.int e7), .val (.ref c), .val (.int (0 : Int32)), .unset, .unset, .unset] []))
    rcases own_list3 hl with rfl | ⟨c0, rfl⟩ | ⟨c0, c1, rfl⟩ | ⟨c0, c1, c2, rfl⟩
    · exact law_q0 cx i0 i1 i2 m5 e7 (0 : Int32) x tx y c d u fn (.ref i)  (W2.meet (by decide) (by decide)) hby hml hret hnm hq E_c F_description_c F_test_c S_x S_d
    · exact law_q1 cx i0 i1 i2 m5 e7 (0 : Int32) x tx y c d u fn (.ref i) c0 (W2.meet (by decide) (by decide)) hby hml hret hnm hq E_c F_description_c F_test_c S_x S_d
    · exact law_q2 cx i0 i1 i2 m5 e7 (0 : Int32) x tx y c d u fn (.ref i) c0 c1 (W2.meet (by decide) (by decide)) hby hml hret hnm hq E_c F_description_c F_test_c S_x S_d
    · exact law_q3 cx i0 i1 i2 m5 e7 (0 : Int32) x tx y c d u fn (.ref i) c0 c1 c2 (W2.meet (by decide) (by decide)) hby hml hret hnm hq E_c F_description_c F_test_c S_x S_d
theorem ct_law {l : Launch} {Z a0 n0 g1 gf em es} (cx : Ctx Z a0 n0 g1 gf em es) {h : Heap} (O : Old Z n0 h) (i0 i1 i2 : Int32)  :
    Ct l Z consts_1 n0 tables_1 x code maxLocals ret room_1 #[(.int i0), (.int i1), (.int i2)] [] h (fun v _ _ => v = some (.int 1)) := by
  refine Ct.intro (plainFor_of_name pn1) O cx.ew ?_
  intro p_ e_ s_ m_ bl_ mt_ c_ T0 W0 hby hml hret hnm
  refine Go.st (fun t_ k_ => castTop (g' := mkF m_ 0 #[.val (.int i0), .val (.int i1), .val (.int i2), .unset, .unset, .unset, .unset, .unset, .unset, .unset, .unset, .unset, .unset] []) (by first | (simp [entryFrame, mkF, argsToLocals, Value.category, maxLocals]; done) | rfl) k_) ?_
  refine Go.st (fun _ => XS.iloadN W0.here W0.ex rfl (hb hby at_0) rfl) ?_
  show Go _ _ _ _ (T0.setTop (mkF m_ 1 #[.val (.int i0), .val (.int i1), .val (.int i2), .unset, .unset, .unset, .unset, .unset, .unset, .unset, .unset, .unset, .unset] [(.int i0)]))
  refine W0.callS (y := Y5) (cx.w 0 rfl) (cx.w 1 rfl) (cx.w 2 rfl) (cx.w 3 rfl) (by decide) (ct_mk cx W0.old i0) all0 (by decide) (Wd := 0) (by decide) (k' := 6) (n' := 12) rfl rfl (by decide) (by decide) (by rw [hml]; rfl) (argsL := [(.int i0)]) (rest := []) rfl (lenOf pd30 rfl) rfl (Nat.le_of_eq rfl) (hb hby at_1) ?_
  intro v1 vm1 T1 h1 L1 W1 q1
  obtain ⟨x, tx, cs, rfl, hz_x, g_x, K_x, S_x, hl0⟩ := q1
  refine Go.st (fun _ => XS.astoreN W1.here W1.ex rfl (hb hby at_4) rfl rfl (l' := #[.val (.int i0), .val (.int i1), .val (.int i2), .val (.ref x), .unset, .unset, .unset, .unset, .unset, .unset, .unset, .unset, .unset]) rfl) ?_
  refine Go.st (fun _ => XS.iloadN W1.here W1.ex rfl (hb hby at_5) rfl) ?_
  show Go _ _ _ _ (T1.setTop (mkF m_ 6 #[.val (.int i0), .val (.int i1), .val (.int i2), .val (.ref x), .unset, .unset, .unset, .unset, .unset, .unset, .unset, .unset, .unset] [(.int i1)]))
  refine W1.callS (y := Y5) (cx.w 0 rfl) (cx.w 1 rfl) (cx.w 2 rfl) (cx.w 3 rfl) (by decide) (ct_mk cx W1.old i1) all0 (by decide) (Wd := 0) (by decide) (k' := 12) (n' := 24) rfl rfl (by decide) (by decide) (by rw [hml]; rfl) (argsL := [(.int i1)]) (rest := []) rfl (lenOf pd30 rfl) rfl (Nat.le_of_eq rfl) (hb hby at_6) ?_
  intro v2 vm2 T2 h2 L2 W2 q2
  obtain ⟨y, ty, ds, rfl, hz_y, g_y, K_y, S_y, hl1⟩ := q2
  have ne_x_y : x ≠ y := Nat.ne_of_lt (Nat.lt_of_lt_of_le S_x.lt hz_y)
  have ne_tx_y : tx ≠ y := Nat.ne_of_lt (Nat.lt_of_lt_of_le S_x.ltt hz_y)
  replace S_x := S_x.keep K_y nin0 nin0
  refine Go.st (fun _ => XS.astore W2.here W2.ex rfl (hb hby at_9) rfl rfl (l' := #[.val (.int i0), .val (.int i1), .val (.int i2), .val (.ref x), .val (.ref y), .unset, .unset, .unset, .unset, .unset, .unset, .unset, .unset]) rfl) ?_
  refine Go.st (fun _ => XS.iloadN W2.here W2.ex rfl (hb hby at_11) rfl) ?_
  refine Go.st (fun _ => XS.iconst W2.here W2.ex rfl (hb hby at_12)) ?_
  show Go _ _ _ _ (T2.setTop (mkF m_ 13 #[.val (.int i0), .val (.int i1), .val (.int i2), .val (.ref x), .val (.ref y), .unset, .unset, .unset, .unset, .unset, .unset, .unset, .unset] [(.int (3 : Int32)), (.int i2)]))
  refine Go.st (fun _ => XS.iand W2.here W2.ex rfl (hb hby at_13) rfl) ?_
  show Go _ _ _ _ (T2.setTop (mkF m_ 14 #[.val (.int i0), .val (.int i1), .val (.int i2), .val (.ref x), .val (.ref y), .unset, .unset, .unset, .unset, .unset, .unset, .unset, .unset] [(.int (i2 &&& (3 : Int32)))]))
  rcases and3 i2 with ey | ey | ey | ey
  · rw [ey]
    refine Go.st (fun _ => XS.istore W2.here W2.ex rfl (hb hby at_14) rfl (l' := #[.val (.int i0), .val (.int i1), .val (.int i2), .val (.ref x), .val (.ref y), .val (.int (0 : Int32)), .unset, .unset, .unset, .unset, .unset, .unset, .unset]) rfl) ?_
    refine Go.st (fun _ => XS.iload W2.here W2.ex rfl (hb hby at_16) rfl) ?_
    refine Go.st (fun _ => XS.ifNo W2.here W2.ex rfl (hb hby at_18) rfl ((if0 _ _).trans (teq (rfl : (0 : Int32) = (0 : Int32))).2)) ?_
    show Go _ _ _ _ (T2.setTop (mkF m_ 21 #[.val (.int i0), .val (.int i1), .val (.int i2), .val (.ref x), .val (.ref y), .val (.int (0 : Int32)), .unset, .unset, .unset, .unset, .unset, .unset, .unset] []))
    refine W2.newO (cx.w 26 rfl) (cx.w 27 rfl) (cx.w 28 rfl) (hb hby at_21) (k' := 13) (n' := 26) rfl rfl (by decide) (by decide) ?_
    intro T3 h3 b3 hb3 g_b3 W3 E3 E_b3 D3
    have ne_x_b3 : x ≠ b3 := Nat.ne_of_lt (Nat.lt_of_lt_of_le S_x.lt (Nat.le_of_eq hb3.symm))
    have ne_tx_b3 : tx ≠ b3 := Nat.ne_of_lt (Nat.lt_of_lt_of_le S_x.ltt (Nat.le_of_eq hb3.symm))
    have ne_y_b3 : y ≠ b3 := Nat.ne_of_lt (Nat.lt_of_lt_of_le S_y.lt (Nat.le_of_eq hb3.symm))
    have ne_ty_b3 : ty ≠ b3 := Nat.ne_of_lt (Nat.lt_of_lt_of_le S_y.ltt (Nat.le_of_eq hb3.symm))
    replace S_x := S_x.ext E3
    replace S_y := S_y.ext E3
    have F_name_b3 : Fld Z h3 b3 "com/example/elegua/elegua/context/Identity" "name" "Ljava/lang/String;" .null := D3 (Or.inr (cx.w 90 rfl)) (ty := (.object "java/lang/String")) (by decide)
    have F_roles_b3 : Fld Z h3 b3 "com/example/elegua/elegua/context/Identity" "roles" "Ljava/util/Set;" .null := D3 (Or.inr (cx.w 92 rfl)) (ty := (.object "java/util/Set")) (by decide)
    refine Go.st (fun _ => XS.dup W3.here W3.ex rfl (hb hby at_24) rfl rfl) ?_
    show Go _ _ _ _ (T3.setTop (mkF m_ 25 #[.val (.int i0), .val (.int i1), .val (.int i2), .val (.ref x), .val (.ref y), .val (.int (0 : Int32)), .unset, .unset, .unset, .unset, .unset, .unset, .unset] [(.ref b3), (.ref b3)]))
    refine W3.ldc (cx.w 29 rfl) cx.str (EL := consts_1) (List.mem_of_getElem? (i := 2) rfl) (vs := (litV 29)) (z := 1) ⟨by decide, rfl⟩ (by decide) rfl (hb hby at_25) (j := 4) (by decide) (by decide) (k' := 15) (n' := 34) rfl rfl (by decide) (by decide) ?_
    intro vm4 T4 h4 a4 d4 kA_d4 W4 E4 E_a4 F_coder_a4 F_value_a4 V_d4 nl4
    replace S_x := S_x.ext E4
    replace S_y := S_y.ext E4
    replace E_b3 := E_b3.ext E4
    replace F_name_b3 := F_name_b3.ext E4
    replace F_roles_b3 := F_roles_b3.ext E4
    show Go _ _ _ _ (T4.setTop (mkF m_ 27 #[.val (.int i0), .val (.int i1), .val (.int i2), .val (.ref x), .val (.ref y), .val (.int (0 : Int32)), .unset, .unset, .unset, .unset, .unset, .unset, .unset] [(.ref a4), (.ref b3), (.ref b3)]))
    have E_es := cx.exes.ext W4.e0
    refine W4.callS (y := (⟨"java/util/Set", "of", "()Ljava/util/Set;"⟩ : MethodName)) (cx.w 302 rfl) (cx.w 303 rfl) (cx.w 32 rfl) (cx.w 304 rfl) (by decide) (ct_of0 cx W4.old ) all0 (by decide) (Wd := 3) (by decide) (k' := 15) (n' := 34) rfl rfl (by decide) (by decide) (by rw [hml]; rfl) (argsL := []) (rest := [(.ref a4), (.ref b3), (.ref b3)]) rfl (lenOf pd31 rfl) rfl (Nat.le_of_eq rfl) (hb hby at_27) ?_
    intro v5 vm5 T5 h5 L5 W5 q5
    obtain ⟨rfl, eh_⟩ := q5
    subst h5
    show Go _ _ _ _ (T5.setTop (mkF m_ 30 #[.val (.int i0), .val (.int i1), .val (.int i2), .val (.ref x), .val (.ref y), .val (.int (0 : Int32)), .unset, .unset, .unset, .unset, .unset, .unset, .unset] [(.ref es), (.ref a4), (.ref b3), (.ref b3)]))
    refine W5.callI (y := Y6) rfl (cx.w 70 rfl) (cx.w 71 rfl) (cx.w 28 rfl) (cx.w 72 rfl) (by decide) (ct_idB cx W5.old b3 a4 es E_b3 F_name_b3 F_roles_b3 g_b3 E_es) (allS (List.mem_of_getElem? (i := 0) rfl) all0) (by decide) (Wd := 1) (by decide) (k' := 17) (n' := 54) rfl rfl (by decide) (by decide) (by rw [hml]; rfl) (a := b3) (argsL := [(.ref a4), (.ref es)]) (rest := [(.ref b3)]) rfl (lenOf pd32 rfl) rfl (Nat.le_of_eq rfl) (hb hby at_30) ?_
    intro v6 vm6 T6 h6 L6 W6 q6
    obtain ⟨rfl, K5, E_n5, F_name_j, F_roles_j⟩ := q6
    replace S_x := S_x.keep K5 (ninS ne_x_b3 nin0) (ninS ne_tx_b3 nin0)
    replace S_y := S_y.keep K5 (ninS ne_y_b3 nin0) (ninS ne_ty_b3 nin0)
    replace E_b3 := E_b3.keep K5
    replace E_a4 := E_a4.keep K5
    replace F_coder_a4 := F_coder_a4.keep K5 (ninS (Ne.symm (nl4 b3 (List.mem_of_getElem? (i := 0) rfl)).1) nin0)
    replace F_value_a4 := F_value_a4.keep K5 (ninS (Ne.symm (nl4 b3 (List.mem_of_getElem? (i := 0) rfl)).1) nin0)
    replace V_d4 := V_d4.keep K5 (ninS (Ne.symm (nl4 b3 (List.mem_of_getElem? (i := 0) rfl)).2) nin0)
    replace E_es := E_es.keep K5
    refine Go.st (fun _ => XS.astore W6.here W6.ex rfl (hb hby at_33) rfl rfl (l' := #[.val (.int i0), .val (.int i1), .val (.int i2), .val (.ref x), .val (.ref y), .val (.int (0 : Int32)), .val (.ref b3), .unset, .unset, .unset, .unset, .unset, .unset]) rfl) ?_
    refine Go.st (fun _ => XS.iconst W6.here W6.ex rfl (hb hby at_35)) ?_
    refine Go.st (fun _ => XS.istore W6.here W6.ex rfl (hb hby at_36) rfl (l' := #[.val (.int i0), .val (.int i1), .val (.int i2), .val (.ref x), .val (.ref y), .val (.int (0 : Int32)), .val (.ref b3), .val (.int (0 : Int32)), .unset, .unset, .unset, .unset, .unset]) rfl) ?_
    show Go _ _ _ _ (T6.setTop (mkF m_ 38 #[.val (.int i0), .val (.int i1), .val (.int i2), .val (.ref x), .val (.ref y), .val (.int (0 : Int32)), .val (.ref b3), .val (.int (0 : Int32)), .unset, .unset, .unset, .unset, .unset] []))
    refine Go.st (fun _ => XS.goto W6.here W6.ex rfl (pc0 := 38) (pc' := 107) rfl (hb hby at_38) (by decide) (by decide)) ?_
    show Go _ _ _ _ (T6.setTop (mkF m_ 107 #[.val (.int i0), .val (.int i1), .val (.int i2), .val (.ref x), .val (.ref y), .val (.int (0 : Int32)), .val (.ref b3), .val (.int (0 : Int32)), .unset, .unset, .unset, .unset, .unset] []))
    exact law_pB cx i0 i1 i2 (0 : Int32) x tx y cs b3 a4 (W6.meet (by decide) (by decide)) hby hml hret hnm hl0 S_x E_b3 F_name_j F_roles_j
  · rw [ey]
    refine Go.st (fun _ => XS.istore W2.here W2.ex rfl (hb hby at_14) rfl (l' := #[.val (.int i0), .val (.int i1), .val (.int i2), .val (.ref x), .val (.ref y), .val (.int (1 : Int32)), .unset, .unset, .unset, .unset, .unset, .unset, .unset]) rfl) ?_
    refine Go.st (fun _ => XS.iload W2.here W2.ex rfl (hb hby at_16) rfl) ?_
    refine Go.st (fun _ => XS.ifYes W2.here W2.ex rfl (pc0 := 18) (pc' := 41) rfl (hb hby at_18) rfl ((if0 _ _).trans (feq ((by decide) : ¬ ((1 : Int32) = (0 : Int32)))).2) (by decide) (by decide)) ?_
    show Go _ _ _ _ (T2.setTop (mkF m_ 41 #[.val (.int i0), .val (.int i1), .val (.int i2), .val (.ref x), .val (.ref y), .val (.int (1 : Int32)), .unset, .unset, .unset, .unset, .unset, .unset, .unset] []))
    refine Go.st (fun _ => XS.iload W2.here W2.ex rfl (hb hby at_41) rfl) ?_
    refine Go.st (fun _ => XS.iconst W2.here W2.ex rfl (hb hby at_43)) ?_
    refine Go.st (fun _ => XS.icmpNo W2.here W2.ex rfl (hb hby at_44) rfl (teq (rfl : (1 : Int32) = (1 : Int32))).2) ?_
    show Go _ _ _ _ (T2.setTop (mkF m_ 47 #[.val (.int i0), .val (.int i1), .val (.int i2), .val (.ref x), .val (.ref y), .val (.int (1 : Int32)), .unset, .unset, .unset, .unset, .unset, .unset, .unset] []))
    refine W2.newO (cx.w 26 rfl) (cx.w 27 rfl) (cx.w 28 rfl) (hb hby at_47) (k' := 13) (n' := 26) rfl rfl (by decide) (by decide) ?_
    intro T7 h7 b7 hb7 g_b7 W7 E7 E_b7 D7
    have ne_x_b7 : x ≠ b7 := Nat.ne_of_lt (Nat.lt_of_lt_of_le S_x.lt (Nat.le_of_eq hb7.symm))
    have ne_tx_b7 : tx ≠ b7 := Nat.ne_of_lt (Nat.lt_of_lt_of_le S_x.ltt (Nat.le_of_eq hb7.symm))
    have ne_y_b7 : y ≠ b7 := Nat.ne_of_lt (Nat.lt_of_lt_of_le S_y.lt (Nat.le_of_eq hb7.symm))
    have ne_ty_b7 : ty ≠ b7 := Nat.ne_of_lt (Nat.lt_of_lt_of_le S_y.ltt (Nat.le_of_eq hb7.symm))
    replace S_x := S_x.ext E7
    replace S_y := S_y.ext E7
    have F_name_b7 : Fld Z h7 b7 "com/example/elegua/elegua/context/Identity" "name" "Ljava/lang/String;" .null := D7 (Or.inr (cx.w 90 rfl)) (ty := (.object "java/lang/String")) (by decide)
    have F_roles_b7 : Fld Z h7 b7 "com/example/elegua/elegua/context/Identity" "roles" "Ljava/util/Set;" .null := D7 (Or.inr (cx.w 92 rfl)) (ty := (.object "java/util/Set")) (by decide)
    refine Go.st (fun _ => XS.dup W7.here W7.ex rfl (hb hby at_50) rfl rfl) ?_
    show Go _ _ _ _ (T7.setTop (mkF m_ 51 #[.val (.int i0), .val (.int i1), .val (.int i2), .val (.ref x), .val (.ref y), .val (.int (1 : Int32)), .unset, .unset, .unset, .unset, .unset, .unset, .unset] [(.ref b7), (.ref b7)]))
    refine W7.ldc (cx.w 29 rfl) cx.str (EL := consts_1) (List.mem_of_getElem? (i := 2) rfl) (vs := (litV 29)) (z := 1) ⟨by decide, rfl⟩ (by decide) rfl (hb hby at_51) (j := 4) (by decide) (by decide) (k' := 15) (n' := 34) rfl rfl (by decide) (by decide) ?_
    intro vm8 T8 h8 a8 d8 kA_d8 W8 E8 E_a8 F_coder_a8 F_value_a8 V_d8 nl8
    replace S_x := S_x.ext E8
    replace S_y := S_y.ext E8
    replace E_b7 := E_b7.ext E8
    replace F_name_b7 := F_name_b7.ext E8
    replace F_roles_b7 := F_roles_b7.ext E8
    refine Go.st (fun _ => XS.aload W8.here W8.ex rfl (hb hby at_53) rfl rfl) ?_
    show Go _ _ _ _ (T8.setTop (mkF m_ 55 #[.val (.int i0), .val (.int i1), .val (.int i2), .val (.ref x), .val (.ref y), .val (.int (1 : Int32)), .unset, .unset, .unset, .unset, .unset, .unset, .unset] [(.ref y), (.ref a8), (.ref b7), (.ref b7)]))
    refine W8.callS (y := Y46) (cx.w 30 rfl) (cx.w 31 rfl) (cx.w 32 rfl) (cx.w 33 rfl) (by decide) (ct_of1 cx W8.old y) all0 (by decide) (Wd := 3) (by decide) (k' := 16) (n' := 36) rfl rfl (by decide) (by decide) (by rw [hml]; rfl) (argsL := [(.ref y)]) (rest := [(.ref a8), (.ref b7), (.ref b7)]) rfl (lenOf pd33 rfl) rfl (Nat.le_of_eq rfl) (hb hby at_55) ?_
    intro v9 vm9 T9 h9 L9 W9 q9
    obtain ⟨r, rfl, hz_r, g_r, K4, E_r, F_e0_r, F_e1_r⟩ := q9
    have ne_x_r : x ≠ r := Nat.ne_of_lt (Nat.lt_of_lt_of_le S_x.lt hz_r)
    have ne_tx_r : tx ≠ r := Nat.ne_of_lt (Nat.lt_of_lt_of_le S_x.ltt hz_r)
    have ne_y_r : y ≠ r := Nat.ne_of_lt (Nat.lt_of_lt_of_le S_y.lt hz_r)
    have ne_ty_r : ty ≠ r := Nat.ne_of_lt (Nat.lt_of_lt_of_le S_y.ltt hz_r)
    have ne_b7_r : b7 ≠ r := Nat.ne_of_lt (Nat.lt_of_lt_of_le E_b7.lt hz_r)
    have ne_a8_r : a8 ≠ r := Nat.ne_of_lt (Nat.lt_of_lt_of_le E_a8.lt hz_r)
    have ne_d8_r : d8 ≠ r := Nat.ne_of_lt (Nat.lt_of_lt_of_le V_d8.lt hz_r)
    replace S_x := S_x.keep K4 nin0 nin0
    replace S_y := S_y.keep K4 nin0 nin0
    replace E_b7 := E_b7.keep K4
    replace F_name_b7 := F_name_b7.keep K4 nin0
    replace F_roles_b7 := F_roles_b7.keep K4 nin0
    replace E_a8 := E_a8.keep K4
    replace F_coder_a8 := F_coder_a8.keep K4 nin0
    replace F_value_a8 := F_value_a8.keep K4 nin0
    replace V_d8 := V_d8.keep K4 nin0
    show Go _ _ _ _ (T9.setTop (mkF m_ 58 #[.val (.int i0), .val (.int i1), .val (.int i2), .val (.ref x), .val (.ref y), .val (.int (1 : Int32)), .unset, .unset, .unset, .unset, .unset, .unset, .unset] [(.ref r), (.ref a8), (.ref b7), (.ref b7)]))
    refine W9.callI (y := Y6) rfl (cx.w 70 rfl) (cx.w 71 rfl) (cx.w 28 rfl) (cx.w 72 rfl) (by decide) (ct_idC cx W9.old b7 a8 r E_b7 F_name_b7 F_roles_b7 g_b7 E_r) (allS (List.mem_of_getElem? (i := 0) rfl) all0) (by decide) (Wd := 1) (by decide) (k' := 18) (n' := 56) rfl rfl (by decide) (by decide) (by rw [hml]; rfl) (a := b7) (argsL := [(.ref a8), (.ref r)]) (rest := [(.ref b7)]) rfl (lenOf pd32 rfl) rfl (Nat.le_of_eq rfl) (hb hby at_58) ?_
    intro v10 vm10 T10 h10 L10 W10 q10
    obtain ⟨rfl, K5, E_n5, F_name_j, F_roles_j⟩ := q10
    replace S_x := S_x.keep K5 (ninS ne_x_b7 nin0) (ninS ne_tx_b7 nin0)
    replace S_y := S_y.keep K5 (ninS ne_y_b7 nin0) (ninS ne_ty_b7 nin0)
    replace E_b7 := E_b7.keep K5
    replace E_a8 := E_a8.keep K5
    replace F_coder_a8 := F_coder_a8.keep K5 (ninS (Ne.symm (nl8 b7 (List.mem_of_getElem? (i := 0) rfl)).1) nin0)
    replace F_value_a8 := F_value_a8.keep K5 (ninS (Ne.symm (nl8 b7 (List.mem_of_getElem? (i := 0) rfl)).1) nin0)
    replace V_d8 := V_d8.keep K5 (ninS (Ne.symm (nl8 b7 (List.mem_of_getElem? (i := 0) rfl)).2) nin0)
    replace E_r := E_r.keep K5
    replace F_e0_r := F_e0_r.keep K5 (ninS (Ne.symm ne_b7_r) nin0)
    replace F_e1_r := F_e1_r.keep K5 (ninS (Ne.symm ne_b7_r) nin0)
    refine Go.st (fun _ => XS.astore W10.here W10.ex rfl (hb hby at_61) rfl rfl (l' := #[.val (.int i0), .val (.int i1), .val (.int i2), .val (.ref x), .val (.ref y), .val (.int (1 : Int32)), .val (.ref b7), .unset, .unset, .unset, .unset, .unset, .unset]) rfl) ?_
    refine Go.st (fun _ => XS.aloadN W10.here W10.ex rfl (hb hby at_63) rfl rfl) ?_
    refine Go.st (fun _ => XS.aload W10.here W10.ex rfl (hb hby at_64) rfl rfl) ?_
    show Go _ _ _ _ (T10.setTop (mkF m_ 66 #[.val (.int i0), .val (.int i1), .val (.int i2), .val (.ref x), .val (.ref y), .val (.int (1 : Int32)), .val (.ref b7), .unset, .unset, .unset, .unset, .unset, .unset] [(.ref y), (.ref x)]))
    obtain ⟨k1_11, V1_11⟩ := S_x.kb
    obtain ⟨k2_11, V2_11⟩ := S_y.kb
    have E1_11 := S_x.E
    refine W10.libV (y := Y25) (z := Y25) (cx.w 293 rfl) (cx.w 294 rfl) (cx.w 295 rfl) (cx.w 253 rfl) (W10.nf (cx.w 295 rfl)) (by decide) E1_11 (Q := fun v h' L' => ((v = some (.int 1) ∧ cs = ds) ∨ (v = some (.int 0) ∧ ¬ cs = ds)) ∧ L' = [] ∧ h' = h10) (ws := []) (Wd := 0) (ck := 0) (cn := 0) (StrChars.Road.eqW (W := 0) W10.hZ cx.qw (kI := 4) (cx.w 5 rfl) (cs := cs) S_x.1 S_x.2.2.1 S_x.2.1 V1_11 (StrChars.Road.codOf rfl fun c hc => (S_x.ch c hc).2) S_x.ch.up S_x.le (ds := ds) S_y.1 S_y.2.2.1 S_y.2.1 V2_11 (StrChars.Road.codOf rfl fun c hc => (S_y.ch c hc).2) S_y.ch.up S_y.le (cx.cmp.ext W10.e0) cx.g1 (by decide) (by decide)) (fun v h' L' q => ⟨by rw [q.2.1]; exact Fr.nil _, by rw [q.2.2]; exact Keep.refl _ _⟩) all0 all0 (k' := 18) (n' := 56) rfl rfl (by decide) (by decide) (by rw [hml]; rfl) (a := x) (argsL := [(.ref y)]) (rest := []) rfl (lenOf pd7 rfl) rfl (Nat.le_of_eq rfl) (hb hby at_66) ?_
    intro v12 T12 h12 M12 L12 W12 q12
    rcases q12 with ⟨⟨rfl, he⟩ | ⟨rfl, he⟩, -, eh_⟩
    · subst h12
      refine Go.st (fun _ => XS.istore W12.here W12.ex rfl (hb hby at_69) rfl (l' := #[.val (.int i0), .val (.int i1), .val (.int i2), .val (.ref x), .val (.ref y), .val (.int (1 : Int32)), .val (.ref b7), .val (.int (1 : Int32)), .unset, .unset, .unset, .unset, .unset]) rfl) ?_
      refine Go.st (fun _ => XS.goto W12.here W12.ex rfl (pc0 := 71) (pc' := 107) rfl (hb hby at_71) (by decide) (by decide)) ?_
      show Go _ _ _ _ (T12.setTop (mkF m_ 107 #[.val (.int i0), .val (.int i1), .val (.int i2), .val (.ref x), .val (.ref y), .val (.int (1 : Int32)), .val (.ref b7), .val (.int (1 : Int32)), .unset, .unset, .unset, .unset, .unset] []))
      exact law_pC cx i0 i1 i2 (1 : Int32) x tx y cs b7 a8 r y ty ds (1 : Int32) (W12.meet (by decide) (by decide)) hby hml hret hnm hl0 E_b7 F_name_j F_roles_j E_r F_e0_r F_e1_r S_x S_y (Or.inl ⟨rfl, he⟩)
    · subst h12
      refine Go.st (fun _ => XS.istore W12.here W12.ex rfl (hb hby at_69) rfl (l' := #[.val (.int i0), .val (.int i1), .val (.int i2), .val (.ref x), .val (.ref y), .val (.int (1 : Int32)), .val (.ref b7), .val (.int (0 : Int32)), .unset, .unset, .unset, .unset, .unset]) rfl) ?_
      refine Go.st (fun _ => XS.goto W12.here W12.ex rfl (pc0 := 71) (pc' := 107) rfl (hb hby at_71) (by decide) (by decide)) ?_
      show Go _ _ _ _ (T12.setTop (mkF m_ 107 #[.val (.int i0), .val (.int i1), .val (.int i2), .val (.ref x), .val (.ref y), .val (.int (1 : Int32)), .val (.ref b7), .val (.int (0 : Int32)), .unset, .unset, .unset, .unset, .unset] []))
      exact law_pC cx i0 i1 i2 (1 : Int32) x tx y cs b7 a8 r y ty ds (0 : Int32) (W12.meet (by decide) (by decide)) hby hml hret hnm hl0 E_b7 F_name_j F_roles_j E_r F_e0_r F_e1_r S_x S_y (Or.inr ⟨rfl, he⟩)
  · rw [ey]
    refine Go.st (fun _ => XS.istore W2.here W2.ex rfl (hb hby at_14) rfl (l' := #[.val (.int i0), .val (.int i1), .val (.int i2), .val (.ref x), .val (.ref y), .val (.int (2 : Int32)), .unset, .unset, .unset, .unset, .unset, .unset, .unset]) rfl) ?_
    refine Go.st (fun _ => XS.iload W2.here W2.ex rfl (hb hby at_16) rfl) ?_
    refine Go.st (fun _ => XS.ifYes W2.here W2.ex rfl (pc0 := 18) (pc' := 41) rfl (hb hby at_18) rfl ((if0 _ _).trans (feq ((by decide) : ¬ ((2 : Int32) = (0 : Int32)))).2) (by decide) (by decide)) ?_
    show Go _ _ _ _ (T2.setTop (mkF m_ 41 #[.val (.int i0), .val (.int i1), .val (.int i2), .val (.ref x), .val (.ref y), .val (.int (2 : Int32)), .unset, .unset, .unset, .unset, .unset, .unset, .unset] []))
    refine Go.st (fun _ => XS.iload W2.here W2.ex rfl (hb hby at_41) rfl) ?_
    refine Go.st (fun _ => XS.iconst W2.here W2.ex rfl (hb hby at_43)) ?_
    refine Go.st (fun _ => XS.icmpYes W2.here W2.ex rfl (pc0 := 44) (pc' := 74) rfl (hb hby at_44) rfl (feq ((by decide) : ¬ ((2 : Int32) = (1 : Int32)))).2 (by decide) (by decide)) ?_
    show Go _ _ _ _ (T2.setTop (mkF m_ 74 #[.val (.int i0), .val (.int i1), .val (.int i2), .val (.ref x), .val (.ref y), .val (.int (2 : Int32)), .unset, .unset, .unset, .unset, .unset, .unset, .unset] []))
    refine Go.st (fun _ => XS.iload W2.here W2.ex rfl (hb hby at_74) rfl) ?_
    refine Go.st (fun _ => XS.iconst W2.here W2.ex rfl (hb hby at_76)) ?_
    refine Go.st (fun _ => XS.icmpNo W2.here W2.ex rfl (hb hby at_77) rfl (teq (rfl : (2 : Int32) = (2 : Int32))).2) ?_
    show Go _ _ _ _ (T2.setTop (mkF m_ 80 #[.val (.int i0), .val (.int i1), .val (.int i2), .val (.ref x), .val (.ref y), .val (.int (2 : Int32)), .unset, .unset, .unset, .unset, .unset, .unset, .unset] []))
    refine W2.newO (cx.w 26 rfl) (cx.w 27 rfl) (cx.w 28 rfl) (hb hby at_80) (k' := 13) (n' := 26) rfl rfl (by decide) (by decide) ?_
    intro T13 h13 b13 hb13 g_b13 W13 E13 E_b13 D13
    have ne_x_b13 : x ≠ b13 := Nat.ne_of_lt (Nat.lt_of_lt_of_le S_x.lt (Nat.le_of_eq hb13.symm))
    have ne_tx_b13 : tx ≠ b13 := Nat.ne_of_lt (Nat.lt_of_lt_of_le S_x.ltt (Nat.le_of_eq hb13.symm))
    have ne_y_b13 : y ≠ b13 := Nat.ne_of_lt (Nat.lt_of_lt_of_le S_y.lt (Nat.le_of_eq hb13.symm))
    have ne_ty_b13 : ty ≠ b13 := Nat.ne_of_lt (Nat.lt_of_lt_of_le S_y.ltt (Nat.le_of_eq hb13.symm))
    replace S_x := S_x.ext E13
    replace S_y := S_y.ext E13
    have F_name_b13 : Fld Z h13 b13 "com/example/elegua/elegua/context/Identity" "name" "Ljava/lang/String;" .null := D13 (Or.inr (cx.w 90 rfl)) (ty := (.object "java/lang/String")) (by decide)
    have F_roles_b13 : Fld Z h13 b13 "com/example/elegua/elegua/context/Identity" "roles" "Ljava/util/Set;" .null := D13 (Or.inr (cx.w 92 rfl)) (ty := (.object "java/util/Set")) (by decide)
    refine Go.st (fun _ => XS.dup W13.here W13.ex rfl (hb hby at_83) rfl rfl) ?_
    show Go _ _ _ _ (T13.setTop (mkF m_ 84 #[.val (.int i0), .val (.int i1), .val (.int i2), .val (.ref x), .val (.ref y), .val (.int (2 : Int32)), .unset, .unset, .unset, .unset, .unset, .unset, .unset] [(.ref b13), (.ref b13)]))
    refine W13.ldc (cx.w 29 rfl) cx.str (EL := consts_1) (List.mem_of_getElem? (i := 2) rfl) (vs := (litV 29)) (z := 1) ⟨by decide, rfl⟩ (by decide) rfl (hb hby at_84) (j := 4) (by decide) (by decide) (k' := 15) (n' := 34) rfl rfl (by decide) (by decide) ?_
    intro vm14 T14 h14 a14 d14 kA_d14 W14 E14 E_a14 F_coder_a14 F_value_a14 V_d14 nl14
    replace S_x := S_x.ext E14
    replace S_y := S_y.ext E14
    replace E_b13 := E_b13.ext E14
    replace F_name_b13 := F_name_b13.ext E14
    replace F_roles_b13 := F_roles_b13.ext E14
    refine Go.st (fun _ => XS.aloadN W14.here W14.ex rfl (hb hby at_86) rfl rfl) ?_
    show Go _ _ _ _ (T14.setTop (mkF m_ 87 #[.val (.int i0), .val (.int i1), .val (.int i2), .val (.ref x), .val (.ref y), .val (.int (2 : Int32)), .unset, .unset, .unset, .unset, .unset, .unset, .unset] [(.ref x), (.ref a14), (.ref b13), (.ref b13)]))
    refine W14.callS (y := Y46) (cx.w 30 rfl) (cx.w 31 rfl) (cx.w 32 rfl) (cx.w 33 rfl) (by decide) (ct_of1 cx W14.old x) all0 (by decide) (Wd := 3) (by decide) (k' := 16) (n' := 36) rfl rfl (by decide) (by decide) (by rw [hml]; rfl) (argsL := [(.ref x)]) (rest := [(.ref a14), (.ref b13), (.ref b13)]) rfl (lenOf pd33 rfl) rfl (Nat.le_of_eq rfl) (hb hby at_87) ?_
    intro v15 vm15 T15 h15 L15 W15 q15
    obtain ⟨r, rfl, hz_r, g_r, K4, E_r, F_e0_r, F_e1_r⟩ := q15
    have ne_x_r : x ≠ r := Nat.ne_of_lt (Nat.lt_of_lt_of_le S_x.lt hz_r)
    have ne_tx_r : tx ≠ r := Nat.ne_of_lt (Nat.lt_of_lt_of_le S_x.ltt hz_r)
    have ne_y_r : y ≠ r := Nat.ne_of_lt (Nat.lt_of_lt_of_le S_y.lt hz_r)
    have ne_ty_r : ty ≠ r := Nat.ne_of_lt (Nat.lt_of_lt_of_le S_y.ltt hz_r)
    have ne_b13_r : b13 ≠ r := Nat.ne_of_lt (Nat.lt_of_lt_of_le E_b13.lt hz_r)
    have ne_a14_r : a14 ≠ r := Nat.ne_of_lt (Nat.lt_of_lt_of_le E_a14.lt hz_r)
    have ne_d14_r : d14 ≠ r := Nat.ne_of_lt (Nat.lt_of_lt_of_le V_d14.lt hz_r)
    replace S_x := S_x.keep K4 nin0 nin0
    replace S_y := S_y.keep K4 nin0 nin0
    replace E_b13 := E_b13.keep K4
    replace F_name_b13 := F_name_b13.keep K4 nin0
    replace F_roles_b13 := F_roles_b13.keep K4 nin0
    replace E_a14 := E_a14.keep K4
    replace F_coder_a14 := F_coder_a14.keep K4 nin0
    replace F_value_a14 := F_value_a14.keep K4 nin0
    replace V_d14 := V_d14.keep K4 nin0
    show Go _ _ _ _ (T15.setTop (mkF m_ 90 #[.val (.int i0), .val (.int i1), .val (.int i2), .val (.ref x), .val (.ref y), .val (.int (2 : Int32)), .unset, .unset, .unset, .unset, .unset, .unset, .unset] [(.ref r), (.ref a14), (.ref b13), (.ref b13)]))
    refine W15.callI (y := Y6) rfl (cx.w 70 rfl) (cx.w 71 rfl) (cx.w 28 rfl) (cx.w 72 rfl) (by decide) (ct_idC cx W15.old b13 a14 r E_b13 F_name_b13 F_roles_b13 g_b13 E_r) (allS (List.mem_of_getElem? (i := 0) rfl) all0) (by decide) (Wd := 1) (by decide) (k' := 18) (n' := 56) rfl rfl (by decide) (by decide) (by rw [hml]; rfl) (a := b13) (argsL := [(.ref a14), (.ref r)]) (rest := [(.ref b13)]) rfl (lenOf pd32 rfl) rfl (Nat.le_of_eq rfl) (hb hby at_90) ?_
    intro v16 vm16 T16 h16 L16 W16 q16
    obtain ⟨rfl, K5, E_n5, F_name_j, F_roles_j⟩ := q16
    replace S_x := S_x.keep K5 (ninS ne_x_b13 nin0) (ninS ne_tx_b13 nin0)
    replace S_y := S_y.keep K5 (ninS ne_y_b13 nin0) (ninS ne_ty_b13 nin0)
    replace E_b13 := E_b13.keep K5
    replace E_a14 := E_a14.keep K5
    replace F_coder_a14 := F_coder_a14.keep K5 (ninS (Ne.symm (nl14 b13 (List.mem_of_getElem? (i := 0) rfl)).1) nin0)
    replace F_value_a14 := F_value_a14.keep K5 (ninS (Ne.symm (nl14 b13 (List.mem_of_getElem? (i := 0) rfl)).1) nin0)
    replace V_d14 := V_d14.keep K5 (ninS (Ne.symm (nl14 b13 (List.mem_of_getElem? (i := 0) rfl)).2) nin0)
    replace E_r := E_r.keep K5
    replace F_e0_r := F_e0_r.keep K5 (ninS (Ne.symm ne_b13_r) nin0)
    replace F_e1_r := F_e1_r.keep K5 (ninS (Ne.symm ne_b13_r) nin0)
    refine Go.st (fun _ => XS.astore W16.here W16.ex rfl (hb hby at_93) rfl rfl (l' := #[.val (.int i0), .val (.int i1), .val (.int i2), .val (.ref x), .val (.ref y), .val (.int (2 : Int32)), .val (.ref b13), .unset, .unset, .unset, .unset, .unset, .unset]) rfl) ?_
    refine Go.st (fun _ => XS.iconst W16.here W16.ex rfl (hb hby at_95)) ?_
    refine Go.st (fun _ => XS.istore W16.here W16.ex rfl (hb hby at_96) rfl (l' := #[.val (.int i0), .val (.int i1), .val (.int i2), .val (.ref x), .val (.ref y), .val (.int (2 : Int32)), .val (.ref b13), .val (.int (1 : Int32)), .unset, .unset, .unset, .unset, .unset]) rfl) ?_
    show Go _ _ _ _ (T16.setTop (mkF m_ 98 #[.val (.int i0), .val (.int i1), .val (.int i2), .val (.ref x), .val (.ref y), .val (.int (2 : Int32)), .val (.ref b13), .val (.int (1 : Int32)), .unset, .unset, .unset, .unset, .unset] []))
    refine Go.st (fun _ => XS.goto W16.here W16.ex rfl (pc0 := 98) (pc' := 107) rfl (hb hby at_98) (by decide) (by decide)) ?_
    show Go _ _ _ _ (T16.setTop (mkF m_ 107 #[.val (.int i0), .val (.int i1), .val (.int i2), .val (.ref x), .val (.ref y), .val (.int (2 : Int32)), .val (.ref b13), .val (.int (1 : Int32)), .unset, .unset, .unset, .unset, .unset] []))
    exact law_pC cx i0 i1 i2 (2 : Int32) x tx y cs b13 a14 r x tx cs (1 : Int32) (W16.meet (by decide) (by decide)) hby hml hret hnm hl0 E_b13 F_name_j F_roles_j E_r F_e0_r F_e1_r S_x S_x (Or.inl ⟨rfl, rfl⟩)
  · rw [ey]
    refine Go.st (fun _ => XS.istore W2.here W2.ex rfl (hb hby at_14) rfl (l' := #[.val (.int i0), .val (.int i1), .val (.int i2), .val (.ref x), .val (.ref y), .val (.int (3 : Int32)), .unset, .unset, .unset, .unset, .unset, .unset, .unset]) rfl) ?_
    refine Go.st (fun _ => XS.iload W2.here W2.ex rfl (hb hby at_16) rfl) ?_
    refine Go.st (fun _ => XS.ifYes W2.here W2.ex rfl (pc0 := 18) (pc' := 41) rfl (hb hby at_18) rfl ((if0 _ _).trans (feq ((by decide) : ¬ ((3 : Int32) = (0 : Int32)))).2) (by decide) (by decide)) ?_
    show Go _ _ _ _ (T2.setTop (mkF m_ 41 #[.val (.int i0), .val (.int i1), .val (.int i2), .val (.ref x), .val (.ref y), .val (.int (3 : Int32)), .unset, .unset, .unset, .unset, .unset, .unset, .unset] []))
    refine Go.st (fun _ => XS.iload W2.here W2.ex rfl (hb hby at_41) rfl) ?_
    refine Go.st (fun _ => XS.iconst W2.here W2.ex rfl (hb hby at_43)) ?_
    refine Go.st (fun _ => XS.icmpYes W2.here W2.ex rfl (pc0 := 44) (pc' := 74) rfl (hb hby at_44) rfl (feq ((by decide) : ¬ ((3 : Int32) = (1 : Int32)))).2 (by decide) (by decide)) ?_
    show Go _ _ _ _ (T2.setTop (mkF m_ 74 #[.val (.int i0), .val (.int i1), .val (.int i2), .val (.ref x), .val (.ref y), .val (.int (3 : Int32)), .unset, .unset, .unset, .unset, .unset, .unset, .unset] []))
    refine Go.st (fun _ => XS.iload W2.here W2.ex rfl (hb hby at_74) rfl) ?_
    refine Go.st (fun _ => XS.iconst W2.here W2.ex rfl (hb hby at_76)) ?_
    refine Go.st (fun _ => XS.icmpYes W2.here W2.ex rfl (pc0 := 77) (pc' := 101) rfl (hb hby at_77) rfl (feq ((by decide) : ¬ ((3 : Int32) = (2 : Int32)))).2 (by decide) (by decide)) ?_
    show Go _ _ _ _ (T2.setTop (mkF m_ 101 #[.val (.int i0), .val (.int i1), .val (.int i2), .val (.ref x), .val (.ref y), .val (.int (3 : Int32)), .unset, .unset, .unset, .unset, .unset, .unset, .unset] []))
    refine Go.st (fun _ => XS.aconstNull W2.here W2.ex rfl (hb hby at_101)) ?_
    refine Go.st (fun _ => XS.astore W2.here W2.ex rfl (hb hby at_102) rfl rfl (l' := #[.val (.int i0), .val (.int i1), .val (.int i2), .val (.ref x), .val (.ref y), .val (.int (3 : Int32)), .val .null, .unset, .unset, .unset, .unset, .unset, .unset]) rfl) ?_
    refine Go.st (fun _ => XS.iconst W2.here W2.ex rfl (hb hby at_104)) ?_
    show Go _ _ _ _ (T2.setTop (mkF m_ 105 #[.val (.int i0), .val (.int i1), .val (.int i2), .val (.ref x), .val (.ref y), .val (.int (3 : Int32)), .val .null, .unset, .unset, .unset, .unset, .unset, .unset] [(.int (0 : Int32))]))
    refine Go.st (fun _ => XS.istore W2.here W2.ex rfl (hb hby at_105) rfl (l' := #[.val (.int i0), .val (.int i1), .val (.int i2), .val (.ref x), .val (.ref y), .val (.int (3 : Int32)), .val .null, .val (.int (0 : Int32)), .unset, .unset, .unset, .unset, .unset]) rfl) ?_
    show Go _ _ _ _ (T2.setTop (mkF m_ 107 #[.val (.int i0), .val (.int i1), .val (.int i2), .val (.ref x), .val (.ref y), .val (.int (3 : Int32)), .val .null, .val (.int (0 : Int32)), .unset, .unset, .unset, .unset, .unset] []))
    exact law_pA cx i0 i1 i2 (3 : Int32) x tx y cs (W2.meet (by decide) (by decide)) hby hml hret hnm hl0 S_x
set_option maxRecDepth 65536 in
set_option maxHeartbeats 40000000 in
theorem comes_1 {Post : Tables → Env → Array Value → State → Outcome → State → Prop} (hpost : ∀ tb e args s v u, (limb_1_1.after args s (.returned v) u = true ∧ limb_1_2.after args s (.returned v) u = true ∧ True) → FramedW s (.returned v) u (Jvm.fieldLocs frame_1_writes args s ++ Jvm.arrayLocs frame_1_arrays args s ++ Jvm.staticLocs frame_1_statics s) 48 5376 → Post tb e args s (.returned v) u) :
    ArmFor flags0 classFile x code maxLocals ret World_1 tables_1 room_1 Calls_1 rest_1 Pre_1 Post := by
  intro l hfl _ _ p e ha hc hk s m args below hf hA hF happ hP
  obtain ⟨hcalls, hrest, hpre⟩ := hP
  obtain ⟨-, -, -, hnamed, -, -, -, hat⟩ := (Spec.applies_iff hf).mp happ
  obtain ⟨hg, hn⟩ := and_e (Cond.before_iff.mp (show (Jvm.Cond.and given_1 narrow_1).before args s = true from hpre))
  obtain ⟨c0, r0⟩ := and_e hg
  obtain ⟨c1, r1⟩ := and_e r0
  obtain ⟨c2, r2⟩ := and_e r1
  obtain ⟨w0, w1, w2, rfl⟩ : ∃ w0 w1 w2 : Value, args = #[w0, w1, w2] := by
    have hs : args.size = 3 := by simpa [Cond.value, given_1] using c0
    obtain ⟨L⟩ := args
    match L, hs with
    | [w0, w1, w2], _ => exact ⟨w0, w1, w2, rfl⟩
  have hw := fun d (hd : d ∈ tables_1) => atoms_spec (ws := Jvm.Cond.code x code maxLocals ret :: tables_1) hat d (List.mem_cons_of_mem _ hd)
  obtain ⟨hsets, hown0⟩ := atoms_of _ (rest_1_c_eq ▸ (show rest_1_c.before _ s = true from hrest))
  have hr0 := Cond.before_iff.mp hown0
  have hfit : Fit s := fun {y c} hc i hi => by
    obtain ⟨ha, rfl⟩ := Array.getElem?_eq_some_iff.mp hc
    have q := List.all_eq_true.mp ((Array.all_eq_true_iff_forall_mem.mp hF) _ (Array.getElem_mem ha)) i (List.mem_range.mpr hi)
    simpa [Array.getElem?_eq_getElem hi] using q
  obtain ⟨i0, ei0⟩ := is_v c1
  obtain rfl : w0 = (.int i0) := Option.some.inj ei0
  obtain ⟨i1, ei1⟩ := is_v c2
  obtain rfl : w1 = (.int i1) := Option.some.inj ei1
  obtain ⟨i2, ei2⟩ := is_v r2
  obtain rfl : w2 = (.int i2) := Option.some.inj ei2
  have nz := not_v (Cond.before_iff.mp (hsets _ (List.mem_of_getElem? (i := 11) rfl)))
  obtain ⟨g1, eg1⟩ := is_v (Cond.before_iff.mp (hsets _ (List.mem_of_getElem? (i := 10) rfl)))
  have S1 : Sta s s.heap "java/lang/String" "COMPACT_STRINGS" "Z" (.int g1) := Sta.start eg1 (Or.inl (hsets _ (List.mem_of_getElem? (i := 9) rfl)))
  have hg1 : ¬ (g1 = (0 : Int32)) := gotF (Cond.eq_ints eg1 (Term.int_eval (0))) nz
  obtain ⟨gf, egf, rgf⟩ := isR_v (Cond.before_iff.mp (hsets _ (List.mem_of_getElem? (i := 17) rfl)))
  have S2 : Sta s s.heap "jdk/internal/util/Preconditions" "SIOOBE_FORMATTER" "Ljava/util/function/BiFunction;" gf := Sta.start egf (Or.inl (hsets _ (List.mem_of_getElem? (i := 16) rfl)))
  have hew : EW s #[Value.int i0, Value.int i1, Value.int i2] consts_1 := (EW.cons (hw _ (List.mem_of_getElem? (i := 97) rfl)) (by decide) (EW.cons (hw _ (List.mem_of_getElem? (i := 119) rfl)) (by decide) (EW.cons (hw _ (List.mem_of_getElem? (i := 29) rfl)) (by decide) (EW.cons (hw _ (List.mem_of_getElem? (i := 79) rfl)) (by decide) (EW.cons (hw _ (List.mem_of_getElem? (i := 18) rfl)) (by decide) EW.nil)))))
  have hcw : Jvm.Lit.compactW.before #[Value.int i0, Value.int i1, Value.int i2] s = true := (hsets _ (List.mem_of_getElem? (i := 11) rfl))
  have hcv : CHv s consts_1 s.vm s.heap := CHv.start hew (fun p hp => hcalls.1 p hp) hcw (hw _ (List.mem_of_getElem? (i := 19) rfl)) (hw _ (List.mem_of_getElem? (i := 5) rfl))
  obtain ⟨ey_, evey_⟩ := exa_v (Cond.before_iff.mp (hsets _ (List.mem_of_getElem? (i := 2) rfl)))
  have Xey_ := Exa.start evey_ (Cond.before_iff.mp (hsets _ (List.mem_of_getElem? (i := 2) rfl)))
  have Yey_ : Sta s s.heap "java/util/ImmutableCollections" "EMPTY" "Ljava/lang/Object;" (.ref ey_) := Sta.start evey_ (Or.inl (hsets _ (List.mem_of_getElem? (i := 1) rfl)))
  obtain ⟨et_, evet_⟩ := exa_v (Cond.before_iff.mp (hsets _ (List.mem_of_getElem? (i := 20) rfl)))
  have Xet_ := Exa.start evet_ (Cond.before_iff.mp (hsets _ (List.mem_of_getElem? (i := 20) rfl)))
  have Yet_ : Sta s s.heap "java/util/ImmutableCollections" "EMPTY_SET" "Ljava/util/ImmutableCollections$SetN;" (.ref et_) := Sta.start evet_ (Or.inl (hsets _ (List.mem_of_getElem? (i := 19) rfl)))
  have Fs_ := fld_start evet_ (eqv_i (Term.int_eval 0) (Cond.before_iff.mp (hsets _ (List.mem_of_getElem? (i := 24) rfl))))
  have cx : Ctx s _ s.heap.size g1 gf ey_ et_ := ⟨hw, hew, S1, hg1, S2, rgf, Yey_, Xey_, Yet_, Xet_, Fs_, trivial⟩
  obtain ⟨n, o, h1, h2, h3, _, L, rfl, ⟨rfl, N, -⟩, -, hq⟩ := ct_law (l := l) cx (Old.start s) i0 i1 i2 p e ha hc hk s m _ below hf ((Spec.applies_iff_loose hf).mp happ).1 ⟨rfl, State.Warmed39.refl s, rfl, hcv, all0⟩ trivial
  refine ⟨n, _, h1, h2, h3, hpost _ _ _ _ _ _ ⟨Cond.after_iff.mpr rfl, Cond.after_iff.mpr (eq_i res_at (Term.int_eval (1)) rfl), trivial⟩ ⟨hq.1, hq.2.1, hq.2.2.1, (hq.2.2.2.sift fun y hy => Or.inr (N y hy)).mono (by decide) (by decide)⟩⟩
theorem main_1_1 : Claimed_1_1 := comes_1 fun _ _ _ _ _ _ h hF => ⟨h.1, hF⟩
theorem main_1_2 : Claimed_1_2 := comes_1 fun _ _ _ _ _ _ h hF => ⟨h.2.1, hF⟩
end Jvm.Pilot.@@N@@
namespace Jvm.Pilot.@@N@@
open Jvm Jvm.ClassFile Sem Op Lib Jvm.Free Jvm.Stand Jvm.Pilot.@@N@@.Jvm.D
/-! MADE BY PROGRAM (witnessworld.py) out of the Statement's table words and the real class files: 47 classes; the members and pool entries that the words name. The judged class is class 1, her method 2. -/
namespace start1
open Jvm.ClassFile
def u (s : String) : CpInfo := .utf8 (stringToUtf16 s)
/-- a pool by its gaps: so many unusable entries, then the entry; so many at the end -/
def gap : Nat → List CpInfo → List CpInfo
  | 0, r => r
  | n + 1, r => .unusable :: gap n r
def poolList (es : List (Nat × CpInfo)) (last : Nat) : List CpInfo := es.foldr (fun e r => gap e.1 (e.2 :: r)) (gap last [])
def pool (es : List (Nat × CpInfo)) (last : Nat) : Array CpInfo := ⟨poolList es last⟩
def fileOf (pool : Array CpInfo) (this : Nat) (attrs : Array Attribute := #[]) (ms : Array MethodInfo := #[]) (fl : Nat := 33) (sup : Nat := 0) (ifs : Array Nat := #[]) (fds : Array FieldInfo := #[]) : ClassFile where
  minorVersion := 0
  majorVersion := 65
  constantPool := pool
  accessFlags := fl
  thisClass := this
  superClass := sup
  interfaces := ifs
  fields := fds
  methods := ms
  attributes := attrs
def plain (name : String) (sup : Option ClassId) : Class where
  name := name
  kind := .ordinary
  loader := none
  accessFlags := 33
  super := sup
  interfaces := #[]
  cf := none
  fields := #[]
  methods := #[]
  instanceTypes := #[]
  staticTypes := #[]
  resolved := #[]
  callSites := []
  init := .initialized
  statics := none
  mirror := none

def pool0 : Array CpInfo := pool [(5, u "<init>"), (0, u "()V"), (1, .class_ 10), (1, u "java/lang/Object"), (81, u "equals"), (0, u "(Ljava/lang/Object;)Z")] 30

def k0c0 : Code := { maxStack := 0, maxLocals := 1, code := object_method_1_code, exceptionTable := #[], attributes := #[] }
def k0m0 : Method := { name := "<init>", desc := "()V", sig := { parameters := [], returnType := none }, accessFlags := 1, code := some k0c0 }
def k0c1 : Code := { maxStack := 2, maxLocals := 2, code := object_method_4_code, exceptionTable := #[], attributes := #[] }
def k0m1 : Method := { name := "equals", desc := "(Ljava/lang/Object;)Z", sig := { parameters := [(.object "java/lang/Object")], returnType := some .boolean }, accessFlags := 1, code := some k0c1 }
/-- java/lang/Object -/
def k0 : Class := { plain "java/lang/Object" none with
  accessFlags := 33
  interfaces := #[]
  cf := some (fileOf pool0 8 #[] #[{ accessFlags := 1, nameIndex := 5, descriptorIndex := 6, attributes := #[] }, { accessFlags := 1, nameIndex := 92, descriptorIndex := 93, attributes := #[] }] 33 0 #[] #[])
  fields := #[]
  methods := #[k0m0, k0m1]
  instanceTypes := #[]
  staticTypes := #[]
  resolved := Array.replicate 124 none
  statics := none }

def pool1 : Array CpInfo := pool [(2, .class_ 4), (1, u "java/lang/Object"), (0, u "<init>"), (0, u "()V"), (0, .class_ 8), (0, u "java/lang/String"), (0, .methodref 7 10), (0, .nameAndType 5 11), (0, u "([C)V"), (0, .methodref 13 14), (0, .class_ 15), (0, .nameAndType 16 17), (0, u "com/example/elegua/elegua/authorization/AccessRolePinLaw"), (0, u "mk"), (0, u "(I)Ljava/lang/String;"), (0, .class_ 19), (0, u "com/example/elegua/elegua/context/Identity"), (0, .string 21), (0, u "u"), (0, .interfaceMethodref 23 24), (0, .class_ 25), (0, .nameAndType 26 27), (0, u "java/util/Set"), (0, u "of"), (0, u "()Ljava/util/Set;"), (0, .methodref 18 29), (0, .nameAndType 5 30), (0, u "(Ljava/lang/String;Ljava/util/Set;)V"), (0, .interfaceMethodref 23 32), (0, .nameAndType 26 33), (0, u "(Ljava/lang/Object;)Ljava/util/Set;"), (0, .methodref 7 35), (0, .nameAndType 36 37), (0, u "equals"), (0, u "(Ljava/lang/Object;)Z"), (0, .methodref 39 40), (0, .class_ 41), (0, .nameAndType 42 43), (0, u "com/example/elegua/elegua/authorization/Access"), (0, u "role"), (0, u "(Ljava/lang/String;)Lcom/example/elegua/elegua/authorization/Access;"), (0, .methodref 39 45), (0, .nameAndType 46 47), (0, u "allows"), (0, u "(Lcom/example/elegua/elegua/context/Identity;)Z"), (0, .methodref 39 49), (0, .nameAndType 50 51), (0, u "toString"), (0, u "()Ljava/lang/String;"), (0, .methodref 7 53), (0, .nameAndType 54 55), (0, u "length"), (0, u "()I"), (0, .methodref 7 57), (0, .nameAndType 58 59), (0, u "charAt"), (0, u "(I)C"), (3, u "law"), (0, u "(III)Z")] 2

def k1m0 : Method := { name := "<init>", desc := "()V", sig := { parameters := [], returnType := none }, accessFlags := 1, code := none }
def k1c1 : Code := { maxStack := 6, maxLocals := 5, code := method_2_code, exceptionTable := #[], attributes := #[] }
def k1m1 : Method := { name := "mk", desc := "(I)Ljava/lang/String;", sig := { parameters := [.int], returnType := some (.object "java/lang/String") }, accessFlags := 10, code := some k1c1 }
def k1c2 : Code := { maxStack := 4, maxLocals := 13, code := code, exceptionTable := #[], attributes := #[] }
def k1m2 : Method := { name := "law", desc := "(III)Z", sig := { parameters := [.int, .int, .int], returnType := some .boolean }, accessFlags := 9, code := some k1c2 }
/-- com/example/elegua/elegua/authorization/AccessRolePinLaw -/
def k1 : Class := { plain "com/example/elegua/elegua/authorization/AccessRolePinLaw" (some 0) with
  accessFlags := 49
  interfaces := #[]
  cf := some (fileOf pool1 13 #[] #[{ accessFlags := 1, nameIndex := 5, descriptorIndex := 6, attributes := #[] }, { accessFlags := 10, nameIndex := 16, descriptorIndex := 17, attributes := #[] }, { accessFlags := 9, nameIndex := 63, descriptorIndex := 64, attributes := #[] }] 49 2 #[] #[])
  fields := #[]
  methods := #[k1m0, k1m1, k1m2]
  instanceTypes := #[]
  staticTypes := #[]
  resolved := Array.replicate 67 none
  statics := none }

def pool2 : Array CpInfo := pool [(1, .class_ 2), (0, u "java/io/Serializable"), (0, .class_ 4), (0, u "java/lang/Object")] 2

/-- java/io/Serializable -/
def k2 : Class := { plain "java/io/Serializable" (some 0) with
  accessFlags := 1537
  interfaces := #[]
  cf := some (fileOf pool2 1 #[] #[] 1537 3 #[] #[])
  fields := #[]
  methods := #[]
  instanceTypes := #[]
  staticTypes := #[]
  resolved := Array.replicate 7 none
  statics := none }

def pool3 : Array CpInfo := pool [(1, .class_ 2), (0, u "java/lang/Comparable"), (0, .class_ 4), (0, u "java/lang/Object")] 7

/-- java/lang/Comparable -/
def k3 : Class := { plain "java/lang/Comparable" (some 0) with
  accessFlags := 1537
  interfaces := #[]
  cf := some (fileOf pool3 1 #[] #[] 1537 3 #[] #[])
  fields := #[]
  methods := #[]
  instanceTypes := #[]
  staticTypes := #[]
  resolved := Array.replicate 12 none
  statics := none }

def pool4 : Array CpInfo := pool [(2, .class_ 4), (1, u "java/lang/CharSequence"), (42, .class_ 48), (0, u "java/lang/CharSequence$1CodePointIterator"), (10, .class_ 60), (0, u "java/lang/CharSequence$1CharIterator"), (5, .class_ 67), (0, u "java/lang/Object")] 63

/-- java/lang/CharSequence -/
def k4 : Class := { plain "java/lang/CharSequence" (some 0) with
  accessFlags := 1537
  interfaces := #[]
  cf := some (fileOf pool4 2 #[.nestMembers #[47, 59]] #[] 1537 66 #[] #[])
  fields := #[]
  methods := #[]
  instanceTypes := #[]
  staticTypes := #[]
  resolved := Array.replicate 131 none
  statics := none }

def pool5 : Array CpInfo := pool [(1, .class_ 2), (0, u "java/lang/constant/Constable"), (0, .class_ 4), (0, u "java/lang/Object")] 6

/-- java/lang/constant/Constable -/
def k5 : Class := { plain "java/lang/constant/Constable" (some 0) with
  accessFlags := 1537
  interfaces := #[]
  cf := some (fileOf pool5 1 #[] #[] 1537 3 #[] #[])
  fields := #[]
  methods := #[]
  instanceTypes := #[]
  staticTypes := #[]
  resolved := Array.replicate 11 none
  statics := none }

def pool6 : Array CpInfo := pool [(1, .class_ 2), (0, u "java/lang/constant/ConstantDesc"), (0, .class_ 4), (0, u "java/lang/Object")] 32

/-- java/lang/constant/ConstantDesc -/
def k6 : Class := { plain "java/lang/constant/ConstantDesc" (some 0) with
  accessFlags := 1537
  interfaces := #[]
  cf := some (fileOf pool6 1 #[] #[] 1537 3 #[] #[])
  fields := #[]
  methods := #[]
  instanceTypes := #[]
  staticTypes := #[]
  resolved := Array.replicate 37 none
  statics := none }

def pool7 : Array CpInfo := pool [(1, .methodref 2 3), (0, .class_ 4), (0, .nameAndType 5 6), (0, u "java/lang/Object"), (0, u "<init>"), (0, u "()V"), (0, .string 8), (0, u ""), (0, .fieldref 10 11), (0, .class_ 12), (0, .nameAndType 13 14), (0, u "java/lang/String"), (0, u "value"), (0, u "[B"), (0, .fieldref 10 16), (0, .nameAndType 17 18), (0, u "coder"), (0, u "B"), (2, u "hash"), (0, u "I"), (2, u "hashIsZero"), (0, u "Z"), (0, .methodref 10 28), (0, .nameAndType 5 29), (0, u "([CIILjava/lang/Void;)V"), (8, .fieldref 10 39), (0, .nameAndType 40 26), (0, u "COMPACT_STRINGS"), (1, .class_ 44), (1, u "java/lang/StringUTF16"), (0, u "compress"), (1, .methodref 42 48), (0, .nameAndType 49 50), (0, u "coderFromArrayLen"), (0, u "([BI)B"), (3, .methodref 55 56), (0, .class_ 57), (0, .nameAndType 58 59), (0, u "java/util/Arrays"), (0, u "copyOfRange"), (0, u "([BII)[B"), (47, .class_ 109), (1, u "java/lang/StringLatin1"), (32, u "()Z"), (34, .methodref 42 178), (0, .nameAndType 45 179), (0, u "([CII)[B"), (13, .class_ 195), (1, u "java/lang/System"), (16, .methodref 193 213), (0, .nameAndType 214 215), (0, u "arraycopy"), (0, u "(Ljava/lang/Object;ILjava/lang/Object;II)V"), (118, u "()I"), (0, .methodref 10 336), (0, .nameAndType 17 337), (0, u "()B"), (2, u "()[B"), (22, u "([BI)C"), (27, u "(II)V"), (35, u "(I)C"), (61, .methodref 10 490), (0, .nameAndType 5 491), (0, u "(Ljava/lang/AbstractStringBuilder;Ljava/lang/Void;)V"), (0, .methodref 10 493), (0, .nameAndType 494 142), (0, u "isLatin1"), (0, .methodref 107 496), (0, .nameAndType 497 363), (0, u "charAt"), (3, u "checkIndex"), (4, .nameAndType 507 334), (0, u "length"), (24, u "getBytes"), (8, .methodref 107 542), (0, .nameAndType 543 544), (0, u "equals"), (0, u "([B[B)Z"), (4, .methodref 550 506), (0, .class_ 551), (0, u "java/lang/AbstractStringBuilder"), (0, .methodref 550 553), (0, .nameAndType 554 340), (0, u "getValue"), (18, u "(Ljava/lang/Object;)Z"), (1, .class_ 576), (0, u "java/lang/CharSequence"), (22, u "CASE_INSENSITIVE_ORDER"), (0, u "Ljava/util/Comparator;"), (220, u "([BIB)V"), (188, u "([C)V"), (36, .methodref 550 493), (5, .fieldref 1054 1055), (0, .class_ 1056), (0, .nameAndType 1057 1058), (0, u "jdk/internal/util/Preconditions"), (0, u "SIOOBE_FORMATTER"), (0, u "Ljava/util/function/BiFunction;"), (0, .methodref 1054 1060), (0, .nameAndType 501 1061), (0, u "(IILjava/util/function/BiFunction;)I"), (39, u "serialPersistentFields"), (0, u "[Ljava/io/ObjectStreamField;"), (0, .class_ 1104), (0, u "java/lang/String$CaseInsensitiveComparator"), (1, .class_ 1107), (0, u "java/io/Serializable"), (0, .class_ 1109), (0, u "java/lang/Comparable"), (0, .class_ 1111), (0, u "java/lang/constant/Constable"), (0, .class_ 1113), (0, u "java/lang/constant/ConstantDesc"), (2, u "serialVersionUID"), (0, u "J"), (3, u "REPL"), (0, u "C"), (2, u "LATIN1"), (1, u "UTF16"), (105, u "(Ljava/lang/StringBuilder;)V")] 217

def k7m0 : Method := { name := "<init>", desc := "()V", sig := { parameters := [], returnType := none }, accessFlags := 1, code := none }
def k7c1 : Code := { maxStack := 5, maxLocals := 2, code := jdk_42_method_3_code, exceptionTable := #[], attributes := #[] }
def k7m1 : Method := { name := "<init>", desc := "([C)V", sig := { parameters := [(.array .char)], returnType := none }, accessFlags := 1, code := some k7c1 }
def k7c2 : Code := { maxStack := 3, maxLocals := 2, code := jdk_42_method_53_code, exceptionTable := #[], attributes := #[] }
def k7m2 : Method := { name := "<init>", desc := "(Ljava/lang/StringBuilder;)V", sig := { parameters := [(.object "java/lang/StringBuilder")], returnType := none }, accessFlags := 1, code := some k7c2 }
def k7c3 : Code := { maxStack := 2, maxLocals := 1, code := jdk_42_method_54_code, exceptionTable := #[], attributes := #[] }
def k7m3 : Method := { name := "length", desc := "()I", sig := { parameters := [], returnType := some .int }, accessFlags := 1, code := some k7c3 }
def k7c4 : Code := { maxStack := 2, maxLocals := 2, code := jdk_42_method_56_code, exceptionTable := #[], attributes := #[] }
def k7m4 : Method := { name := "charAt", desc := "(I)C", sig := { parameters := [.int], returnType := some .char }, accessFlags := 1, code := some k7c4 }
def k7c5 : Code := { maxStack := 2, maxLocals := 3, code := jdk_42_method_66_code, exceptionTable := #[], attributes := #[] }
def k7m5 : Method := { name := "equals", desc := "(Ljava/lang/Object;)Z", sig := { parameters := [(.object "java/lang/Object")], returnType := some .boolean }, accessFlags := 1, code := some k7c5 }
def k7c6 : Code := { maxStack := 5, maxLocals := 4, code := jdk_42_method_147_code, exceptionTable := #[], attributes := #[] }
def k7m6 : Method := { name := "getBytes", desc := "([BIB)V", sig := { parameters := [(.array .byte), .int, .byte], returnType := none }, accessFlags := 0, code := some k7c6 }
def k7c7 : Code := { maxStack := 4, maxLocals := 6, code := jdk_42_method_149_code, exceptionTable := #[], attributes := #[] }
def k7m7 : Method := { name := "<init>", desc := "([CIILjava/lang/Void;)V", sig := { parameters := [(.array .char), .int, .int, (.object "java/lang/Void")], returnType := none }, accessFlags := 2, code := some k7c7 }
def k7c8 : Code := { maxStack := 5, maxLocals := 5, code := jdk_42_method_150_code, exceptionTable := #[], attributes := #[] }
def k7m8 : Method := { name := "<init>", desc := "(Ljava/lang/AbstractStringBuilder;Ljava/lang/Void;)V", sig := { parameters := [(.object "java/lang/AbstractStringBuilder"), (.object "java/lang/Void")], returnType := none }, accessFlags := 0, code := some k7c8 }
def k7c9 : Code := { maxStack := 1, maxLocals := 1, code := jdk_42_method_152_code, exceptionTable := #[], attributes := #[] }
def k7m9 : Method := { name := "coder", desc := "()B", sig := { parameters := [], returnType := some .byte }, accessFlags := 0, code := some k7c9 }
def k7c10 : Code := { maxStack := 1, maxLocals := 1, code := jdk_42_method_154_code, exceptionTable := #[], attributes := #[] }
def k7m10 : Method := { name := "isLatin1", desc := "()Z", sig := { parameters := [], returnType := some .boolean }, accessFlags := 0, code := some k7c10 }
def k7c11 : Code := { maxStack := 3, maxLocals := 2, code := jdk_42_method_155_code, exceptionTable := #[], attributes := #[] }
def k7m11 : Method := { name := "checkIndex", desc := "(II)V", sig := { parameters := [.int, .int], returnType := none }, accessFlags := 8, code := some k7c11 }
/-- java/lang/String -/
def k7 : Class := { plain "java/lang/String" (some 0) with
  accessFlags := 49
  interfaces := #[2, 3, 4, 5, 6]
  cf := some (fileOf pool7 10 #[.nestMembers #[1103]] #[{ accessFlags := 1, nameIndex := 5, descriptorIndex := 6, attributes := #[] }, { accessFlags := 1, nameIndex := 5, descriptorIndex := 1010, attributes := #[] }, { accessFlags := 1, nameIndex := 5, descriptorIndex := 1233, attributes := #[] }, { accessFlags := 1, nameIndex := 507, descriptorIndex := 334, attributes := #[] }, { accessFlags := 1, nameIndex := 497, descriptorIndex := 427, attributes := #[] }, { accessFlags := 1, nameIndex := 543, descriptorIndex := 573, attributes := #[] }, { accessFlags := 0, nameIndex := 532, descriptorIndex := 821, attributes := #[] }, { accessFlags := 2, nameIndex := 5, descriptorIndex := 29, attributes := #[] }, { accessFlags := 0, nameIndex := 5, descriptorIndex := 491, attributes := #[] }, { accessFlags := 0, nameIndex := 17, descriptorIndex := 337, attributes := #[] }, { accessFlags := 0, nameIndex := 494, descriptorIndex := 142, attributes := #[] }, { accessFlags := 8, nameIndex := 501, descriptorIndex := 391, attributes := #[] }] 49 2 #[1106, 1108, 575, 1110, 1112] #[{ accessFlags := 18, nameIndex := 13, descriptorIndex := 14, attributes := #[] }, { accessFlags := 18, nameIndex := 17, descriptorIndex := 18, attributes := #[] }, { accessFlags := 2, nameIndex := 21, descriptorIndex := 22, attributes := #[] }, { accessFlags := 2, nameIndex := 25, descriptorIndex := 26, attributes := #[] }, { accessFlags := 26, nameIndex := 1116, descriptorIndex := 1117, attributes := #[] }, { accessFlags := 24, nameIndex := 40, descriptorIndex := 26, attributes := #[] }, { accessFlags := 26, nameIndex := 1101, descriptorIndex := 1102, attributes := #[] }, { accessFlags := 26, nameIndex := 1121, descriptorIndex := 1122, attributes := #[] }, { accessFlags := 25, nameIndex := 599, descriptorIndex := 600, attributes := #[] }, { accessFlags := 24, nameIndex := 1125, descriptorIndex := 18, attributes := #[] }, { accessFlags := 24, nameIndex := 1127, descriptorIndex := 18, attributes := #[] }])
  fields := #[{ name := "value", type := (.array .byte), accessFlags := 18, slot := 0, constantValue := 0 }, { name := "coder", type := .byte, accessFlags := 18, slot := 1, constantValue := 0 }, { name := "hash", type := .int, accessFlags := 2, slot := 2, constantValue := 0 }, { name := "hashIsZero", type := .boolean, accessFlags := 2, slot := 3, constantValue := 0 }, { name := "serialVersionUID", type := .long, accessFlags := 26, slot := 0, constantValue := 0 }, { name := "COMPACT_STRINGS", type := .boolean, accessFlags := 24, slot := 1, constantValue := 0 }, { name := "serialPersistentFields", type := (.array (.object "java/io/ObjectStreamField")), accessFlags := 26, slot := 2, constantValue := 0 }, { name := "REPL", type := .char, accessFlags := 26, slot := 3, constantValue := 0 }, { name := "CASE_INSENSITIVE_ORDER", type := (.object "java/util/Comparator"), accessFlags := 25, slot := 4, constantValue := 0 }, { name := "LATIN1", type := .byte, accessFlags := 24, slot := 5, constantValue := 0 }, { name := "UTF16", type := .byte, accessFlags := 24, slot := 6, constantValue := 0 }]
  methods := #[k7m0, k7m1, k7m2, k7m3, k7m4, k7m5, k7m6, k7m7, k7m8, k7m9, k7m10, k7m11]
  instanceTypes := #[(.array .byte), .byte, .int, .boolean]
  staticTypes := #[.long, .boolean, (.array (.object "java/io/ObjectStreamField")), .char, (.object "java/util/Comparator"), .byte, .byte]
  resolved := Array.replicate 1451 none
  statics := some 0 }

def pool8 : Array CpInfo := pool [(1, .methodref 2 3), (0, .class_ 4), (0, .nameAndType 5 6), (0, u "java/lang/Object"), (0, u "<init>"), (0, u "()V"), (0, .class_ 8), (0, u "java/lang/Record")] 13

def k8c0 : Code := { maxStack := 1, maxLocals := 1, code := jdk_30_method_1_code, exceptionTable := #[], attributes := #[] }
def k8m0 : Method := { name := "<init>", desc := "()V", sig := { parameters := [], returnType := none }, accessFlags := 4, code := some k8c0 }
/-- java/lang/Record -/
def k8 : Class := { plain "java/lang/Record" (some 0) with
  accessFlags := 1057
  interfaces := #[]
  cf := some (fileOf pool8 7 #[] #[{ accessFlags := 4, nameIndex := 5, descriptorIndex := 6, attributes := #[] }] 1057 2 #[] #[])
  fields := #[]
  methods := #[k8m0]
  instanceTypes := #[]
  staticTypes := #[]
  resolved := Array.replicate 22 none
  statics := none }

def pool9 : Array CpInfo := pool [(13, .class_ 14), (0, u "java/security/Principal"), (0, .class_ 16), (0, u "java/lang/Object")] 18

/-- java/security/Principal -/
def k9 : Class := { plain "java/security/Principal" (some 0) with
  accessFlags := 1537
  interfaces := #[]
  cf := some (fileOf pool9 13 #[] #[] 1537 15 #[] #[])
  fields := #[]
  methods := #[]
  instanceTypes := #[]
  staticTypes := #[]
  resolved := Array.replicate 35 none
  statics := none }

def pool10 : Array CpInfo := pool [(1, .methodref 2 3), (0, .class_ 4), (0, .nameAndType 5 6), (0, u "java/lang/Record"), (0, u "<init>"), (0, u "()V"), (0, .string 8), (0, u "name"), (0, .methodref 10 11), (0, .class_ 12), (0, .nameAndType 13 14), (0, u "java/util/Objects"), (0, u "requireNonNull"), (0, u "(Ljava/lang/Object;Ljava/lang/String;)Ljava/lang/Object;"), (0, .interfaceMethodref 16 17), (0, .class_ 18), (0, .nameAndType 19 20), (0, u "java/util/Set"), (0, u "copyOf"), (0, u "(Ljava/util/Collection;)Ljava/util/Set;"), (0, .fieldref 22 23), (0, .class_ 24), (0, .nameAndType 8 25), (0, u "com/example/elegua/elegua/context/Identity"), (0, u "Ljava/lang/String;"), (0, .fieldref 22 27), (0, .nameAndType 28 29), (0, u "roles"), (0, u "Ljava/util/Set;"), (0, .interfaceMethodref 16 31), (0, .nameAndType 32 33), (0, u "contains"), (0, u "(Ljava/lang/Object;)Z"), (12, .class_ 47), (0, u "java/security/Principal"), (0, .class_ 49), (0, u "java/io/Serializable"), (2, u "(Ljava/lang/String;Ljava/util/Set;)V"), (6, u "hasRole"), (0, u "(Ljava/lang/String;)Z")] 24

def k10c0 : Code := { maxStack := 2, maxLocals := 3, code := prog_6_method_1_code, exceptionTable := #[], attributes := #[] }
def k10m0 : Method := { name := "<init>", desc := "(Ljava/lang/String;Ljava/util/Set;)V", sig := { parameters := [(.object "java/lang/String"), (.object "java/util/Set")], returnType := none }, accessFlags := 1, code := some k10c0 }
def k10c1 : Code := { maxStack := 2, maxLocals := 2, code := prog_6_method_3_code, exceptionTable := #[], attributes := #[] }
def k10m1 : Method := { name := "hasRole", desc := "(Ljava/lang/String;)Z", sig := { parameters := [(.object "java/lang/String")], returnType := some .boolean }, accessFlags := 1, code := some k10c1 }
/-- com/example/elegua/elegua/context/Identity -/
def k10 : Class := { plain "com/example/elegua/elegua/context/Identity" (some 8) with
  accessFlags := 49
  interfaces := #[9, 2]
  cf := some (fileOf pool10 22 #[] #[{ accessFlags := 1, nameIndex := 5, descriptorIndex := 52, attributes := #[] }, { accessFlags := 1, nameIndex := 59, descriptorIndex := 60, attributes := #[] }] 49 2 #[46, 48] #[{ accessFlags := 18, nameIndex := 8, descriptorIndex := 25, attributes := #[] }, { accessFlags := 18, nameIndex := 28, descriptorIndex := 29, attributes := #[] }])
  fields := #[{ name := "name", type := (.object "java/lang/String"), accessFlags := 18, slot := 0, constantValue := 0 }, { name := "roles", type := (.object "java/util/Set"), accessFlags := 18, slot := 1, constantValue := 0 }]
  methods := #[k10m0, k10m1]
  instanceTypes := #[(.object "java/lang/String"), (.object "java/util/Set")]
  staticTypes := #[]
  resolved := Array.replicate 85 none
  statics := none }

def pool11 : Array CpInfo := pool [(8, .class_ 10), (1, u "java/lang/Iterable"), (24, .class_ 36), (0, u "java/lang/Object")] 25

/-- java/lang/Iterable -/
def k11 : Class := { plain "java/lang/Iterable" (some 0) with
  accessFlags := 1537
  interfaces := #[]
  cf := some (fileOf pool11 8 #[] #[] 1537 35 #[] #[])
  fields := #[]
  methods := #[]
  instanceTypes := #[]
  staticTypes := #[]
  resolved := Array.replicate 62 none
  statics := none }

def pool12 : Array CpInfo := pool [(10, .class_ 12), (1, u "java/util/Collection"), (47, .class_ 61), (0, u "java/lang/Object"), (0, .class_ 63), (0, u "java/lang/Iterable")] 51

/-- java/util/Collection -/
def k12 : Class := { plain "java/util/Collection" (some 0) with
  accessFlags := 1537
  interfaces := #[11]
  cf := some (fileOf pool12 10 #[] #[] 1537 60 #[62] #[])
  fields := #[]
  methods := #[]
  instanceTypes := #[]
  staticTypes := #[]
  resolved := Array.replicate 115 none
  statics := none }

def pool13 : Array CpInfo := pool [(9, .fieldref 10 11), (0, .class_ 12), (0, .nameAndType 13 14), (0, u "java/util/ImmutableCollections"), (0, u "EMPTY_SET"), (0, u "Ljava/util/ImmutableCollections$SetN;"), (0, .class_ 16), (0, u "java/util/ImmutableCollections$Set12"), (0, .methodref 15 18), (0, .nameAndType 19 20), (0, u "<init>"), (0, u "(Ljava/lang/Object;)V"), (5, .class_ 27), (0, u "java/lang/Object"), (3, .class_ 32), (0, u "java/util/ImmutableCollections$AbstractImmutableSet"), (0, .class_ 34), (0, u "java/util/Set"), (1, .class_ 38), (1, u "java/util/Collection"), (4, u "of"), (0, u "()Ljava/util/Set;"), (14, u "contains"), (0, u "(Ljava/lang/Object;)Z"), (30, u "(Ljava/lang/Object;)Ljava/util/Set;"), (39, u "copyOf"), (0, u "(Ljava/util/Collection;)Ljava/util/Set;")] 11

def k13m0 : Method := { name := "contains", desc := "(Ljava/lang/Object;)Z", sig := { parameters := [(.object "java/lang/Object")], returnType := some .boolean }, accessFlags := 1025, code := none }
def k13c1 : Code := { maxStack := 1, maxLocals := 0, code := jdk_96_method_17_code, exceptionTable := #[], attributes := #[] }
def k13m1 : Method := { name := "of", desc := "()Ljava/util/Set;", sig := { parameters := [], returnType := some (.object "java/util/Set") }, accessFlags := 9, code := some k13c1 }
def k13c2 : Code := { maxStack := 3, maxLocals := 1, code := jdk_96_method_18_code, exceptionTable := #[], attributes := #[] }
def k13m2 : Method := { name := "of", desc := "(Ljava/lang/Object;)Ljava/util/Set;", sig := { parameters := [(.object "java/lang/Object")], returnType := some (.object "java/util/Set") }, accessFlags := 9, code := some k13c2 }
def k13c3 : Code := { maxStack := 3, maxLocals := 1, code := jdk_96_method_29_code, exceptionTable := #[], attributes := #[] }
def k13m3 : Method := { name := "copyOf", desc := "(Ljava/util/Collection;)Ljava/util/Set;", sig := { parameters := [(.object "java/util/Collection")], returnType := some (.object "java/util/Set") }, accessFlags := 9, code := some k13c3 }
/-- java/util/Set -/
def k13 : Class := { plain "java/util/Set" (some 0) with
  accessFlags := 1537
  interfaces := #[12]
  cf := some (fileOf pool13 33 #[] #[{ accessFlags := 1025, nameIndex := 59, descriptorIndex := 60, attributes := #[] }, { accessFlags := 9, nameIndex := 43, descriptorIndex := 44, attributes := #[] }, { accessFlags := 9, nameIndex := 43, descriptorIndex := 91, attributes := #[] }, { accessFlags := 9, nameIndex := 131, descriptorIndex := 132, attributes := #[] }] 1537 26 #[36] #[])
  fields := #[]
  methods := #[k13m0, k13m1, k13m2, k13m3]
  instanceTypes := #[]
  staticTypes := #[]
  resolved := Array.replicate 144 none
  statics := none }

def pool14 : Array CpInfo := pool [(1, .methodref 2 3), (0, .class_ 4), (0, .nameAndType 5 6), (0, u "java/lang/Object"), (0, u "<init>"), (0, u "()V"), (1, .class_ 10), (1, u "java/util/AbstractCollection"), (66, .class_ 78), (0, u "java/util/Collection")] 81

def k14c0 : Code := { maxStack := 1, maxLocals := 1, code := jdk_22_method_1_code, exceptionTable := #[], attributes := #[] }
def k14m0 : Method := { name := "<init>", desc := "()V", sig := { parameters := [], returnType := none }, accessFlags := 4, code := some k14c0 }
/-- java/util/AbstractCollection -/
def k14 : Class := { plain "java/util/AbstractCollection" (some 0) with
  accessFlags := 1057
  interfaces := #[12]
  cf := some (fileOf pool14 8 #[] #[{ accessFlags := 4, nameIndex := 5, descriptorIndex := 6, attributes := #[] }] 1057 2 #[77] #[])
  fields := #[]
  methods := #[k14m0]
  instanceTypes := #[]
  staticTypes := #[]
  resolved := Array.replicate 160 none
  statics := none }

def pool15 : Array CpInfo := pool [(1, .methodref 2 3), (0, .class_ 4), (0, .nameAndType 5 6), (0, u "java/util/AbstractCollection"), (0, u "<init>"), (0, u "()V"), (1, .class_ 10), (1, u "java/util/ImmutableCollections"), (2, .class_ 14), (0, u "java/util/ImmutableCollections$AbstractImmutableCollection")] 41

def k15c0 : Code := { maxStack := 1, maxLocals := 1, code := jdk_47_method_1_code, exceptionTable := #[], attributes := #[] }
def k15m0 : Method := { name := "<init>", desc := "()V", sig := { parameters := [], returnType := none }, accessFlags := 0, code := some k15c0 }
/-- java/util/ImmutableCollections$AbstractImmutableCollection -/
def k15 : Class := { plain "java/util/ImmutableCollections$AbstractImmutableCollection" (some 14) with
  accessFlags := 1056
  interfaces := #[]
  cf := some (fileOf pool15 13 #[.nestHost 8] #[{ accessFlags := 0, nameIndex := 5, descriptorIndex := 6, attributes := #[] }] 1056 2 #[] #[])
  fields := #[]
  methods := #[k15m0]
  instanceTypes := #[]
  staticTypes := #[]
  resolved := Array.replicate 56 none
  statics := none }

def pool16 : Array CpInfo := pool [(1, .methodref 2 3), (0, .class_ 4), (0, .nameAndType 5 6), (0, u "java/util/ImmutableCollections$AbstractImmutableCollection"), (0, u "<init>"), (0, u "()V"), (0, .class_ 8), (0, u "java/util/Set"), (7, .class_ 17), (0, u "java/util/ImmutableCollections$AbstractImmutableSet"), (43, .class_ 62), (0, u "java/util/ImmutableCollections")] 3

def k16c0 : Code := { maxStack := 1, maxLocals := 1, code := jdk_100_method_1_code, exceptionTable := #[], attributes := #[] }
def k16m0 : Method := { name := "<init>", desc := "()V", sig := { parameters := [], returnType := none }, accessFlags := 0, code := some k16c0 }
/-- java/util/ImmutableCollections$AbstractImmutableSet -/
def k16 : Class := { plain "java/util/ImmutableCollections$AbstractImmutableSet" (some 15) with
  accessFlags := 1056
  interfaces := #[13]
  cf := some (fileOf pool16 16 #[.nestHost 61] #[{ accessFlags := 0, nameIndex := 5, descriptorIndex := 6, attributes := #[] }] 1056 2 #[7] #[])
  fields := #[]
  methods := #[k16m0]
  instanceTypes := #[]
  staticTypes := #[]
  resolved := Array.replicate 66 none
  statics := none }

def pool17 : Array CpInfo := pool [(1, .methodref 2 3), (0, .class_ 4), (0, .nameAndType 5 6), (0, u "java/util/ImmutableCollections$AbstractImmutableSet"), (0, u "<init>"), (0, u "()V"), (0, .methodref 8 9), (0, .class_ 10), (0, .nameAndType 11 12), (0, u "java/util/Objects"), (0, u "requireNonNull"), (0, u "(Ljava/lang/Object;)Ljava/lang/Object;"), (0, .fieldref 14 15), (0, .class_ 16), (0, .nameAndType 17 18), (0, u "java/util/ImmutableCollections$Set12"), (0, u "e0"), (0, u "Ljava/lang/Object;"), (0, .fieldref 20 21), (0, .class_ 22), (0, .nameAndType 23 18), (0, u "java/util/ImmutableCollections"), (0, u "EMPTY"), (0, .fieldref 14 25), (0, .nameAndType 26 18), (0, u "e1"), (0, .methodref 28 29), (0, .class_ 30), (0, .nameAndType 31 32), (0, u "java/lang/Object"), (0, u "equals"), (0, u "(Ljava/lang/Object;)Z"), (64, .class_ 98), (0, u "java/io/Serializable"), (4, u "(Ljava/lang/Object;)V"), (13, u "contains")] 31

def k17c0 : Code := { maxStack := 2, maxLocals := 2, code := jdk_101_method_1_code, exceptionTable := #[], attributes := #[] }
def k17m0 : Method := { name := "<init>", desc := "(Ljava/lang/Object;)V", sig := { parameters := [(.object "java/lang/Object")], returnType := none }, accessFlags := 0, code := some k17c0 }
def k17c1 : Code := { maxStack := 2, maxLocals := 2, code := jdk_101_method_5_code, exceptionTable := #[], attributes := #[] }
def k17m1 : Method := { name := "contains", desc := "(Ljava/lang/Object;)Z", sig := { parameters := [(.object "java/lang/Object")], returnType := some .boolean }, accessFlags := 1, code := some k17c1 }
/-- java/util/ImmutableCollections$Set12 -/
def k17 : Class := { plain "java/util/ImmutableCollections$Set12" (some 16) with
  accessFlags := 48
  interfaces := #[2]
  cf := some (fileOf pool17 14 #[.nestHost 20] #[{ accessFlags := 0, nameIndex := 5, descriptorIndex := 103, attributes := #[] }, { accessFlags := 1, nameIndex := 117, descriptorIndex := 32, attributes := #[] }] 48 2 #[97] #[{ accessFlags := 18, nameIndex := 17, descriptorIndex := 18, attributes := #[] }, { accessFlags := 18, nameIndex := 26, descriptorIndex := 18, attributes := #[] }])
  fields := #[{ name := "e0", type := (.object "java/lang/Object"), accessFlags := 18, slot := 0, constantValue := 0 }, { name := "e1", type := (.object "java/lang/Object"), accessFlags := 18, slot := 1, constantValue := 0 }]
  methods := #[k17m0, k17m1]
  instanceTypes := #[(.object "java/lang/Object"), (.object "java/lang/Object")]
  staticTypes := #[]
  resolved := Array.replicate 149 none
  statics := none }

def pool18 : Array CpInfo := pool [(2, .class_ 4), (1, u "java/lang/Object"), (0, u "<init>"), (0, u "()V"), (35, .class_ 44), (1, u "java/util/Objects"), (0, u "requireNonNull"), (0, u "(Ljava/lang/Object;)Ljava/lang/Object;"), (47, u "(Ljava/lang/Object;Ljava/lang/String;)Ljava/lang/Object;")] 89

def k18m0 : Method := { name := "<init>", desc := "()V", sig := { parameters := [], returnType := none }, accessFlags := 2, code := none }
def k18c1 : Code := { maxStack := 2, maxLocals := 1, code := jdk_31_method_10_code, exceptionTable := #[], attributes := #[] }
def k18m1 : Method := { name := "requireNonNull", desc := "(Ljava/lang/Object;)Ljava/lang/Object;", sig := { parameters := [(.object "java/lang/Object")], returnType := some (.object "java/lang/Object") }, accessFlags := 9, code := some k18c1 }
def k18c2 : Code := { maxStack := 3, maxLocals := 2, code := jdk_31_method_11_code, exceptionTable := #[], attributes := #[] }
def k18m2 : Method := { name := "requireNonNull", desc := "(Ljava/lang/Object;Ljava/lang/String;)Ljava/lang/Object;", sig := { parameters := [(.object "java/lang/Object"), (.object "java/lang/String")], returnType := some (.object "java/lang/Object") }, accessFlags := 9, code := some k18c2 }
/-- java/util/Objects -/
def k18 : Class := { plain "java/util/Objects" (some 0) with
  accessFlags := 49
  interfaces := #[]
  cf := some (fileOf pool18 42 #[] #[{ accessFlags := 2, nameIndex := 5, descriptorIndex := 6, attributes := #[] }, { accessFlags := 9, nameIndex := 45, descriptorIndex := 46, attributes := #[] }, { accessFlags := 9, nameIndex := 45, descriptorIndex := 94, attributes := #[] }] 49 2 #[] #[])
  fields := #[]
  methods := #[k18m0, k18m1, k18m2]
  instanceTypes := #[]
  staticTypes := #[]
  resolved := Array.replicate 184 none
  statics := none }

def pool19 : Array CpInfo := pool [(2, .class_ 4), (1, u "java/lang/Object"), (0, u "<init>"), (0, u "()V"), (3, .class_ 11), (0, u "java/util/ImmutableCollections$List12"), (0, .class_ 13), (0, u "java/util/ImmutableCollections$ListN"), (3, u "Z"), (29, .class_ 49), (1, u "java/util/ImmutableCollections"), (0, u "$assertionsDisabled"), (5, u "[Ljava/lang/Object;"), (5, u "EMPTY_LIST"), (0, u "Ljava/util/ImmutableCollections$ListN;"), (8, u "EMPTY_LIST_NULLS"), (22, u "SALT32L"), (0, u "J"), (2, u "REVERSE"), (6, u "archivedObjects"), (2, u "EMPTY"), (0, u "Ljava/lang/Object;"), (0, .class_ 112), (0, u "java/util/ImmutableCollections$SetN"), (5, u "EMPTY_SET"), (0, u "Ljava/util/ImmutableCollections$SetN;"), (0, .class_ 121), (0, u "java/util/ImmutableCollections$MapN"), (3, u "EMPTY_MAP"), (0, u "Ljava/util/ImmutableCollections$MapN;"), (4, u "EXPAND_FACTOR"), (0, u "I"), (36, .class_ 170), (0, u "java/util/ImmutableCollections$MapN$MapNIterator"), (0, .class_ 172), (0, u "java/util/ImmutableCollections$MapN$1"), (0, .class_ 174), (0, u "java/util/ImmutableCollections$Map1"), (0, .class_ 176), (0, u "java/util/ImmutableCollections$AbstractImmutableMap"), (0, .class_ 178), (0, u "java/util/ImmutableCollections$SetN$SetNIterator"), (0, .class_ 180), (0, u "java/util/ImmutableCollections$Set12"), (0, .class_ 182), (0, u "java/util/ImmutableCollections$Set12$1"), (0, .class_ 184), (0, u "java/util/ImmutableCollections$AbstractImmutableSet"), (0, .class_ 186), (0, u "java/util/ImmutableCollections$SubList"), (0, .class_ 188), (0, u "java/util/ImmutableCollections$ListItr"), (0, .class_ 190), (0, u "java/util/ImmutableCollections$AbstractImmutableList"), (0, .class_ 192), (0, u "java/util/ImmutableCollections$AbstractImmutableCollection"), (0, .class_ 194), (0, u "java/util/ImmutableCollections$Access"), (0, .class_ 196), (0, u "java/util/ImmutableCollections$Access$1")] 16

def k19m0 : Method := { name := "<init>", desc := "()V", sig := { parameters := [], returnType := none }, accessFlags := 2, code := none }
/-- java/util/ImmutableCollections -/
def k19 : Class := { plain "java/util/ImmutableCollections" (some 0) with
  accessFlags := 32
  interfaces := #[]
  cf := some (fileOf pool19 47 #[.nestMembers #[120, 169, 171, 173, 175, 111, 177, 179, 181, 183, 12, 10, 185, 187, 189, 191, 193, 195]] #[{ accessFlags := 2, nameIndex := 5, descriptorIndex := 6, attributes := #[] }] 32 2 #[] #[{ accessFlags := 26, nameIndex := 95, descriptorIndex := 96, attributes := #[] }, { accessFlags := 26, nameIndex := 99, descriptorIndex := 17, attributes := #[] }, { accessFlags := 10, nameIndex := 106, descriptorIndex := 56, attributes := #[] }, { accessFlags := 26, nameIndex := 109, descriptorIndex := 110, attributes := #[] }, { accessFlags := 24, nameIndex := 62, descriptorIndex := 63, attributes := #[] }, { accessFlags := 24, nameIndex := 72, descriptorIndex := 63, attributes := #[] }, { accessFlags := 24, nameIndex := 118, descriptorIndex := 119, attributes := #[] }, { accessFlags := 24, nameIndex := 125, descriptorIndex := 126, attributes := #[] }, { accessFlags := 24, nameIndex := 131, descriptorIndex := 132, attributes := #[] }, { accessFlags := 4120, nameIndex := 50, descriptorIndex := 17, attributes := #[] }])
  fields := #[{ name := "SALT32L", type := .long, accessFlags := 26, slot := 0, constantValue := 0 }, { name := "REVERSE", type := .boolean, accessFlags := 26, slot := 1, constantValue := 0 }, { name := "archivedObjects", type := (.array (.object "java/lang/Object")), accessFlags := 10, slot := 2, constantValue := 0 }, { name := "EMPTY", type := (.object "java/lang/Object"), accessFlags := 26, slot := 3, constantValue := 0 }, { name := "EMPTY_LIST", type := (.object "java/util/ImmutableCollections$ListN"), accessFlags := 24, slot := 4, constantValue := 0 }, { name := "EMPTY_LIST_NULLS", type := (.object "java/util/ImmutableCollections$ListN"), accessFlags := 24, slot := 5, constantValue := 0 }, { name := "EMPTY_SET", type := (.object "java/util/ImmutableCollections$SetN"), accessFlags := 24, slot := 6, constantValue := 0 }, { name := "EMPTY_MAP", type := (.object "java/util/ImmutableCollections$MapN"), accessFlags := 24, slot := 7, constantValue := 0 }, { name := "EXPAND_FACTOR", type := .int, accessFlags := 24, slot := 8, constantValue := 0 }, { name := "$assertionsDisabled", type := .boolean, accessFlags := 4120, slot := 9, constantValue := 0 }]
  methods := #[k19m0]
  instanceTypes := #[]
  staticTypes := #[.long, .boolean, (.array (.object "java/lang/Object")), (.object "java/lang/Object"), (.object "java/util/ImmutableCollections$ListN"), (.object "java/util/ImmutableCollections$ListN"), (.object "java/util/ImmutableCollections$SetN"), (.object "java/util/ImmutableCollections$MapN"), .int, .boolean]
  resolved := Array.replicate 213 none
  statics := some 1 }

def pool20 : Array CpInfo := pool [(1, .methodref 2 3), (0, .class_ 4), (0, .nameAndType 5 6), (0, u "java/lang/Object"), (0, u "<init>"), (0, u "()V"), (0, .fieldref 8 9), (0, .class_ 10), (0, .nameAndType 11 12), (0, u "com/example/elegua/elegua/authorization/Access"), (0, u "description"), (0, u "Ljava/lang/String;"), (0, .fieldref 8 14), (0, .nameAndType 15 16), (0, u "test"), (0, u "Ljava/util/function/Predicate;"), (2, u "ANYONE"), (0, u "Lcom/example/elegua/elegua/authorization/Access;"), (2, u "AUTHENTICATED"), (0, .string 25), (0, u "role"), (0, .methodref 27 28), (0, .class_ 29), (0, .nameAndType 30 31), (0, u "java/util/Objects"), (0, u "requireNonNull"), (0, u "(Ljava/lang/Object;Ljava/lang/String;)Ljava/lang/Object;"), (0, .class_ 33), (0, u "java/lang/StringBuilder"), (0, .methodref 32 3), (0, .string 36), (0, u "role "), (0, .methodref 32 38), (0, .nameAndType 39 40), (0, u "append"), (0, u "(Ljava/lang/String;)Ljava/lang/StringBuilder;"), (0, .methodref 32 42), (0, .nameAndType 43 44), (0, u "toString"), (0, u "()Ljava/lang/String;"), (0, .invokeDynamic 0 46), (0, .nameAndType 15 47), (0, u "(Ljava/lang/String;)Ljava/util/function/Predicate;"), (0, .methodref 8 49), (0, .nameAndType 5 50), (0, u "(Ljava/lang/String;Ljava/util/function/Predicate;)V"), (0, .interfaceMethodref 52 53), (0, .class_ 54), (0, .nameAndType 15 55), (0, u "java/util/function/Predicate"), (0, u "(Ljava/lang/Object;)Z"), (0, .methodref 57 58), (0, .class_ 59), (0, .nameAndType 60 61), (0, u "com/example/elegua/elegua/context/Identity"), (0, u "hasRole"), (0, u "(Ljava/lang/String;)Z"), (15, u "(Ljava/lang/String;)Lcom/example/elegua/elegua/authorization/Access;"), (0, u "allows"), (0, u "(Lcom/example/elegua/elegua/context/Identity;)Z"), (0, u "lambda$role$1"), (0, u "(Ljava/lang/String;Lcom/example/elegua/elegua/context/Identity;)Z"), (6, .methodType 55), (0, .methodHandle 6 90), (0, .methodref 8 91), (0, .nameAndType 80 81), (0, .methodType 79), (7, .methodHandle 6 101), (0, .methodref 102 103), (0, .class_ 104), (0, .nameAndType 105 106), (0, u "java/lang/invoke/LambdaMetafactory"), (0, u "metafactory"), (0, u "(Ljava/lang/invoke/MethodHandles$Lookup;Ljava/lang/String;Ljava/lang/invoke/MethodType;Ljava/lang/invoke/MethodType;Ljava/lang/invoke/MethodHandle;Ljava/lang/invoke/MethodType;)Ljava/lang/invoke/CallSite;")] 6

def k20c0 : Code := { maxStack := 2, maxLocals := 3, code := prog_2_method_1_code, exceptionTable := #[], attributes := #[] }
def k20m0 : Method := { name := "<init>", desc := "(Ljava/lang/String;Ljava/util/function/Predicate;)V", sig := { parameters := [(.object "java/lang/String"), (.object "java/util/function/Predicate")], returnType := none }, accessFlags := 2, code := some k20c0 }
def k20c1 : Code := { maxStack := 4, maxLocals := 1, code := prog_2_method_4_code, exceptionTable := #[], attributes := #[] }
def k20m1 : Method := { name := "role", desc := "(Ljava/lang/String;)Lcom/example/elegua/elegua/authorization/Access;", sig := { parameters := [(.object "java/lang/String")], returnType := some (.object "com/example/elegua/elegua/authorization/Access") }, accessFlags := 9, code := some k20c1 }
def k20c2 : Code := { maxStack := 2, maxLocals := 2, code := prog_2_method_5_code, exceptionTable := #[], attributes := #[] }
def k20m2 : Method := { name := "allows", desc := "(Lcom/example/elegua/elegua/context/Identity;)Z", sig := { parameters := [(.object "com/example/elegua/elegua/context/Identity")], returnType := some .boolean }, accessFlags := 1, code := some k20c2 }
def k20c3 : Code := { maxStack := 1, maxLocals := 1, code := prog_2_method_6_code, exceptionTable := #[], attributes := #[] }
def k20m3 : Method := { name := "toString", desc := "()Ljava/lang/String;", sig := { parameters := [], returnType := some (.object "java/lang/String") }, accessFlags := 1, code := some k20c3 }
def k20c4 : Code := { maxStack := 2, maxLocals := 2, code := prog_2_method_7_code, exceptionTable := #[], attributes := #[] }
def k20m4 : Method := { name := "lambda$role$1", desc := "(Ljava/lang/String;Lcom/example/elegua/elegua/context/Identity;)Z", sig := { parameters := [(.object "java/lang/String"), (.object "com/example/elegua/elegua/context/Identity")], returnType := some .boolean }, accessFlags := 4106, code := some k20c4 }
/-- com/example/elegua/elegua/authorization/Access -/
def k20 : Class := { plain "com/example/elegua/elegua/authorization/Access" (some 0) with
  accessFlags := 33
  interfaces := #[]
  cf := some (fileOf pool20 8 #[.bootstrapMethods #[⟨100, #[88, 89, 92]⟩, ⟨0, #[]⟩, ⟨0, #[]⟩]] #[{ accessFlags := 2, nameIndex := 5, descriptorIndex := 50, attributes := #[] }, { accessFlags := 9, nameIndex := 25, descriptorIndex := 77, attributes := #[] }, { accessFlags := 1, nameIndex := 78, descriptorIndex := 79, attributes := #[] }, { accessFlags := 1, nameIndex := 43, descriptorIndex := 44, attributes := #[] }, { accessFlags := 4106, nameIndex := 80, descriptorIndex := 81, attributes := #[] }] 33 2 #[] #[{ accessFlags := 26, nameIndex := 19, descriptorIndex := 20, attributes := #[] }, { accessFlags := 26, nameIndex := 23, descriptorIndex := 20, attributes := #[] }, { accessFlags := 18, nameIndex := 11, descriptorIndex := 12, attributes := #[] }, { accessFlags := 18, nameIndex := 15, descriptorIndex := 16, attributes := #[] }])
  fields := #[{ name := "ANYONE", type := (.object "com/example/elegua/elegua/authorization/Access"), accessFlags := 26, slot := 0, constantValue := 0 }, { name := "AUTHENTICATED", type := (.object "com/example/elegua/elegua/authorization/Access"), accessFlags := 26, slot := 1, constantValue := 0 }, { name := "description", type := (.object "java/lang/String"), accessFlags := 18, slot := 0, constantValue := 0 }, { name := "test", type := (.object "java/util/function/Predicate"), accessFlags := 18, slot := 1, constantValue := 0 }]
  methods := #[k20m0, k20m1, k20m2, k20m3, k20m4]
  instanceTypes := #[(.object "java/lang/String"), (.object "java/util/function/Predicate")]
  staticTypes := #[(.object "com/example/elegua/elegua/authorization/Access"), (.object "com/example/elegua/elegua/authorization/Access")]
  resolved := Array.replicate 113 none
  callSites := [(1, 31, .makes 46)]
  statics := none }

def pool21 : Array CpInfo := pool [(1, .class_ 2), (0, u "java/lang/Appendable"), (0, .class_ 4), (0, u "java/lang/Object")] 9

/-- java/lang/Appendable -/
def k21 : Class := { plain "java/lang/Appendable" (some 0) with
  accessFlags := 1537
  interfaces := #[]
  cf := some (fileOf pool21 1 #[] #[] 1537 3 #[] #[])
  fields := #[]
  methods := #[]
  instanceTypes := #[]
  staticTypes := #[]
  resolved := Array.replicate 14 none
  statics := none }

def pool22 : Array CpInfo := pool [(1, .class_ 2), (0, u "java/lang/String"), (0, .methodref 4 5), (0, .class_ 6), (0, .nameAndType 7 8), (0, u "java/lang/Object"), (0, u "<init>"), (0, u "()V"), (1, .class_ 12), (1, u "java/lang/AbstractStringBuilder"), (0, u "EMPTYVALUE"), (0, u "[B"), (0, .fieldref 10 16), (0, .nameAndType 17 14), (0, u "value"), (0, .fieldref 1 19), (0, .nameAndType 20 21), (0, u "COMPACT_STRINGS"), (0, u "Z"), (0, .fieldref 10 23), (0, .nameAndType 24 25), (0, u "coder"), (0, u "B"), (6, .methodref 1 33), (0, .nameAndType 34 35), (0, u "length"), (0, u "()I"), (4, .methodref 1 41), (0, .nameAndType 24 42), (0, u "()B"), (2, u "append"), (0, u "(Ljava/lang/String;)Ljava/lang/AbstractStringBuilder;"), (1, .class_ 49), (0, u "java/lang/CharSequence"), (19, u "(Ljava/lang/String;)V"), (5, u "maybeLatin1"), (3, .fieldref 10 80), (0, .nameAndType 81 82), (0, u "count"), (0, u "I"), (2, u "isLatin1"), (0, u "()Z"), (13, .methodref 10 101), (0, .nameAndType 102 103), (0, u "ensureCapacityInternal"), (0, u "(I)V"), (104, .methodref 10 209), (0, .nameAndType 210 211), (0, u "putStringAt"), (0, u "(ILjava/lang/String;)V"), (5, u "inflateIfNeededFor"), (2, .nameAndType 221 222), (0, u "getBytes"), (0, u "([BIB)V"), (174, .methodref 10 398), (0, .nameAndType 217 69), (0, .methodref 1 220), (3, u "()[B"), (40, .class_ 445), (0, u "java/lang/Appendable"), (106, u "getValue")] 56

def k22m0 : Method := { name := "<init>", desc := "()V", sig := { parameters := [], returnType := none }, accessFlags := 0, code := none }
def k22c1 : Code := { maxStack := 2, maxLocals := 2, code := jdk_68_method_2_code, exceptionTable := #[], attributes := #[] }
def k22m1 : Method := { name := "<init>", desc := "(I)V", sig := { parameters := [.int], returnType := none }, accessFlags := 0, code := some k22c1 }
def k22c2 : Code := { maxStack := 1, maxLocals := 1, code := jdk_68_method_6_code, exceptionTable := #[], attributes := #[] }
def k22m2 : Method := { name := "length", desc := "()I", sig := { parameters := [], returnType := some .int }, accessFlags := 1, code := some k22c2 }
def k22c3 : Code := { maxStack := 4, maxLocals := 3, code := jdk_68_method_9_code, exceptionTable := #[], attributes := #[] }
def k22m3 : Method := { name := "ensureCapacityInternal", desc := "(I)V", sig := { parameters := [.int], returnType := none }, accessFlags := 2, code := some k22c3 }
def k22c4 : Code := { maxStack := 3, maxLocals := 3, code := jdk_68_method_22_code, exceptionTable := #[], attributes := #[] }
def k22m4 : Method := { name := "append", desc := "(Ljava/lang/String;)Ljava/lang/AbstractStringBuilder;", sig := { parameters := [(.object "java/lang/String")], returnType := some (.object "java/lang/AbstractStringBuilder") }, accessFlags := 1, code := some k22c4 }
def k22c5 : Code := { maxStack := 1, maxLocals := 1, code := jdk_68_method_64_code, exceptionTable := #[], attributes := #[] }
def k22m5 : Method := { name := "getValue", desc := "()[B", sig := { parameters := [], returnType := some (.array .byte) }, accessFlags := 16, code := some k22c5 }
def k22c6 : Code := { maxStack := 1, maxLocals := 1, code := jdk_68_method_68_code, exceptionTable := #[], attributes := #[] }
def k22m6 : Method := { name := "isLatin1", desc := "()Z", sig := { parameters := [], returnType := some .boolean }, accessFlags := 16, code := some k22c6 }
def k22c7 : Code := { maxStack := 2, maxLocals := 2, code := jdk_68_method_71_code, exceptionTable := #[], attributes := #[] }
def k22m7 : Method := { name := "inflateIfNeededFor", desc := "(Ljava/lang/String;)V", sig := { parameters := [(.object "java/lang/String")], returnType := none }, accessFlags := 2, code := some k22c7 }
def k22c8 : Code := { maxStack := 4, maxLocals := 3, code := jdk_68_method_73_code, exceptionTable := #[], attributes := #[] }
def k22m8 : Method := { name := "putStringAt", desc := "(ILjava/lang/String;)V", sig := { parameters := [.int, (.object "java/lang/String")], returnType := none }, accessFlags := 2, code := some k22c8 }
/-- java/lang/AbstractStringBuilder -/
def k22 : Class := { plain "java/lang/AbstractStringBuilder" (some 0) with
  accessFlags := 1056
  interfaces := #[21, 4]
  cf := some (fileOf pool22 10 #[] #[{ accessFlags := 0, nameIndex := 7, descriptorIndex := 8, attributes := #[] }, { accessFlags := 0, nameIndex := 7, descriptorIndex := 103, attributes := #[] }, { accessFlags := 1, nameIndex := 34, descriptorIndex := 35, attributes := #[] }, { accessFlags := 2, nameIndex := 102, descriptorIndex := 103, attributes := #[] }, { accessFlags := 1, nameIndex := 45, descriptorIndex := 46, attributes := #[] }, { accessFlags := 16, nameIndex := 552, descriptorIndex := 403, attributes := #[] }, { accessFlags := 16, nameIndex := 85, descriptorIndex := 86, attributes := #[] }, { accessFlags := 2, nameIndex := 217, descriptorIndex := 69, attributes := #[] }, { accessFlags := 2, nameIndex := 210, descriptorIndex := 211, attributes := #[] }] 1056 4 #[444, 48] #[{ accessFlags := 0, nameIndex := 17, descriptorIndex := 14, attributes := #[] }, { accessFlags := 0, nameIndex := 24, descriptorIndex := 25, attributes := #[] }, { accessFlags := 0, nameIndex := 75, descriptorIndex := 21, attributes := #[] }, { accessFlags := 0, nameIndex := 81, descriptorIndex := 82, attributes := #[] }, { accessFlags := 26, nameIndex := 13, descriptorIndex := 14, attributes := #[] }])
  fields := #[{ name := "value", type := (.array .byte), accessFlags := 0, slot := 0, constantValue := 0 }, { name := "coder", type := .byte, accessFlags := 0, slot := 1, constantValue := 0 }, { name := "maybeLatin1", type := .boolean, accessFlags := 0, slot := 2, constantValue := 0 }, { name := "count", type := .int, accessFlags := 0, slot := 3, constantValue := 0 }, { name := "EMPTYVALUE", type := (.array .byte), accessFlags := 26, slot := 0, constantValue := 0 }]
  methods := #[k22m0, k22m1, k22m2, k22m3, k22m4, k22m5, k22m6, k22m7, k22m8]
  instanceTypes := #[(.array .byte), .byte, .boolean, .int]
  staticTypes := #[(.array .byte)]
  resolved := Array.replicate 609 none
  statics := none }

def pool23 : Array CpInfo := pool [(1, .methodref 2 3), (0, .class_ 4), (0, .nameAndType 5 6), (0, u "java/lang/AbstractStringBuilder"), (0, u "<init>"), (0, u "(I)V"), (11, .class_ 20), (1, u "java/lang/String"), (3, .class_ 26), (1, u "java/lang/StringBuilder"), (0, u "append"), (0, u "(Ljava/lang/String;)Ljava/lang/StringBuilder;"), (0, .methodref 2 30), (0, .nameAndType 27 31), (0, u "(Ljava/lang/String;)Ljava/lang/AbstractStringBuilder;"), (105, .methodref 18 138), (0, .nameAndType 5 139), (0, u "(Ljava/lang/StringBuilder;)V"), (5, u "()V"), (10, u "()I"), (186, .methodref 2 344), (0, .nameAndType 345 156), (0, u "length"), (3, .class_ 350), (0, u "java/lang/Appendable"), (0, .class_ 352), (0, u "java/io/Serializable"), (0, .class_ 354), (0, u "java/lang/Comparable"), (0, .class_ 356), (0, u "java/lang/CharSequence"), (0, u "serialVersionUID"), (0, u "J"), (40, u "toString"), (0, u "()Ljava/lang/String;")] 21

def k23c0 : Code := { maxStack := 2, maxLocals := 1, code := jdk_67_method_1_code, exceptionTable := #[], attributes := #[] }
def k23m0 : Method := { name := "<init>", desc := "()V", sig := { parameters := [], returnType := none }, accessFlags := 1, code := some k23c0 }
def k23c1 : Code := { maxStack := 2, maxLocals := 2, code := jdk_67_method_7_code, exceptionTable := #[], attributes := #[] }
def k23m1 : Method := { name := "append", desc := "(Ljava/lang/String;)Ljava/lang/StringBuilder;", sig := { parameters := [(.object "java/lang/String")], returnType := some (.object "java/lang/StringBuilder") }, accessFlags := 1, code := some k23c1 }
def k23c2 : Code := { maxStack := 3, maxLocals := 1, code := jdk_67_method_42_code, exceptionTable := #[], attributes := #[] }
def k23m2 : Method := { name := "toString", desc := "()Ljava/lang/String;", sig := { parameters := [], returnType := some (.object "java/lang/String") }, accessFlags := 1, code := some k23c2 }
def k23c3 : Code := { maxStack := 1, maxLocals := 1, code := jdk_67_method_93_code, exceptionTable := #[], attributes := #[] }
def k23m3 : Method := { name := "length", desc := "()I", sig := { parameters := [], returnType := some .int }, accessFlags := 4161, code := some k23c3 }
/-- java/lang/StringBuilder -/
def k23 : Class := { plain "java/lang/StringBuilder" (some 22) with
  accessFlags := 49
  interfaces := #[21, 2, 3, 4]
  cf := some (fileOf pool23 24 #[] #[{ accessFlags := 1, nameIndex := 5, descriptorIndex := 145, attributes := #[] }, { accessFlags := 1, nameIndex := 27, descriptorIndex := 28, attributes := #[] }, { accessFlags := 1, nameIndex := 399, descriptorIndex := 400, attributes := #[] }, { accessFlags := 4161, nameIndex := 345, descriptorIndex := 156, attributes := #[] }] 49 2 #[349, 351, 353, 355] #[{ accessFlags := 24, nameIndex := 357, descriptorIndex := 358, attributes := #[] }])
  fields := #[{ name := "serialVersionUID", type := .long, accessFlags := 24, slot := 0, constantValue := 0 }]
  methods := #[k23m0, k23m1, k23m2, k23m3]
  instanceTypes := #[(.array .byte), .byte, .boolean, .int]
  staticTypes := #[.long]
  resolved := Array.replicate 422 none
  statics := none }

def pool24 : Array CpInfo := pool [(2, .class_ 4), (1, u "java/lang/Object"), (0, u "<init>"), (0, u "()V"), (1, .class_ 10), (1, u "java/lang/System"), (0, u "allowSecurityManager"), (0, u "I"), (16, u "cons"), (0, u "Ljava/io/Console;"), (77, .class_ 110), (1, u "java/lang/System$CallersHolder"), (43, u "initialErrStream"), (0, u "Ljava/io/PrintStream;"), (19, u "security"), (0, u "Ljava/lang/SecurityManager;"), (31, .class_ 209), (0, u "java/lang/System$1"), (7, u "props"), (0, u "Ljava/util/Properties;"), (2, u "lineSeparator"), (0, u "Ljava/lang/String;"), (96, .class_ 321), (1, u "java/lang/System$LoggerFinder"), (5, .class_ 328), (0, u "java/lang/System$Logger"), (67, u "err"), (2, u "out"), (91, u "notSupportedJnuEncoding"), (15, u "in"), (17, u "initialIn"), (0, u "Ljava/io/InputStream;"), (35, u "bootLayer"), (0, u "Ljava/lang/ModuleLayer;"), (99, .class_ 664), (0, u "java/lang/System$2"), (9, u "NEVER"), (2, u "MAYBE"), (49, u "arraycopy"), (0, u "(Ljava/lang/Object;ILjava/lang/Object;II)V"), (72, .class_ 802), (0, u "java/lang/System$Logger$Level")] 31

def k24m0 : Method := { name := "<init>", desc := "()V", sig := { parameters := [], returnType := none }, accessFlags := 2, code := none }
def k24m1 : Method := { name := "arraycopy", desc := "(Ljava/lang/Object;ILjava/lang/Object;II)V", sig := { parameters := [(.object "java/lang/Object"), .int, (.object "java/lang/Object"), .int, .int], returnType := none }, accessFlags := 265, code := none }
/-- java/lang/System -/
def k24 : Class := { plain "java/lang/System" (some 0) with
  accessFlags := 49
  interfaces := #[]
  cf := some (fileOf pool24 8 #[.nestMembers #[319, 327, 801, 108, 663, 208]] #[{ accessFlags := 2, nameIndex := 5, descriptorIndex := 6, attributes := #[] }, { accessFlags := 265, nameIndex := 727, descriptorIndex := 728, attributes := #[] }] 49 2 #[] #[{ accessFlags := 25, nameIndex := 507, descriptorIndex := 526, attributes := #[] }, { accessFlags := 25, nameIndex := 399, descriptorIndex := 155, attributes := #[] }, { accessFlags := 25, nameIndex := 396, descriptorIndex := 155, attributes := #[] }, { accessFlags := 10, nameIndex := 525, descriptorIndex := 526, attributes := #[] }, { accessFlags := 26, nameIndex := 674, descriptorIndex := 12, attributes := #[] }, { accessFlags := 26, nameIndex := 677, descriptorIndex := 12, attributes := #[] }, { accessFlags := 10, nameIndex := 11, descriptorIndex := 12, attributes := #[] }, { accessFlags := 74, nameIndex := 175, descriptorIndex := 176, attributes := #[] }, { accessFlags := 10, nameIndex := 491, descriptorIndex := 222, attributes := #[] }, { accessFlags := 74, nameIndex := 29, descriptorIndex := 30, attributes := #[] }, { accessFlags := 74, nameIndex := 154, descriptorIndex := 155, attributes := #[] }, { accessFlags := 10, nameIndex := 217, descriptorIndex := 218, attributes := #[] }, { accessFlags := 10, nameIndex := 221, descriptorIndex := 222, attributes := #[] }, { accessFlags := 8, nameIndex := 562, descriptorIndex := 563, attributes := #[] }])
  fields := #[{ name := "in", type := (.object "java/io/InputStream"), accessFlags := 25, slot := 0, constantValue := 0 }, { name := "out", type := (.object "java/io/PrintStream"), accessFlags := 25, slot := 1, constantValue := 0 }, { name := "err", type := (.object "java/io/PrintStream"), accessFlags := 25, slot := 2, constantValue := 0 }, { name := "initialIn", type := (.object "java/io/InputStream"), accessFlags := 10, slot := 3, constantValue := 0 }, { name := "NEVER", type := .int, accessFlags := 26, slot := 4, constantValue := 0 }, { name := "MAYBE", type := .int, accessFlags := 26, slot := 5, constantValue := 0 }, { name := "allowSecurityManager", type := .int, accessFlags := 10, slot := 6, constantValue := 0 }, { name := "security", type := (.object "java/lang/SecurityManager"), accessFlags := 74, slot := 7, constantValue := 0 }, { name := "notSupportedJnuEncoding", type := (.object "java/lang/String"), accessFlags := 10, slot := 8, constantValue := 0 }, { name := "cons", type := (.object "java/io/Console"), accessFlags := 74, slot := 9, constantValue := 0 }, { name := "initialErrStream", type := (.object "java/io/PrintStream"), accessFlags := 74, slot := 10, constantValue := 0 }, { name := "props", type := (.object "java/util/Properties"), accessFlags := 10, slot := 11, constantValue := 0 }, { name := "lineSeparator", type := (.object "java/lang/String"), accessFlags := 10, slot := 12, constantValue := 0 }, { name := "bootLayer", type := (.object "java/lang/ModuleLayer"), accessFlags := 8, slot := 13, constantValue := 0 }]
  methods := #[k24m0, k24m1]
  instanceTypes := #[]
  staticTypes := #[(.object "java/io/InputStream"), (.object "java/io/PrintStream"), (.object "java/io/PrintStream"), (.object "java/io/InputStream"), .int, .int, .int, (.object "java/lang/SecurityManager"), (.object "java/lang/String"), (.object "java/io/Console"), (.object "java/io/PrintStream"), (.object "java/util/Properties"), (.object "java/lang/String"), (.object "java/lang/ModuleLayer")]
  resolved := Array.replicate 834 none
  statics := none }

def pool25 : Array CpInfo := pool [(2, .class_ 4), (1, u "java/lang/Object"), (0, u "<init>"), (0, u "()V"), (7, .class_ 16), (1, u "java/util/Arrays"), (57, .class_ 76), (1, u "java/util/Arrays$NaturalOrder"), (36, .class_ 115), (1, u "java/util/Arrays$LegacyMergeSort"), (1, u "Z"), (21, u "copyOfRange"), (10, .methodref 151 152), (0, .class_ 153), (0, .nameAndType 154 155), (0, u "java/lang/System"), (0, u "arraycopy"), (0, u "(Ljava/lang/Object;ILjava/lang/Object;II)V"), (148, .methodref 305 306), (0, .class_ 307), (0, .nameAndType 308 309), (0, u "java/lang/Math"), (0, u "min"), (0, u "(II)I"), (29, .methodref 14 340), (0, .nameAndType 341 342), (0, u "copyOfRangeByte"), (0, u "([BII)[B"), (0, .methodref 14 344), (0, .nameAndType 345 346), (0, u "checkLength"), (0, u "(II)V"), (28, .class_ 376), (0, u "java/util/Arrays$ArrayList"), (68, u "$assertionsDisabled"), (269, u "MIN_ARRAY_SORT_GRAN"), (0, u "I"), (2, u "INSERTIONSORT_THRESHOLD"), (255, .class_ 976), (0, u "java/util/Arrays$ArrayItr")] 52

def k25m0 : Method := { name := "<init>", desc := "()V", sig := { parameters := [], returnType := none }, accessFlags := 2, code := none }
def k25c1 : Code := { maxStack := 4, maxLocals := 2, code := jdk_65_method_131_code, exceptionTable := #[], attributes := #[] }
def k25m1 : Method := { name := "checkLength", desc := "(II)V", sig := { parameters := [.int, .int], returnType := none }, accessFlags := 10, code := some k25c1 }
def k25c2 : Code := { maxStack := 3, maxLocals := 3, code := jdk_65_method_132_code, exceptionTable := #[], attributes := #[] }
def k25m2 : Method := { name := "copyOfRange", desc := "([BII)[B", sig := { parameters := [(.array .byte), .int, .int], returnType := some (.array .byte) }, accessFlags := 9, code := some k25c2 }
def k25c3 : Code := { maxStack := 6, maxLocals := 5, code := jdk_65_method_133_code, exceptionTable := #[], attributes := #[] }
def k25m3 : Method := { name := "copyOfRangeByte", desc := "([BII)[B", sig := { parameters := [(.array .byte), .int, .int], returnType := some (.array .byte) }, accessFlags := 10, code := some k25c3 }
/-- java/util/Arrays -/
def k25 : Class := { plain "java/util/Arrays" (some 0) with
  accessFlags := 49
  interfaces := #[]
  cf := some (fileOf pool25 14 #[.nestMembers #[975, 375, 113, 74]] #[{ accessFlags := 2, nameIndex := 5, descriptorIndex := 6, attributes := #[] }, { accessFlags := 10, nameIndex := 345, descriptorIndex := 346, attributes := #[] }, { accessFlags := 9, nameIndex := 139, descriptorIndex := 342, attributes := #[] }, { accessFlags := 10, nameIndex := 341, descriptorIndex := 342, attributes := #[] }] 49 2 #[] #[{ accessFlags := 26, nameIndex := 715, descriptorIndex := 716, attributes := #[] }, { accessFlags := 26, nameIndex := 719, descriptorIndex := 716, attributes := #[] }, { accessFlags := 4120, nameIndex := 445, descriptorIndex := 117, attributes := #[] }])
  fields := #[{ name := "MIN_ARRAY_SORT_GRAN", type := .int, accessFlags := 26, slot := 0, constantValue := 0 }, { name := "INSERTIONSORT_THRESHOLD", type := .int, accessFlags := 26, slot := 1, constantValue := 0 }, { name := "$assertionsDisabled", type := .boolean, accessFlags := 4120, slot := 2, constantValue := 0 }]
  methods := #[k25m0, k25m1, k25m2, k25m3]
  instanceTypes := #[]
  staticTypes := #[.int, .int, .boolean]
  resolved := Array.replicate 1029 none
  statics := none }

def pool26 : Array CpInfo := pool [(1, .class_ 2), (0, u "java/lang/Math"), (1, .class_ 6), (1, u "java/lang/Object"), (0, u "<init>"), (0, u "()V"), (89, .class_ 100), (1, u "java/lang/Math$RandomNumberGeneratorHolder"), (71, u "negativeZeroFloatBits"), (0, u "J"), (2, u "negativeZeroDoubleBits"), (24, u "min"), (43, u "$assertionsDisabled"), (0, u "Z"), (88, u "(II)I"), (2, u "twoToTheDoubleScaleDown"), (0, u "D"), (4, u "twoToTheDoubleScaleUp"), (9, u "E"), (3, u "PI"), (2, u "TAU"), (2, u "DEGREES_TO_RADIANS"), (0, u "RADIANS_TO_DEGREES")] 94

def k26m0 : Method := { name := "<init>", desc := "()V", sig := { parameters := [], returnType := none }, accessFlags := 2, code := none }
def k26c1 : Code := { maxStack := 2, maxLocals := 2, code := jdk_29_method_69_code, exceptionTable := #[], attributes := #[] }
def k26m1 : Method := { name := "min", desc := "(II)I", sig := { parameters := [.int, .int], returnType := some .int }, accessFlags := 9, code := some k26c1 }
/-- java/lang/Math -/
def k26 : Class := { plain "java/lang/Math" (some 0) with
  accessFlags := 49
  interfaces := #[]
  cf := some (fileOf pool26 1 #[.nestMembers #[98]] #[{ accessFlags := 2, nameIndex := 7, descriptorIndex := 8, attributes := #[] }, { accessFlags := 9, nameIndex := 201, descriptorIndex := 335, attributes := #[] }] 49 4 #[] #[{ accessFlags := 25, nameIndex := 354, descriptorIndex := 339, attributes := #[] }, { accessFlags := 25, nameIndex := 358, descriptorIndex := 339, attributes := #[] }, { accessFlags := 25, nameIndex := 361, descriptorIndex := 339, attributes := #[] }, { accessFlags := 26, nameIndex := 364, descriptorIndex := 339, attributes := #[] }, { accessFlags := 26, nameIndex := 365, descriptorIndex := 339, attributes := #[] }, { accessFlags := 26, nameIndex := 172, descriptorIndex := 173, attributes := #[] }, { accessFlags := 26, nameIndex := 176, descriptorIndex := 173, attributes := #[] }, { accessFlags := 8, nameIndex := 344, descriptorIndex := 339, attributes := #[] }, { accessFlags := 8, nameIndex := 338, descriptorIndex := 339, attributes := #[] }, { accessFlags := 4120, nameIndex := 245, descriptorIndex := 246, attributes := #[] }])
  fields := #[{ name := "E", type := .double, accessFlags := 25, slot := 0, constantValue := 0 }, { name := "PI", type := .double, accessFlags := 25, slot := 1, constantValue := 0 }, { name := "TAU", type := .double, accessFlags := 25, slot := 2, constantValue := 0 }, { name := "DEGREES_TO_RADIANS", type := .double, accessFlags := 26, slot := 3, constantValue := 0 }, { name := "RADIANS_TO_DEGREES", type := .double, accessFlags := 26, slot := 4, constantValue := 0 }, { name := "negativeZeroFloatBits", type := .long, accessFlags := 26, slot := 5, constantValue := 0 }, { name := "negativeZeroDoubleBits", type := .long, accessFlags := 26, slot := 6, constantValue := 0 }, { name := "twoToTheDoubleScaleUp", type := .double, accessFlags := 8, slot := 7, constantValue := 0 }, { name := "twoToTheDoubleScaleDown", type := .double, accessFlags := 8, slot := 8, constantValue := 0 }, { name := "$assertionsDisabled", type := .boolean, accessFlags := 4120, slot := 9, constantValue := 0 }]
  methods := #[k26m0, k26m1]
  instanceTypes := #[]
  staticTypes := #[.double, .double, .double, .double, .double, .long, .long, .double, .double, .boolean]
  resolved := Array.replicate 460 none
  statics := none }

def pool27 : Array CpInfo := pool [(9, u "test"), (12, .class_ 24), (1, u "java/util/function/Predicate"), (2, .class_ 29), (1, u "java/lang/Object"), (1, u "(Ljava/lang/Object;)Z")] 69

def k27m0 : Method := { name := "test", desc := "(Ljava/lang/Object;)Z", sig := { parameters := [(.object "java/lang/Object")], returnType := some .boolean }, accessFlags := 1025, code := none }
/-- java/util/function/Predicate -/
def k27 : Class := { plain "java/util/function/Predicate" (some 0) with
  accessFlags := 1537
  interfaces := #[]
  cf := some (fileOf pool27 22 #[] #[{ accessFlags := 1025, nameIndex := 9, descriptorIndex := 31, attributes := #[] }] 1537 27 #[] #[])
  fields := #[]
  methods := #[k27m0]
  instanceTypes := #[]
  staticTypes := #[]
  resolved := Array.replicate 101 none
  statics := none }

def pool28 : Array CpInfo := pool [(1, .class_ 2), (0, u "java/lang/String"), (1, .class_ 6), (1, u "java/lang/Object"), (0, u "<init>"), (0, u "()V"), (0, .methodref 1 10), (0, .nameAndType 11 12), (0, u "checkIndex"), (0, u "(II)V"), (1, .class_ 16), (1, u "java/lang/StringLatin1"), (36, u "([BI)C"), (67, u "$assertionsDisabled"), (0, u "Z"), (98, .class_ 223), (1, u "java/lang/StringLatin1$LinesSpliterator"), (28, u "charAt"), (28, u "equals"), (0, u "([B[B)Z"), (107, .class_ 391), (0, u "java/lang/StringLatin1$CharsSpliterator")] 3

def k28m0 : Method := { name := "<init>", desc := "()V", sig := { parameters := [], returnType := none }, accessFlags := 0, code := none }
def k28c1 : Code := { maxStack := 2, maxLocals := 2, code := jdk_43_method_2_code, exceptionTable := #[], attributes := #[] }
def k28m1 : Method := { name := "charAt", desc := "([BI)C", sig := { parameters := [(.array .byte), .int], returnType := some .char }, accessFlags := 9, code := some k28c1 }
def k28c2 : Code := { maxStack := 3, maxLocals := 3, code := jdk_43_method_13_code, exceptionTable := #[], attributes := #[] }
def k28m2 : Method := { name := "equals", desc := "([B[B)Z", sig := { parameters := [(.array .byte), (.array .byte)], returnType := some .boolean }, accessFlags := 9, code := some k28c2 }
/-- java/lang/StringLatin1 -/
def k28 : Class := { plain "java/lang/StringLatin1" (some 0) with
  accessFlags := 48
  interfaces := #[]
  cf := some (fileOf pool28 14 #[.nestMembers #[390, 221]] #[{ accessFlags := 0, nameIndex := 7, descriptorIndex := 8, attributes := #[] }, { accessFlags := 9, nameIndex := 252, descriptorIndex := 53, attributes := #[] }, { accessFlags := 9, nameIndex := 281, descriptorIndex := 282, attributes := #[] }] 48 4 #[] #[{ accessFlags := 4120, nameIndex := 121, descriptorIndex := 122, attributes := #[] }])
  fields := #[{ name := "$assertionsDisabled", type := .boolean, accessFlags := 4120, slot := 0, constantValue := 0 }]
  methods := #[k28m0, k28m1, k28m2]
  instanceTypes := #[]
  staticTypes := #[.boolean]
  resolved := Array.replicate 395 none
  statics := none }

def pool29 : Array CpInfo := pool [(2, .class_ 4), (1, u "java/lang/Object"), (0, u "<init>"), (0, u "()V"), (17, .class_ 26), (1, u "jdk/internal/util/Preconditions"), (6, u "checkIndex"), (21, .class_ 56), (0, u "jdk/internal/util/Preconditions$4"), (57, .class_ 115), (0, u "jdk/internal/util/Preconditions$1"), (7, u "SIOOBE_FORMATTER"), (0, u "Ljava/util/function/BiFunction;"), (0, .class_ 126), (0, u "jdk/internal/util/Preconditions$2"), (3, u "AIOOBE_FORMATTER"), (0, .class_ 132), (0, u "jdk/internal/util/Preconditions$3"), (3, u "IOOBE_FORMATTER"), (41, u "(IILjava/util/function/BiFunction;)I")] 15

def k29m0 : Method := { name := "<init>", desc := "()V", sig := { parameters := [], returnType := none }, accessFlags := 1, code := none }
def k29c1 : Code := { maxStack := 3, maxLocals := 3, code := jdk_41_method_11_code, exceptionTable := #[], attributes := #[] }
def k29m1 : Method := { name := "checkIndex", desc := "(IILjava/util/function/BiFunction;)I", sig := { parameters := [.int, .int, (.object "java/util/function/BiFunction")], returnType := some .int }, accessFlags := 9, code := some k29c1 }
/-- jdk/internal/util/Preconditions -/
def k29 : Class := { plain "jdk/internal/util/Preconditions" (some 0) with
  accessFlags := 33
  interfaces := #[]
  cf := some (fileOf pool29 24 #[.nestMembers #[55, 131, 125, 114]] #[{ accessFlags := 1, nameIndex := 5, descriptorIndex := 6, attributes := #[] }, { accessFlags := 9, nameIndex := 33, descriptorIndex := 178, attributes := #[] }] 33 2 #[] #[{ accessFlags := 25, nameIndex := 123, descriptorIndex := 124, attributes := #[] }, { accessFlags := 25, nameIndex := 130, descriptorIndex := 124, attributes := #[] }, { accessFlags := 25, nameIndex := 136, descriptorIndex := 124, attributes := #[] }])
  fields := #[{ name := "SIOOBE_FORMATTER", type := (.object "java/util/function/BiFunction"), accessFlags := 25, slot := 0, constantValue := 0 }, { name := "AIOOBE_FORMATTER", type := (.object "java/util/function/BiFunction"), accessFlags := 25, slot := 1, constantValue := 0 }, { name := "IOOBE_FORMATTER", type := (.object "java/util/function/BiFunction"), accessFlags := 25, slot := 2, constantValue := 0 }]
  methods := #[k29m0, k29m1]
  instanceTypes := #[]
  staticTypes := #[(.object "java/util/function/BiFunction"), (.object "java/util/function/BiFunction"), (.object "java/util/function/BiFunction")]
  resolved := Array.replicate 194 none
  statics := some 2 }

def pool30 : Array CpInfo := pool [(6, .class_ 8), (1, u "java/lang/Object"), (0, u "<init>"), (0, u "()V"), (1, .class_ 14), (1, u "java/lang/StringUTF16"), (31, u "$assertionsDisabled"), (0, u "Z"), (13, u "HI_BYTE_SHIFT"), (0, u "I"), (2, u "LO_BYTE_SHIFT"), (49, .methodref 12 116), (0, .nameAndType 117 118), (0, u "compress"), (0, u "([CI[BII)I"), (3, u "([CII)[B"), (138, u "coderFromArrayLen"), (0, u "([BI)B"), (106, .class_ 371), (1, u "java/lang/StringUTF16$LinesSpliterator"), (58, u "MAX_LENGTH"), (196, .class_ 628), (0, u "java/lang/StringUTF16$CodePointsSpliterator"), (0, .class_ 630), (0, u "java/lang/StringUTF16$CharsSpliterator")] 4

def k30m0 : Method := { name := "<init>", desc := "()V", sig := { parameters := [], returnType := none }, accessFlags := 0, code := none }
def k30c1 : Code := { maxStack := 2, maxLocals := 2, code := jdk_52_method_15_code, exceptionTable := #[], attributes := #[] }
def k30m1 : Method := { name := "coderFromArrayLen", desc := "([BI)B", sig := { parameters := [(.array .byte), .int], returnType := some .byte }, accessFlags := 8, code := some k30c1 }
def k30c2 : Code := { maxStack := 5, maxLocals := 6, code := jdk_52_method_16_code, exceptionTable := #[], attributes := #[] }
def k30m2 : Method := { name := "compress", desc := "([CII)[B", sig := { parameters := [(.array .char), .int, .int], returnType := some (.array .byte) }, accessFlags := 9, code := some k30c2 }
def k30c3 : Code := { maxStack := 3, maxLocals := 7, code := jdk_52_method_21_code, exceptionTable := #[], attributes := #[] }
def k30m3 : Method := { name := "compress", desc := "([CI[BII)I", sig := { parameters := [(.array .char), .int, (.array .byte), .int, .int], returnType := some .int }, accessFlags := 9, code := some k30c3 }
/-- java/lang/StringUTF16 -/
def k30 : Class := { plain "java/lang/StringUTF16" (some 0) with
  accessFlags := 48
  interfaces := #[]
  cf := some (fileOf pool30 12 #[.nestMembers #[627, 629, 369]] #[{ accessFlags := 0, nameIndex := 9, descriptorIndex := 10, attributes := #[] }, { accessFlags := 8, nameIndex := 261, descriptorIndex := 262, attributes := #[] }, { accessFlags := 9, nameIndex := 117, descriptorIndex := 122, attributes := #[] }, { accessFlags := 9, nameIndex := 117, descriptorIndex := 118, attributes := #[] }] 48 6 #[] #[{ accessFlags := 26, nameIndex := 61, descriptorIndex := 62, attributes := #[] }, { accessFlags := 26, nameIndex := 65, descriptorIndex := 62, attributes := #[] }, { accessFlags := 24, nameIndex := 430, descriptorIndex := 62, attributes := #[] }, { accessFlags := 4120, nameIndex := 46, descriptorIndex := 47, attributes := #[] }])
  fields := #[{ name := "HI_BYTE_SHIFT", type := .int, accessFlags := 26, slot := 0, constantValue := 0 }, { name := "LO_BYTE_SHIFT", type := .int, accessFlags := 26, slot := 1, constantValue := 0 }, { name := "MAX_LENGTH", type := .int, accessFlags := 24, slot := 2, constantValue := 0 }, { name := "$assertionsDisabled", type := .boolean, accessFlags := 4120, slot := 3, constantValue := 0 }]
  methods := #[k30m0, k30m1, k30m2, k30m3]
  instanceTypes := #[]
  staticTypes := #[.int, .int, .int, .boolean]
  resolved := Array.replicate 635 none
  statics := none }

def pool31 : Array CpInfo := pool [(1, .class_ 2), (0, u "java/util/ImmutableCollections"), (1, .class_ 6), (1, u "java/util/ImmutableCollections$AbstractImmutableSet"), (2, .fieldref 10 11), (0, .class_ 12), (0, .nameAndType 13 14), (0, u "java/util/ImmutableCollections$SetN"), (0, u "size"), (0, u "I"), (4, u "elements"), (0, u "[Ljava/lang/Object;"), (25, .methodref 47 48), (0, .class_ 49), (0, .nameAndType 50 51), (0, u "java/util/Objects"), (0, u "requireNonNull"), (0, u "(Ljava/lang/Object;)Ljava/lang/Object;"), (18, u "(Ljava/lang/Object;)Z"), (36, .class_ 108), (0, u "java/io/Serializable"), (23, u "contains")] 35

def k31c0 : Code := { maxStack := 2, maxLocals := 2, code := jdk_132_method_4_code, exceptionTable := #[], attributes := #[] }
def k31m0 : Method := { name := "contains", desc := "(Ljava/lang/Object;)Z", sig := { parameters := [(.object "java/lang/Object")], returnType := some .boolean }, accessFlags := 1, code := some k31c0 }
/-- java/util/ImmutableCollections$SetN -/
def k31 : Class := { plain "java/util/ImmutableCollections$SetN" (some 16) with
  accessFlags := 48
  interfaces := #[2]
  cf := some (fileOf pool31 10 #[.nestHost 1] #[{ accessFlags := 1, nameIndex := 132, descriptorIndex := 70, attributes := #[] }] 48 4 #[107] #[{ accessFlags := 16, nameIndex := 19, descriptorIndex := 20, attributes := #[] }, { accessFlags := 16, nameIndex := 13, descriptorIndex := 14, attributes := #[] }])
  fields := #[{ name := "elements", type := (.array (.object "java/lang/Object")), accessFlags := 16, slot := 0, constantValue := 0 }, { name := "size", type := .int, accessFlags := 16, slot := 1, constantValue := 0 }]
  methods := #[k31m0]
  instanceTypes := #[(.array (.object "java/lang/Object")), .int]
  staticTypes := #[]
  resolved := Array.replicate 168 none
  statics := none }

def pool32 : Array CpInfo := pool [(9, u "<init>"), (6, .class_ 18), (1, u "java/lang/Object"), (0, u "()V"), (1, .class_ 23), (1, u "jdk/internal/util/ArraysSupport"), (0, u "LOG2_ARRAY_LONG_INDEX_SCALE"), (0, u "I"), (2, u "U"), (0, u "Ljdk/internal/misc/Unsafe;"), (8, u "BIG_ENDIAN"), (0, u "Z"), (8, u "LOG2_BYTE_BIT_SIZE"), (4, u "LOG2_ARRAY_INT_INDEX_SCALE"), (54, u "JLA"), (0, u "Ljdk/internal/access/JavaLangAccess;"), (11, u "LOG2_ARRAY_BOOLEAN_INDEX_SCALE"), (9, u "LOG2_ARRAY_BYTE_INDEX_SCALE"), (5, u "LOG2_ARRAY_CHAR_INDEX_SCALE"), (5, u "LOG2_ARRAY_SHORT_INDEX_SCALE"), (18, u "LOG2_ARRAY_FLOAT_INDEX_SCALE"), (24, u "LOG2_ARRAY_DOUBLE_INDEX_SCALE"), (89, u "T_BOOLEAN"), (2, u "T_CHAR"), (1, u "T_FLOAT"), (1, u "T_DOUBLE"), (1, u "T_BYTE"), (1, u "T_SHORT"), (1, u "T_INT"), (1, u "T_LONG"), (1, u "SOFT_MAX_ARRAY_LENGTH")] 83

def k32m0 : Method := { name := "<init>", desc := "()V", sig := { parameters := [], returnType := none }, accessFlags := 2, code := none }
/-- jdk/internal/util/ArraysSupport -/
def k32 : Class := { plain "jdk/internal/util/ArraysSupport" (some 0) with
  accessFlags := 33
  interfaces := #[]
  cf := some (fileOf pool32 21 #[] #[{ accessFlags := 2, nameIndex := 9, descriptorIndex := 19, attributes := #[] }] 33 16 #[] #[{ accessFlags := 24, nameIndex := 28, descriptorIndex := 29, attributes := #[] }, { accessFlags := 26, nameIndex := 38, descriptorIndex := 39, attributes := #[] }, { accessFlags := 25, nameIndex := 121, descriptorIndex := 25, attributes := #[] }, { accessFlags := 25, nameIndex := 131, descriptorIndex := 25, attributes := #[] }, { accessFlags := 25, nameIndex := 137, descriptorIndex := 25, attributes := #[] }, { accessFlags := 25, nameIndex := 143, descriptorIndex := 25, attributes := #[] }, { accessFlags := 25, nameIndex := 53, descriptorIndex := 25, attributes := #[] }, { accessFlags := 25, nameIndex := 24, descriptorIndex := 25, attributes := #[] }, { accessFlags := 25, nameIndex := 162, descriptorIndex := 25, attributes := #[] }, { accessFlags := 25, nameIndex := 187, descriptorIndex := 25, attributes := #[] }, { accessFlags := 26, nameIndex := 48, descriptorIndex := 25, attributes := #[] }, { accessFlags := 25, nameIndex := 277, descriptorIndex := 25, attributes := #[] }, { accessFlags := 25, nameIndex := 280, descriptorIndex := 25, attributes := #[] }, { accessFlags := 25, nameIndex := 282, descriptorIndex := 25, attributes := #[] }, { accessFlags := 25, nameIndex := 284, descriptorIndex := 25, attributes := #[] }, { accessFlags := 25, nameIndex := 286, descriptorIndex := 25, attributes := #[] }, { accessFlags := 25, nameIndex := 288, descriptorIndex := 25, attributes := #[] }, { accessFlags := 25, nameIndex := 290, descriptorIndex := 25, attributes := #[] }, { accessFlags := 25, nameIndex := 292, descriptorIndex := 25, attributes := #[] }, { accessFlags := 26, nameIndex := 108, descriptorIndex := 109, attributes := #[] }, { accessFlags := 25, nameIndex := 294, descriptorIndex := 25, attributes := #[] }])
  fields := #[{ name := "U", type := (.object "jdk/internal/misc/Unsafe"), accessFlags := 24, slot := 0, constantValue := 0 }, { name := "BIG_ENDIAN", type := .boolean, accessFlags := 26, slot := 1, constantValue := 0 }, { name := "LOG2_ARRAY_BOOLEAN_INDEX_SCALE", type := .int, accessFlags := 25, slot := 2, constantValue := 0 }, { name := "LOG2_ARRAY_BYTE_INDEX_SCALE", type := .int, accessFlags := 25, slot := 3, constantValue := 0 }, { name := "LOG2_ARRAY_CHAR_INDEX_SCALE", type := .int, accessFlags := 25, slot := 4, constantValue := 0 }, { name := "LOG2_ARRAY_SHORT_INDEX_SCALE", type := .int, accessFlags := 25, slot := 5, constantValue := 0 }, { name := "LOG2_ARRAY_INT_INDEX_SCALE", type := .int, accessFlags := 25, slot := 6, constantValue := 0 }, { name := "LOG2_ARRAY_LONG_INDEX_SCALE", type := .int, accessFlags := 25, slot := 7, constantValue := 0 }, { name := "LOG2_ARRAY_FLOAT_INDEX_SCALE", type := .int, accessFlags := 25, slot := 8, constantValue := 0 }, { name := "LOG2_ARRAY_DOUBLE_INDEX_SCALE", type := .int, accessFlags := 25, slot := 9, constantValue := 0 }, { name := "LOG2_BYTE_BIT_SIZE", type := .int, accessFlags := 26, slot := 10, constantValue := 0 }, { name := "T_BOOLEAN", type := .int, accessFlags := 25, slot := 11, constantValue := 0 }, { name := "T_CHAR", type := .int, accessFlags := 25, slot := 12, constantValue := 0 }, { name := "T_FLOAT", type := .int, accessFlags := 25, slot := 13, constantValue := 0 }, { name := "T_DOUBLE", type := .int, accessFlags := 25, slot := 14, constantValue := 0 }, { name := "T_BYTE", type := .int, accessFlags := 25, slot := 15, constantValue := 0 }, { name := "T_SHORT", type := .int, accessFlags := 25, slot := 16, constantValue := 0 }, { name := "T_INT", type := .int, accessFlags := 25, slot := 17, constantValue := 0 }, { name := "T_LONG", type := .int, accessFlags := 25, slot := 18, constantValue := 0 }, { name := "JLA", type := (.object "jdk/internal/access/JavaLangAccess"), accessFlags := 26, slot := 19, constantValue := 0 }, { name := "SOFT_MAX_ARRAY_LENGTH", type := .int, accessFlags := 25, slot := 20, constantValue := 0 }]
  methods := #[k32m0]
  instanceTypes := #[]
  staticTypes := #[(.object "jdk/internal/misc/Unsafe"), .boolean, .int, .int, .int, .int, .int, .int, .int, .int, .int, .int, .int, .int, .int, .int, .int, .int, .int, (.object "jdk/internal/access/JavaLangAccess"), .int]
  resolved := Array.replicate 378 none
  statics := none }

def pool33 : Array CpInfo := pool [(8, .class_ 10), (1, u "java/util/SequencedCollection"), (15, .class_ 27), (0, u "java/lang/Object"), (0, .class_ 29), (0, u "java/util/Collection")] 27

/-- java/util/SequencedCollection -/
def k33 : Class := { plain "java/util/SequencedCollection" (some 0) with
  accessFlags := 1537
  interfaces := #[12]
  cf := some (fileOf pool33 8 #[] #[] 1537 26 #[28] #[])
  fields := #[]
  methods := #[]
  instanceTypes := #[]
  staticTypes := #[]
  resolved := Array.replicate 57 none
  statics := none }

def pool34 : Array CpInfo := pool [(8, .class_ 10), (1, u "java/util/List"), (92, .class_ 104), (0, u "java/lang/Object"), (15, .class_ 121), (0, u "java/util/SequencedCollection")] 129

/-- java/util/List -/
def k34 : Class := { plain "java/util/List" (some 0) with
  accessFlags := 1537
  interfaces := #[33]
  cf := some (fileOf pool34 8 #[] #[] 1537 103 #[120] #[])
  fields := #[]
  methods := #[]
  instanceTypes := #[]
  staticTypes := #[]
  resolved := Array.replicate 251 none
  statics := none }

def pool35 : Array CpInfo := pool [(1, .class_ 2), (0, u "java/util/RandomAccess"), (0, .class_ 4), (0, u "java/lang/Object")] 2

/-- java/util/RandomAccess -/
def k35 : Class := { plain "java/util/RandomAccess" (some 0) with
  accessFlags := 1537
  interfaces := #[]
  cf := some (fileOf pool35 1 #[] #[] 1537 3 #[] #[])
  fields := #[]
  methods := #[]
  instanceTypes := #[]
  staticTypes := #[]
  resolved := Array.replicate 7 none
  statics := none }

def pool36 : Array CpInfo := pool [(2, .class_ 4), (1, u "java/util/ImmutableCollections$AbstractImmutableCollection"), (0, u "<init>"), (0, u "()V"), (1, .class_ 10), (1, u "java/util/ImmutableCollections"), (3, .class_ 16), (1, u "java/util/ImmutableCollections$AbstractImmutableList"), (60, .class_ 78), (0, u "java/util/List"), (45, .class_ 125), (0, u "java/util/RandomAccess")] 70

def k36m0 : Method := { name := "<init>", desc := "()V", sig := { parameters := [], returnType := none }, accessFlags := 0, code := none }
/-- java/util/ImmutableCollections$AbstractImmutableList -/
def k36 : Class := { plain "java/util/ImmutableCollections$AbstractImmutableList" (some 15) with
  accessFlags := 1056
  interfaces := #[34, 35]
  cf := some (fileOf pool36 14 #[.nestHost 8] #[{ accessFlags := 0, nameIndex := 5, descriptorIndex := 6, attributes := #[] }] 1056 2 #[77, 124] #[])
  fields := #[]
  methods := #[k36m0]
  instanceTypes := #[]
  staticTypes := #[]
  resolved := Array.replicate 196 none
  statics := none }

def pool37 : Array CpInfo := pool [(2, .class_ 4), (1, u "java/util/ImmutableCollections$AbstractImmutableList"), (3, .class_ 10), (1, u "java/util/ImmutableCollections$ListN"), (0, u "elements"), (0, u "[Ljava/lang/Object;"), (2, u "allowNulls"), (0, u "Z"), (42, .class_ 60), (0, u "java/io/Serializable"), (53, .class_ 115), (0, u "java/util/ImmutableCollections")] 3

/-- java/util/ImmutableCollections$ListN -/
def k37 : Class := { plain "java/util/ImmutableCollections$ListN" (some 36) with
  accessFlags := 48
  interfaces := #[2]
  cf := some (fileOf pool37 8 #[.nestHost 114] #[] 48 2 #[59] #[{ accessFlags := 18, nameIndex := 11, descriptorIndex := 12, attributes := #[] }, { accessFlags := 18, nameIndex := 15, descriptorIndex := 16, attributes := #[] }])
  fields := #[{ name := "elements", type := (.array (.object "java/lang/Object")), accessFlags := 18, slot := 0, constantValue := 0 }, { name := "allowNulls", type := .boolean, accessFlags := 18, slot := 1, constantValue := 0 }]
  methods := #[]
  instanceTypes := #[(.array (.object "java/lang/Object")), .boolean]
  staticTypes := #[]
  resolved := Array.replicate 119 none
  statics := none }

def pool38 : Array CpInfo := pool [(1, u "java/lang/Cloneable"), (0, .class_ 1), (0, u "java/lang/Object"), (0, .class_ 3)] 3

/-- java/lang/Cloneable -/
def k38 : Class := { plain "java/lang/Cloneable" (some 0) with
  accessFlags := 1537
  interfaces := #[]
  cf := some (fileOf pool38 2 #[] #[] 1537 4 #[] #[])
  fields := #[]
  methods := #[]
  instanceTypes := #[]
  staticTypes := #[]
  resolved := Array.replicate 8 none
  statics := none }

/-- the primitive byte -/
def k39 : Class := { plain "byte" none with kind := .primitive 'B', accessFlags := 0x411 }
/-- [B -/
def k40 : Class := { plain "[B" (some 0) with kind := .array 39 .byte, interfaces := #[38, 2], accessFlags := 1041 }

/-- the primitive char -/
def k41 : Class := { plain "char" none with kind := .primitive 'C', accessFlags := 0x411 }
/-- [C -/
def k42 : Class := { plain "[C" (some 0) with kind := .array 41 .char, interfaces := #[38, 2], accessFlags := 1041 }

/-- the primitive int -/
def k43 : Class := { plain "int" none with kind := .primitive 'I', accessFlags := 0x411 }
/-- [I -/
def k44 : Class := { plain "[I" (some 0) with kind := .array 43 .int, interfaces := #[38, 2], accessFlags := 1041 }

/-- [Ljava/lang/Object; -/
def k45 : Class := { plain "[Ljava/lang/Object;" (some 0) with kind := .array 0 (.object "java/lang/Object"), interfaces := #[38, 2], accessFlags := 1041 }

def classes0 : Array Class := #[k0, k1, k2, k3, k4, k5, k6, k7, k8, k9, k10, k11, k12, k13, k14, k15, k16, k17, k18, k19, k20, k21, k22, k23, k24, k25, k26, k27, k28, k29, k30, k31, k32, k33, k34, k35, k36, k37, k38, k39, k40, k41, k42, k43, k44, k45]
/-- the class that the rule has made for the site at 31 of com/example/elegua/elegua/authorization/Access.role -/
def k46 : Class := Jvm.LamKit.madeRec { classes := classes0 } "com/example/elegua/elegua/authorization/Access" (Jvm.Lambda.Shape.mk "java/util/function/Predicate" "test" (Jvm.ClassFile.MethodDescriptor.mk ([(Jvm.ClassFile.FieldType.object "java/lang/Object")] : List Jvm.ClassFile.FieldType) (Option.some Jvm.ClassFile.FieldType.boolean)) ([(Jvm.ClassFile.FieldType.object "java/lang/String")] : List Jvm.ClassFile.FieldType) (6 : Nat) "com/example/elegua/elegua/authorization/Access" "lambda$role$1" (Jvm.ClassFile.MethodDescriptor.mk ([(Jvm.ClassFile.FieldType.object "java/lang/String"), (Jvm.ClassFile.FieldType.object "com/example/elegua/elegua/context/Identity")] : List Jvm.ClassFile.FieldType) (Option.some Jvm.ClassFile.FieldType.boolean)) false (Jvm.ClassFile.MethodDescriptor.mk ([(Jvm.ClassFile.FieldType.object "com/example/elegua/elegua/context/Identity")] : List Jvm.ClassFile.FieldType) (Option.some Jvm.ClassFile.FieldType.boolean))) 46

def heap : Heap := #[{ cls := 7, slots := #[.long 0, .int 1, .null, .int 0, .null, .int 0, .int 0], vm := .statics 7 },
  { cls := 19, slots := #[.long 0, .int 0, .null, .ref 5, .ref 6, .null, .ref 4, .null, .int 0, .int 1], vm := .statics 19 },
  { cls := 29, slots := #[.null, .null, .null], vm := .statics 29 },
  { cls := 45, slots := #[], vm := .none },
  { cls := 31, slots := #[.ref 3, .int 0], vm := .none },
  { cls := 0, slots := #[], vm := .none },
  { cls := 37, slots := #[.null, .int 0], vm := .none }]
def classes : Array Class := #[k0, k1, k2, k3, k4, k5, k6, k7, k8, k9, k10, k11, k12, k13, k14, k15, k16, k17, k18, k19, k20, k21, k22, k23, k24, k25, k26, k27, k28, k29, k30, k31, k32, k33, k34, k35, k36, k37, k38, k39, k40, k41, k42, k43, k44, k45, k46]
def interned : List (Array UInt16 × Addr) := []
def slotsUsed : Nat := 24
def theMethod : MethodId := ⟨1, 2⟩
def args0 : Array Value := #[.int 50331649, .int 33554434, .int 1]
def aboutOver (below : List Frame) : State where
  vm := { classes := classes, interned := interned.toArray }
  heap := heap
  slotsUsed := slotsUsed
  threads := #[{ frames := .invoking theMethod args0 :: below }]
def below0 : List Frame := [.native { method := ⟨0, 0⟩, args := #[] }]
def about1 : State := aboutOver below0
def p0 : Program := .bare "" "" ""
def e0 : Env := launch0.env 0 0 0
theorem w_frames : about1.frames = Frame.invoking theMethod args0 :: below0 := rfl
set_option maxRecDepth 65536 in
theorem w_args : argsFit about1.vm theMethod args0 = true := by decide +kernel
set_option maxRecDepth 65536 in
theorem w_heap : heapFits about1 = true := by decide +kernel
set_option maxRecDepth 65536 in
theorem w_runnable : about1.curStatus? = some .runnable := by decide +kernel
set_option maxRecDepth 65536 in
theorem w_alone : about1.alone = true := by decide +kernel
set_option maxRecDepth 65536 in
theorem w_named : about1.methodNamed? x = some theMethod := by decide +kernel
set_option maxRecDepth 65536 in
theorem w_hears : about1.hears theMethod below0 = true := by decide +kernel
set_option maxRecDepth 65536 in
theorem w_ripe : about1.ripe theMethod args0 below0 = true := by decide +kernel
theorem w_running : about1.status = .running := rfl
set_option maxRecDepth 65536 in
theorem w_room : about1.hasRoom e0.platform room_1 = true :=
  launch0.hasRoom_least _ room_1 (by decide +kernel) (by decide +kernel) (by decide +kernel) (by decide +kernel) (by decide +kernel) (by decide +kernel)
theorem allAtoms_all (ts : List Jvm.Cond) (a : Array Jvm.Value) (st : Jvm.State) : (allAtoms ts).before a st = ts.all (fun c => c.before a st) := by
  induction ts with
  | nil => rfl
  | cons c t ih =>
    show (Jvm.Cond.and c (allAtoms t)).before a st = _
    rw [Jvm.Cond.before_and, ih, List.all_cons]
def words1 : List Jvm.Cond := Jvm.Cond.code x code maxLocals ret :: tables_1
/-- a 'code' word, met by the world's own term for the bytes: nothing is compared byte by byte -/
theorem code_word {y : MethodName} {bytes : ByteArray} {mx : Nat} {rt : Option FieldType} {a : Array Value} {s : State} {m : MethodId} {meth : Method} {c : Code} (h1 : s.methodNamed? y = some m) (h2 : s.vm.method? m = some meth) (h3 : meth.code = some c) (h4 : c.code = bytes)
    (h5 : (c.maxLocals == mx && c.exceptionTable.isEmpty && decide (c.maxStack ≤ mostOperands) && decide (meth.sig.returnType = rt) && !meth.locks && decide (parseMethodDescriptor y.desc = some meth.sig)) = true) : (Jvm.Cond.code y bytes mx rt).before a s = true := by
  simp only [Bool.and_eq_true, beq_iff_eq, Bool.not_eq_true', decide_eq_true_eq] at h5
  obtain ⟨⟨⟨⟨⟨g1, g2⟩, g3⟩, g4⟩, g5⟩, g6⟩ := h5
  simp [Cond.before, Cond.holds, Cond.value, h1, h2, h3, h4, g1, g2, g3, g4, g5, g6]
def isCode : Jvm.Cond → Bool
  | .code _ _ _ _ => true
  | _ => false
theorem all_split {L : List Jvm.Cond} {P : Jvm.Cond → Bool} (h1 : L.all (fun c => isCode c || P c) = true) (h2 : ∀ c ∈ L.filter isCode, P c = true) : L.all P = true := by
  refine List.all_eq_true.mpr fun c hc => ?_
  have h := List.all_eq_true.mp h1 c hc
  rcases Bool.eq_false_or_eq_true (isCode c) with hi | hi
  · exact h2 c (List.mem_filter.mpr ⟨hc, hi⟩)
  · simpa [hi] using h
set_option maxRecDepth 65536 in
theorem w_c0 : (Jvm.Cond.code x code maxLocals ret).before args0 about1 = true := code_word (m := ⟨1, 2⟩) (meth := k1m2) (c := k1c2) (by decide +kernel) rfl rfl rfl (by decide +kernel)
set_option maxRecDepth 65536 in
theorem w_c1 : (Jvm.Cond.code ({ cls := "com/example/elegua/elegua/authorization/AccessRolePinLaw", name := "mk", desc := "(I)Ljava/lang/String;" } : Jvm.MethodName) method_2_code (5 : Nat) (Option.some (Jvm.ClassFile.FieldType.object "java/lang/String"))).before args0 about1 = true := code_word (m := ⟨1, 1⟩) (meth := k1m1) (c := k1c1) (by decide +kernel) rfl rfl rfl (by decide +kernel)
set_option maxRecDepth 65536 in
theorem w_c2 : (Jvm.Cond.code ({ cls := "java/lang/String", name := "<init>", desc := "([C)V" } : Jvm.MethodName) jdk_42_method_3_code (2 : Nat) (Option.none : Option Jvm.ClassFile.FieldType)).before args0 about1 = true := code_word (m := ⟨7, 1⟩) (meth := k7m1) (c := k7c1) (by decide +kernel) rfl rfl rfl (by decide +kernel)
set_option maxRecDepth 65536 in
theorem w_c3 : (Jvm.Cond.code ({ cls := "java/lang/String", name := "<init>", desc := "([CIILjava/lang/Void;)V" } : Jvm.MethodName) jdk_42_method_149_code (6 : Nat) (Option.none : Option Jvm.ClassFile.FieldType)).before args0 about1 = true := code_word (m := ⟨7, 7⟩) (meth := k7m7) (c := k7c7) (by decide +kernel) rfl rfl rfl (by decide +kernel)
set_option maxRecDepth 65536 in
theorem w_c4 : (Jvm.Cond.code ({ cls := "java/lang/Object", name := "<init>", desc := "()V" } : Jvm.MethodName) object_method_1_code (1 : Nat) (Option.none : Option Jvm.ClassFile.FieldType)).before args0 about1 = true := code_word (m := ⟨0, 0⟩) (meth := k0m0) (c := k0c0) (by decide +kernel) rfl rfl rfl (by decide +kernel)
set_option maxRecDepth 65536 in
theorem w_c5 : (Jvm.Cond.code ({ cls := "java/util/Set", name := "of", desc := "(Ljava/lang/Object;)Ljava/util/Set;" } : Jvm.MethodName) jdk_96_method_18_code (1 : Nat) (Option.some (Jvm.ClassFile.FieldType.object "java/util/Set"))).before args0 about1 = true := code_word (m := ⟨13, 2⟩) (meth := k13m2) (c := k13c2) (by decide +kernel) rfl rfl rfl (by decide +kernel)
set_option maxRecDepth 65536 in
theorem w_c6 : (Jvm.Cond.code ({ cls := "java/util/ImmutableCollections$Set12", name := "<init>", desc := "(Ljava/lang/Object;)V" } : Jvm.MethodName) jdk_101_method_1_code (2 : Nat) (Option.none : Option Jvm.ClassFile.FieldType)).before args0 about1 = true := code_word (m := ⟨17, 0⟩) (meth := k17m0) (c := k17c0) (by decide +kernel) rfl rfl rfl (by decide +kernel)
set_option maxRecDepth 65536 in
theorem w_c7 : (Jvm.Cond.code ({ cls := "java/util/ImmutableCollections$AbstractImmutableSet", name := "<init>", desc := "()V" } : Jvm.MethodName) jdk_100_method_1_code (1 : Nat) (Option.none : Option Jvm.ClassFile.FieldType)).before args0 about1 = true := code_word (m := ⟨16, 0⟩) (meth := k16m0) (c := k16c0) (by decide +kernel) rfl rfl rfl (by decide +kernel)
set_option maxRecDepth 65536 in
theorem w_c8 : (Jvm.Cond.code ({ cls := "java/util/ImmutableCollections$AbstractImmutableCollection", name := "<init>", desc := "()V" } : Jvm.MethodName) jdk_47_method_1_code (1 : Nat) (Option.none : Option Jvm.ClassFile.FieldType)).before args0 about1 = true := code_word (m := ⟨15, 0⟩) (meth := k15m0) (c := k15c0) (by decide +kernel) rfl rfl rfl (by decide +kernel)
set_option maxRecDepth 65536 in
theorem w_c9 : (Jvm.Cond.code ({ cls := "java/util/AbstractCollection", name := "<init>", desc := "()V" } : Jvm.MethodName) jdk_22_method_1_code (1 : Nat) (Option.none : Option Jvm.ClassFile.FieldType)).before args0 about1 = true := code_word (m := ⟨14, 0⟩) (meth := k14m0) (c := k14c0) (by decide +kernel) rfl rfl rfl (by decide +kernel)
set_option maxRecDepth 65536 in
theorem w_c10 : (Jvm.Cond.code ({ cls := "java/util/Objects", name := "requireNonNull", desc := "(Ljava/lang/Object;)Ljava/lang/Object;" } : Jvm.MethodName) jdk_31_method_10_code (1 : Nat) (Option.some (Jvm.ClassFile.FieldType.object "java/lang/Object"))).before args0 about1 = true := code_word (m := ⟨18, 1⟩) (meth := k18m1) (c := k18c1) (by decide +kernel) rfl rfl rfl (by decide +kernel)
set_option maxRecDepth 65536 in
theorem w_c11 : (Jvm.Cond.code ({ cls := "com/example/elegua/elegua/context/Identity", name := "<init>", desc := "(Ljava/lang/String;Ljava/util/Set;)V" } : Jvm.MethodName) prog_6_method_1_code (3 : Nat) (Option.none : Option Jvm.ClassFile.FieldType)).before args0 about1 = true := code_word (m := ⟨10, 0⟩) (meth := k10m0) (c := k10c0) (by decide +kernel) rfl rfl rfl (by decide +kernel)
set_option maxRecDepth 65536 in
theorem w_c12 : (Jvm.Cond.code ({ cls := "java/lang/Record", name := "<init>", desc := "()V" } : Jvm.MethodName) jdk_30_method_1_code (1 : Nat) (Option.none : Option Jvm.ClassFile.FieldType)).before args0 about1 = true := code_word (m := ⟨8, 0⟩) (meth := k8m0) (c := k8c0) (by decide +kernel) rfl rfl rfl (by decide +kernel)
set_option maxRecDepth 65536 in
theorem w_c13 : (Jvm.Cond.code ({ cls := "java/util/Objects", name := "requireNonNull", desc := "(Ljava/lang/Object;Ljava/lang/String;)Ljava/lang/Object;" } : Jvm.MethodName) jdk_31_method_11_code (2 : Nat) (Option.some (Jvm.ClassFile.FieldType.object "java/lang/Object"))).before args0 about1 = true := code_word (m := ⟨18, 2⟩) (meth := k18m2) (c := k18c2) (by decide +kernel) rfl rfl rfl (by decide +kernel)
set_option maxRecDepth 65536 in
theorem w_c14 : (Jvm.Cond.code ({ cls := "java/util/Set", name := "copyOf", desc := "(Ljava/util/Collection;)Ljava/util/Set;" } : Jvm.MethodName) jdk_96_method_29_code (1 : Nat) (Option.some (Jvm.ClassFile.FieldType.object "java/util/Set"))).before args0 about1 = true := code_word (m := ⟨13, 3⟩) (meth := k13m3) (c := k13c3) (by decide +kernel) rfl rfl rfl (by decide +kernel)
set_option maxRecDepth 65536 in
theorem w_c15 : (Jvm.Cond.code ({ cls := "com/example/elegua/elegua/authorization/Access", name := "role", desc := "(Ljava/lang/String;)Lcom/example/elegua/elegua/authorization/Access;" } : Jvm.MethodName) prog_2_method_4_code (1 : Nat) (Option.some (Jvm.ClassFile.FieldType.object "com/example/elegua/elegua/authorization/Access"))).before args0 about1 = true := code_word (m := ⟨20, 1⟩) (meth := k20m1) (c := k20c1) (by decide +kernel) rfl rfl rfl (by decide +kernel)
set_option maxRecDepth 65536 in
theorem w_c16 : (Jvm.Cond.code ({ cls := "java/lang/StringBuilder", name := "<init>", desc := "()V" } : Jvm.MethodName) jdk_67_method_1_code (1 : Nat) (Option.none : Option Jvm.ClassFile.FieldType)).before args0 about1 = true := code_word (m := ⟨23, 0⟩) (meth := k23m0) (c := k23c0) (by decide +kernel) rfl rfl rfl (by decide +kernel)
set_option maxRecDepth 65536 in
theorem w_c17 : (Jvm.Cond.code ({ cls := "java/lang/AbstractStringBuilder", name := "<init>", desc := "(I)V" } : Jvm.MethodName) jdk_68_method_2_code (2 : Nat) (Option.none : Option Jvm.ClassFile.FieldType)).before args0 about1 = true := code_word (m := ⟨22, 1⟩) (meth := k22m1) (c := k22c1) (by decide +kernel) rfl rfl rfl (by decide +kernel)
set_option maxRecDepth 65536 in
theorem w_c18 : (Jvm.Cond.code ({ cls := "java/lang/StringBuilder", name := "append", desc := "(Ljava/lang/String;)Ljava/lang/StringBuilder;" } : Jvm.MethodName) jdk_67_method_7_code (2 : Nat) (Option.some (Jvm.ClassFile.FieldType.object "java/lang/StringBuilder"))).before args0 about1 = true := code_word (m := ⟨23, 1⟩) (meth := k23m1) (c := k23c1) (by decide +kernel) rfl rfl rfl (by decide +kernel)
set_option maxRecDepth 65536 in
theorem w_c19 : (Jvm.Cond.code ({ cls := "java/lang/AbstractStringBuilder", name := "append", desc := "(Ljava/lang/String;)Ljava/lang/AbstractStringBuilder;" } : Jvm.MethodName) jdk_68_method_22_code (3 : Nat) (Option.some (Jvm.ClassFile.FieldType.object "java/lang/AbstractStringBuilder"))).before args0 about1 = true := code_word (m := ⟨22, 4⟩) (meth := k22m4) (c := k22c4) (by decide +kernel) rfl rfl rfl (by decide +kernel)
set_option maxRecDepth 65536 in
theorem w_c20 : (Jvm.Cond.code ({ cls := "java/lang/String", name := "length", desc := "()I" } : Jvm.MethodName) jdk_42_method_54_code (1 : Nat) (Option.some Jvm.ClassFile.FieldType.int)).before args0 about1 = true := code_word (m := ⟨7, 3⟩) (meth := k7m3) (c := k7c3) (by decide +kernel) rfl rfl rfl (by decide +kernel)
set_option maxRecDepth 65536 in
theorem w_c21 : (Jvm.Cond.code ({ cls := "java/lang/String", name := "coder", desc := "()B" } : Jvm.MethodName) jdk_42_method_152_code (1 : Nat) (Option.some Jvm.ClassFile.FieldType.byte)).before args0 about1 = true := code_word (m := ⟨7, 9⟩) (meth := k7m9) (c := k7c9) (by decide +kernel) rfl rfl rfl (by decide +kernel)
set_option maxRecDepth 65536 in
theorem w_c22 : (Jvm.Cond.code ({ cls := "java/lang/AbstractStringBuilder", name := "ensureCapacityInternal", desc := "(I)V" } : Jvm.MethodName) jdk_68_method_9_code (3 : Nat) (Option.none : Option Jvm.ClassFile.FieldType)).before args0 about1 = true := code_word (m := ⟨22, 3⟩) (meth := k22m3) (c := k22c3) (by decide +kernel) rfl rfl rfl (by decide +kernel)
set_option maxRecDepth 65536 in
theorem w_c23 : (Jvm.Cond.code ({ cls := "java/lang/AbstractStringBuilder", name := "putStringAt", desc := "(ILjava/lang/String;)V" } : Jvm.MethodName) jdk_68_method_73_code (3 : Nat) (Option.none : Option Jvm.ClassFile.FieldType)).before args0 about1 = true := code_word (m := ⟨22, 8⟩) (meth := k22m8) (c := k22c8) (by decide +kernel) rfl rfl rfl (by decide +kernel)
set_option maxRecDepth 65536 in
theorem w_c24 : (Jvm.Cond.code ({ cls := "java/lang/AbstractStringBuilder", name := "inflateIfNeededFor", desc := "(Ljava/lang/String;)V" } : Jvm.MethodName) jdk_68_method_71_code (2 : Nat) (Option.none : Option Jvm.ClassFile.FieldType)).before args0 about1 = true := code_word (m := ⟨22, 7⟩) (meth := k22m7) (c := k22c7) (by decide +kernel) rfl rfl rfl (by decide +kernel)
set_option maxRecDepth 65536 in
theorem w_c25 : (Jvm.Cond.code ({ cls := "java/lang/String", name := "getBytes", desc := "([BIB)V" } : Jvm.MethodName) jdk_42_method_147_code (4 : Nat) (Option.none : Option Jvm.ClassFile.FieldType)).before args0 about1 = true := code_word (m := ⟨7, 6⟩) (meth := k7m6) (c := k7c6) (by decide +kernel) rfl rfl rfl (by decide +kernel)
set_option maxRecDepth 65536 in
theorem w_c26 : (Jvm.Cond.code ({ cls := "java/lang/StringBuilder", name := "toString", desc := "()Ljava/lang/String;" } : Jvm.MethodName) jdk_67_method_42_code (1 : Nat) (Option.some (Jvm.ClassFile.FieldType.object "java/lang/String"))).before args0 about1 = true := code_word (m := ⟨23, 2⟩) (meth := k23m2) (c := k23c2) (by decide +kernel) rfl rfl rfl (by decide +kernel)
set_option maxRecDepth 65536 in
theorem w_c27 : (Jvm.Cond.code ({ cls := "java/lang/String", name := "<init>", desc := "(Ljava/lang/StringBuilder;)V" } : Jvm.MethodName) jdk_42_method_53_code (2 : Nat) (Option.none : Option Jvm.ClassFile.FieldType)).before args0 about1 = true := code_word (m := ⟨7, 2⟩) (meth := k7m2) (c := k7c2) (by decide +kernel) rfl rfl rfl (by decide +kernel)
set_option maxRecDepth 65536 in
theorem w_c28 : (Jvm.Cond.code ({ cls := "java/lang/String", name := "<init>", desc := "(Ljava/lang/AbstractStringBuilder;Ljava/lang/Void;)V" } : Jvm.MethodName) jdk_42_method_150_code (5 : Nat) (Option.none : Option Jvm.ClassFile.FieldType)).before args0 about1 = true := code_word (m := ⟨7, 8⟩) (meth := k7m8) (c := k7c8) (by decide +kernel) rfl rfl rfl (by decide +kernel)
set_option maxRecDepth 65536 in
theorem w_c29 : (Jvm.Cond.code ({ cls := "java/lang/AbstractStringBuilder", name := "getValue", desc := "()[B" } : Jvm.MethodName) jdk_68_method_64_code (1 : Nat) (Option.some (Jvm.ClassFile.FieldType.array Jvm.ClassFile.FieldType.byte))).before args0 about1 = true := code_word (m := ⟨22, 5⟩) (meth := k22m5) (c := k22c5) (by decide +kernel) rfl rfl rfl (by decide +kernel)
set_option maxRecDepth 65536 in
theorem w_c30 : (Jvm.Cond.code ({ cls := "java/lang/StringBuilder", name := "length", desc := "()I" } : Jvm.MethodName) jdk_67_method_93_code (1 : Nat) (Option.some Jvm.ClassFile.FieldType.int)).before args0 about1 = true := code_word (m := ⟨23, 3⟩) (meth := k23m3) (c := k23c3) (by decide +kernel) rfl rfl rfl (by decide +kernel)
set_option maxRecDepth 65536 in
theorem w_c31 : (Jvm.Cond.code ({ cls := "java/lang/AbstractStringBuilder", name := "length", desc := "()I" } : Jvm.MethodName) jdk_68_method_6_code (1 : Nat) (Option.some Jvm.ClassFile.FieldType.int)).before args0 about1 = true := code_word (m := ⟨22, 2⟩) (meth := k22m2) (c := k22c2) (by decide +kernel) rfl rfl rfl (by decide +kernel)
set_option maxRecDepth 65536 in
theorem w_c32 : (Jvm.Cond.code ({ cls := "java/lang/AbstractStringBuilder", name := "isLatin1", desc := "()Z" } : Jvm.MethodName) jdk_68_method_68_code (1 : Nat) (Option.some Jvm.ClassFile.FieldType.boolean)).before args0 about1 = true := code_word (m := ⟨22, 6⟩) (meth := k22m6) (c := k22c6) (by decide +kernel) rfl rfl rfl (by decide +kernel)
set_option maxRecDepth 65536 in
theorem w_c33 : (Jvm.Cond.code ({ cls := "java/util/Arrays", name := "copyOfRange", desc := "([BII)[B" } : Jvm.MethodName) jdk_65_method_132_code (3 : Nat) (Option.some (Jvm.ClassFile.FieldType.array Jvm.ClassFile.FieldType.byte))).before args0 about1 = true := code_word (m := ⟨25, 2⟩) (meth := k25m2) (c := k25c2) (by decide +kernel) rfl rfl rfl (by decide +kernel)
set_option maxRecDepth 65536 in
theorem w_c34 : (Jvm.Cond.code ({ cls := "java/util/Arrays", name := "copyOfRangeByte", desc := "([BII)[B" } : Jvm.MethodName) jdk_65_method_133_code (5 : Nat) (Option.some (Jvm.ClassFile.FieldType.array Jvm.ClassFile.FieldType.byte))).before args0 about1 = true := code_word (m := ⟨25, 3⟩) (meth := k25m3) (c := k25c3) (by decide +kernel) rfl rfl rfl (by decide +kernel)
set_option maxRecDepth 65536 in
theorem w_c35 : (Jvm.Cond.code ({ cls := "java/util/Arrays", name := "checkLength", desc := "(II)V" } : Jvm.MethodName) jdk_65_method_131_code (2 : Nat) (Option.none : Option Jvm.ClassFile.FieldType)).before args0 about1 = true := code_word (m := ⟨25, 1⟩) (meth := k25m1) (c := k25c1) (by decide +kernel) rfl rfl rfl (by decide +kernel)
set_option maxRecDepth 65536 in
theorem w_c36 : (Jvm.Cond.code ({ cls := "java/lang/Math", name := "min", desc := "(II)I" } : Jvm.MethodName) jdk_29_method_69_code (2 : Nat) (Option.some Jvm.ClassFile.FieldType.int)).before args0 about1 = true := code_word (m := ⟨26, 1⟩) (meth := k26m1) (c := k26c1) (by decide +kernel) rfl rfl rfl (by decide +kernel)
set_option maxRecDepth 65536 in
theorem w_c37 : (Jvm.Cond.code ({ cls := "com/example/elegua/elegua/authorization/Access", name := "<init>", desc := "(Ljava/lang/String;Ljava/util/function/Predicate;)V" } : Jvm.MethodName) prog_2_method_1_code (3 : Nat) (Option.none : Option Jvm.ClassFile.FieldType)).before args0 about1 = true := code_word (m := ⟨20, 0⟩) (meth := k20m0) (c := k20c0) (by decide +kernel) rfl rfl rfl (by decide +kernel)
set_option maxRecDepth 65536 in
theorem w_c38 : (Jvm.Cond.code ({ cls := "com/example/elegua/elegua/authorization/Access", name := "allows", desc := "(Lcom/example/elegua/elegua/context/Identity;)Z" } : Jvm.MethodName) prog_2_method_5_code (2 : Nat) (Option.some Jvm.ClassFile.FieldType.boolean)).before args0 about1 = true := code_word (m := ⟨20, 2⟩) (meth := k20m2) (c := k20c2) (by decide +kernel) rfl rfl rfl (by decide +kernel)
set_option maxRecDepth 65536 in
theorem w_c39 : (Jvm.Cond.code ({ cls := "com/example/elegua/elegua/authorization/Access", name := "lambda$role$1", desc := "(Ljava/lang/String;Lcom/example/elegua/elegua/context/Identity;)Z" } : Jvm.MethodName) prog_2_method_7_code (2 : Nat) (Option.some Jvm.ClassFile.FieldType.boolean)).before args0 about1 = true := code_word (m := ⟨20, 4⟩) (meth := k20m4) (c := k20c4) (by decide +kernel) rfl rfl rfl (by decide +kernel)
set_option maxRecDepth 65536 in
theorem w_c40 : (Jvm.Cond.code ({ cls := "com/example/elegua/elegua/context/Identity", name := "hasRole", desc := "(Ljava/lang/String;)Z" } : Jvm.MethodName) prog_6_method_3_code (2 : Nat) (Option.some Jvm.ClassFile.FieldType.boolean)).before args0 about1 = true := code_word (m := ⟨10, 1⟩) (meth := k10m1) (c := k10c1) (by decide +kernel) rfl rfl rfl (by decide +kernel)
set_option maxRecDepth 65536 in
theorem w_c41 : (Jvm.Cond.code ({ cls := "java/util/ImmutableCollections$Set12", name := "contains", desc := "(Ljava/lang/Object;)Z" } : Jvm.MethodName) jdk_101_method_5_code (2 : Nat) (Option.some Jvm.ClassFile.FieldType.boolean)).before args0 about1 = true := code_word (m := ⟨17, 1⟩) (meth := k17m1) (c := k17c1) (by decide +kernel) rfl rfl rfl (by decide +kernel)
set_option maxRecDepth 65536 in
theorem w_c42 : (Jvm.Cond.code ({ cls := "java/lang/String", name := "equals", desc := "(Ljava/lang/Object;)Z" } : Jvm.MethodName) jdk_42_method_66_code (3 : Nat) (Option.some Jvm.ClassFile.FieldType.boolean)).before args0 about1 = true := code_word (m := ⟨7, 5⟩) (meth := k7m5) (c := k7c5) (by decide +kernel) rfl rfl rfl (by decide +kernel)
set_option maxRecDepth 65536 in
theorem w_c43 : (Jvm.Cond.code ({ cls := "com/example/elegua/elegua/authorization/Access", name := "toString", desc := "()Ljava/lang/String;" } : Jvm.MethodName) prog_2_method_6_code (1 : Nat) (Option.some (Jvm.ClassFile.FieldType.object "java/lang/String"))).before args0 about1 = true := code_word (m := ⟨20, 3⟩) (meth := k20m3) (c := k20c3) (by decide +kernel) rfl rfl rfl (by decide +kernel)
set_option maxRecDepth 65536 in
theorem w_c44 : (Jvm.Cond.code ({ cls := "java/lang/String", name := "charAt", desc := "(I)C" } : Jvm.MethodName) jdk_42_method_56_code (2 : Nat) (Option.some Jvm.ClassFile.FieldType.char)).before args0 about1 = true := code_word (m := ⟨7, 4⟩) (meth := k7m4) (c := k7c4) (by decide +kernel) rfl rfl rfl (by decide +kernel)
set_option maxRecDepth 65536 in
theorem w_c45 : (Jvm.Cond.code ({ cls := "java/lang/String", name := "isLatin1", desc := "()Z" } : Jvm.MethodName) jdk_42_method_154_code (1 : Nat) (Option.some Jvm.ClassFile.FieldType.boolean)).before args0 about1 = true := code_word (m := ⟨7, 10⟩) (meth := k7m10) (c := k7c10) (by decide +kernel) rfl rfl rfl (by decide +kernel)
set_option maxRecDepth 65536 in
theorem w_c46 : (Jvm.Cond.code ({ cls := "java/lang/StringLatin1", name := "charAt", desc := "([BI)C" } : Jvm.MethodName) jdk_43_method_2_code (2 : Nat) (Option.some Jvm.ClassFile.FieldType.char)).before args0 about1 = true := code_word (m := ⟨28, 1⟩) (meth := k28m1) (c := k28c1) (by decide +kernel) rfl rfl rfl (by decide +kernel)
set_option maxRecDepth 65536 in
theorem w_c47 : (Jvm.Cond.code ({ cls := "java/lang/String", name := "checkIndex", desc := "(II)V" } : Jvm.MethodName) jdk_42_method_155_code (2 : Nat) (Option.none : Option Jvm.ClassFile.FieldType)).before args0 about1 = true := code_word (m := ⟨7, 11⟩) (meth := k7m11) (c := k7c11) (by decide +kernel) rfl rfl rfl (by decide +kernel)
set_option maxRecDepth 65536 in
theorem w_c48 : (Jvm.Cond.code ({ cls := "jdk/internal/util/Preconditions", name := "checkIndex", desc := "(IILjava/util/function/BiFunction;)I" } : Jvm.MethodName) jdk_41_method_11_code (3 : Nat) (Option.some Jvm.ClassFile.FieldType.int)).before args0 about1 = true := code_word (m := ⟨29, 1⟩) (meth := k29m1) (c := k29c1) (by decide +kernel) rfl rfl rfl (by decide +kernel)
set_option maxRecDepth 65536 in
theorem w_c49 : (Jvm.Cond.code ({ cls := "java/lang/StringUTF16", name := "compress", desc := "([CII)[B" } : Jvm.MethodName) jdk_52_method_16_code (6 : Nat) (Option.some (Jvm.ClassFile.FieldType.array Jvm.ClassFile.FieldType.byte))).before args0 about1 = true := code_word (m := ⟨30, 2⟩) (meth := k30m2) (c := k30c2) (by decide +kernel) rfl rfl rfl (by decide +kernel)
set_option maxRecDepth 65536 in
theorem w_c50 : (Jvm.Cond.code ({ cls := "java/lang/StringUTF16", name := "compress", desc := "([CI[BII)I" } : Jvm.MethodName) jdk_52_method_21_code (7 : Nat) (Option.some Jvm.ClassFile.FieldType.int)).before args0 about1 = true := code_word (m := ⟨30, 3⟩) (meth := k30m3) (c := k30c3) (by decide +kernel) rfl rfl rfl (by decide +kernel)
set_option maxRecDepth 65536 in
theorem w_c51 : (Jvm.Cond.code ({ cls := "java/lang/StringUTF16", name := "coderFromArrayLen", desc := "([BI)B" } : Jvm.MethodName) jdk_52_method_15_code (2 : Nat) (Option.some Jvm.ClassFile.FieldType.byte)).before args0 about1 = true := code_word (m := ⟨30, 1⟩) (meth := k30m1) (c := k30c1) (by decide +kernel) rfl rfl rfl (by decide +kernel)
set_option maxRecDepth 65536 in
theorem w_c52 : (Jvm.Cond.code ({ cls := "java/lang/StringLatin1", name := "equals", desc := "([B[B)Z" } : Jvm.MethodName) jdk_43_method_13_code (3 : Nat) (Option.some Jvm.ClassFile.FieldType.boolean)).before args0 about1 = true := code_word (m := ⟨28, 2⟩) (meth := k28m2) (c := k28c2) (by decide +kernel) rfl rfl rfl (by decide +kernel)
set_option maxRecDepth 65536 in
theorem w_c53 : (Jvm.Cond.code ({ cls := "java/lang/Object", name := "equals", desc := "(Ljava/lang/Object;)Z" } : Jvm.MethodName) object_method_4_code (2 : Nat) (Option.some Jvm.ClassFile.FieldType.boolean)).before args0 about1 = true := code_word (m := ⟨0, 1⟩) (meth := k0m1) (c := k0c1) (by decide +kernel) rfl rfl rfl (by decide +kernel)
set_option maxRecDepth 65536 in
theorem w_c54 : (Jvm.Cond.code ({ cls := "java/util/Set", name := "of", desc := "()Ljava/util/Set;" } : Jvm.MethodName) jdk_96_method_17_code (0 : Nat) (Option.some (Jvm.ClassFile.FieldType.object "java/util/Set"))).before args0 about1 = true := code_word (m := ⟨13, 1⟩) (meth := k13m1) (c := k13c1) (by decide +kernel) rfl rfl rfl (by decide +kernel)
set_option maxRecDepth 65536 in
theorem w_c55 : (Jvm.Cond.code ({ cls := "java/util/ImmutableCollections$SetN", name := "contains", desc := "(Ljava/lang/Object;)Z" } : Jvm.MethodName) jdk_132_method_4_code (2 : Nat) (Option.some Jvm.ClassFile.FieldType.boolean)).before args0 about1 = true := code_word (m := ⟨31, 0⟩) (meth := k31m0) (c := k31c0) (by decide +kernel) rfl rfl rfl (by decide +kernel)
def codes1 : List Jvm.Cond := [Jvm.Cond.code x code maxLocals ret, Jvm.Cond.code ({ cls := "com/example/elegua/elegua/authorization/AccessRolePinLaw", name := "mk", desc := "(I)Ljava/lang/String;" } : Jvm.MethodName) method_2_code (5 : Nat) (Option.some (Jvm.ClassFile.FieldType.object "java/lang/String")), Jvm.Cond.code ({ cls := "java/lang/String", name := "<init>", desc := "([C)V" } : Jvm.MethodName) jdk_42_method_3_code (2 : Nat) (Option.none : Option Jvm.ClassFile.FieldType), Jvm.Cond.code ({ cls := "java/lang/String", name := "<init>", desc := "([CIILjava/lang/Void;)V" } : Jvm.MethodName) jdk_42_method_149_code (6 : Nat) (Option.none : Option Jvm.ClassFile.FieldType), Jvm.Cond.code ({ cls := "java/lang/Object", name := "<init>", desc := "()V" } : Jvm.MethodName) object_method_1_code (1 : Nat) (Option.none : Option Jvm.ClassFile.FieldType), Jvm.Cond.code ({ cls := "java/util/Set", name := "of", desc := "(Ljava/lang/Object;)Ljava/util/Set;" } : Jvm.MethodName) jdk_96_method_18_code (1 : Nat) (Option.some (Jvm.ClassFile.FieldType.object "java/util/Set")), Jvm.Cond.code ({ cls := "java/util/ImmutableCollections$Set12", name := "<init>", desc := "(Ljava/lang/Object;)V" } : Jvm.MethodName) jdk_101_method_1_code (2 : Nat) (Option.none : Option Jvm.ClassFile.FieldType), Jvm.Cond.code ({ cls := "java/util/ImmutableCollections$AbstractImmutableSet", name := "<init>", desc := "()V" } : Jvm.MethodName) jdk_100_method_1_code (1 : Nat) (Option.none : Option Jvm.ClassFile.FieldType), Jvm.Cond.code ({ cls := "java/util/ImmutableCollections$AbstractImmutableCollection", name := "<init>", desc := "()V" } : Jvm.MethodName) jdk_47_method_1_code (1 : Nat) (Option.none : Option Jvm.ClassFile.FieldType), Jvm.Cond.code ({ cls := "java/util/AbstractCollection", name := "<init>", desc := "()V" } : Jvm.MethodName) jdk_22_method_1_code (1 : Nat) (Option.none : Option Jvm.ClassFile.FieldType), Jvm.Cond.code ({ cls := "java/util/Objects", name := "requireNonNull", desc := "(Ljava/lang/Object;)Ljava/lang/Object;" } : Jvm.MethodName) jdk_31_method_10_code (1 : Nat) (Option.some (Jvm.ClassFile.FieldType.object "java/lang/Object")), Jvm.Cond.code ({ cls := "com/example/elegua/elegua/context/Identity", name := "<init>", desc := "(Ljava/lang/String;Ljava/util/Set;)V" } : Jvm.MethodName) prog_6_method_1_code (3 : Nat) (Option.none : Option Jvm.ClassFile.FieldType), Jvm.Cond.code ({ cls := "java/lang/Record", name := "<init>", desc := "()V" } : Jvm.MethodName) jdk_30_method_1_code (1 : Nat) (Option.none : Option Jvm.ClassFile.FieldType), Jvm.Cond.code ({ cls := "java/util/Objects", name := "requireNonNull", desc := "(Ljava/lang/Object;Ljava/lang/String;)Ljava/lang/Object;" } : Jvm.MethodName) jdk_31_method_11_code (2 : Nat) (Option.some (Jvm.ClassFile.FieldType.object "java/lang/Object")), Jvm.Cond.code ({ cls := "java/util/Set", name := "copyOf", desc := "(Ljava/util/Collection;)Ljava/util/Set;" } : Jvm.MethodName) jdk_96_method_29_code (1 : Nat) (Option.some (Jvm.ClassFile.FieldType.object "java/util/Set")), Jvm.Cond.code ({ cls := "com/example/elegua/elegua/authorization/Access", name := "role", desc := "(Ljava/lang/String;)Lcom/example/elegua/elegua/authorization/Access;" } : Jvm.MethodName) prog_2_method_4_code (1 : Nat) (Option.some (Jvm.ClassFile.FieldType.object "com/example/elegua/elegua/authorization/Access")), Jvm.Cond.code ({ cls := "java/lang/StringBuilder", name := "<init>", desc := "()V" } : Jvm.MethodName) jdk_67_method_1_code (1 : Nat) (Option.none : Option Jvm.ClassFile.FieldType), Jvm.Cond.code ({ cls := "java/lang/AbstractStringBuilder", name := "<init>", desc := "(I)V" } : Jvm.MethodName) jdk_68_method_2_code (2 : Nat) (Option.none : Option Jvm.ClassFile.FieldType), Jvm.Cond.code ({ cls := "java/lang/StringBuilder", name := "append", desc := "(Ljava/lang/String;)Ljava/lang/StringBuilder;" } : Jvm.MethodName) jdk_67_method_7_code (2 : Nat) (Option.some (Jvm.ClassFile.FieldType.object "java/lang/StringBuilder")), Jvm.Cond.code ({ cls := "java/lang/AbstractStringBuilder", name := "append", desc := "(Ljava/lang/String;)Ljava/lang/AbstractStringBuilder;" } : Jvm.MethodName) jdk_68_method_22_code (3 : Nat) (Option.some (Jvm.ClassFile.FieldType.object "java/lang/AbstractStringBuilder")), Jvm.Cond.code ({ cls := "java/lang/String", name := "length", desc := "()I" } : Jvm.MethodName) jdk_42_method_54_code (1 : Nat) (Option.some Jvm.ClassFile.FieldType.int), Jvm.Cond.code ({ cls := "java/lang/String", name := "coder", desc := "()B" } : Jvm.MethodName) jdk_42_method_152_code (1 : Nat) (Option.some Jvm.ClassFile.FieldType.byte), Jvm.Cond.code ({ cls := "java/lang/AbstractStringBuilder", name := "ensureCapacityInternal", desc := "(I)V" } : Jvm.MethodName) jdk_68_method_9_code (3 : Nat) (Option.none : Option Jvm.ClassFile.FieldType), Jvm.Cond.code ({ cls := "java/lang/AbstractStringBuilder", name := "putStringAt", desc := "(ILjava/lang/String;)V" } : Jvm.MethodName) jdk_68_method_73_code (3 : Nat) (Option.none : Option Jvm.ClassFile.FieldType), Jvm.Cond.code ({ cls := "java/lang/AbstractStringBuilder", name := "inflateIfNeededFor", desc := "(Ljava/lang/String;)V" } : Jvm.MethodName) jdk_68_method_71_code (2 : Nat) (Option.none : Option Jvm.ClassFile.FieldType), Jvm.Cond.code ({ cls := "java/lang/String", name := "getBytes", desc := "([BIB)V" } : Jvm.MethodName) jdk_42_method_147_code (4 : Nat) (Option.none : Option Jvm.ClassFile.FieldType), Jvm.Cond.code ({ cls := "java/lang/StringBuilder", name := "toString", desc := "()Ljava/lang/String;" } : Jvm.MethodName) jdk_67_method_42_code (1 : Nat) (Option.some (Jvm.ClassFile.FieldType.object "java/lang/String")), Jvm.Cond.code ({ cls := "java/lang/String", name := "<init>", desc := "(Ljava/lang/StringBuilder;)V" } : Jvm.MethodName) jdk_42_method_53_code (2 : Nat) (Option.none : Option Jvm.ClassFile.FieldType), Jvm.Cond.code ({ cls := "java/lang/String", name := "<init>", desc := "(Ljava/lang/AbstractStringBuilder;Ljava/lang/Void;)V" } : Jvm.MethodName) jdk_42_method_150_code (5 : Nat) (Option.none : Option Jvm.ClassFile.FieldType), Jvm.Cond.code ({ cls := "java/lang/AbstractStringBuilder", name := "getValue", desc := "()[B" } : Jvm.MethodName) jdk_68_method_64_code (1 : Nat) (Option.some (Jvm.ClassFile.FieldType.array Jvm.ClassFile.FieldType.byte)), Jvm.Cond.code ({ cls := "java/lang/StringBuilder", name := "length", desc := "()I" } : Jvm.MethodName) jdk_67_method_93_code (1 : Nat) (Option.some Jvm.ClassFile.FieldType.int), Jvm.Cond.code ({ cls := "java/lang/AbstractStringBuilder", name := "length", desc := "()I" } : Jvm.MethodName) jdk_68_method_6_code (1 : Nat) (Option.some Jvm.ClassFile.FieldType.int), Jvm.Cond.code ({ cls := "java/lang/AbstractStringBuilder", name := "isLatin1", desc := "()Z" } : Jvm.MethodName) jdk_68_method_68_code (1 : Nat) (Option.some Jvm.ClassFile.FieldType.boolean), Jvm.Cond.code ({ cls := "java/util/Arrays", name := "copyOfRange", desc := "([BII)[B" } : Jvm.MethodName) jdk_65_method_132_code (3 : Nat) (Option.some (Jvm.ClassFile.FieldType.array Jvm.ClassFile.FieldType.byte)), Jvm.Cond.code ({ cls := "java/util/Arrays", name := "copyOfRangeByte", desc := "([BII)[B" } : Jvm.MethodName) jdk_65_method_133_code (5 : Nat) (Option.some (Jvm.ClassFile.FieldType.array Jvm.ClassFile.FieldType.byte)), Jvm.Cond.code ({ cls := "java/util/Arrays", name := "checkLength", desc := "(II)V" } : Jvm.MethodName) jdk_65_method_131_code (2 : Nat) (Option.none : Option Jvm.ClassFile.FieldType), Jvm.Cond.code ({ cls := "java/lang/Math", name := "min", desc := "(II)I" } : Jvm.MethodName) jdk_29_method_69_code (2 : Nat) (Option.some Jvm.ClassFile.FieldType.int), Jvm.Cond.code ({ cls := "com/example/elegua/elegua/authorization/Access", name := "<init>", desc := "(Ljava/lang/String;Ljava/util/function/Predicate;)V" } : Jvm.MethodName) prog_2_method_1_code (3 : Nat) (Option.none : Option Jvm.ClassFile.FieldType), Jvm.Cond.code ({ cls := "com/example/elegua/elegua/authorization/Access", name := "allows", desc := "(Lcom/example/elegua/elegua/context/Identity;)Z" } : Jvm.MethodName) prog_2_method_5_code (2 : Nat) (Option.some Jvm.ClassFile.FieldType.boolean), Jvm.Cond.code ({ cls := "com/example/elegua/elegua/authorization/Access", name := "lambda$role$1", desc := "(Ljava/lang/String;Lcom/example/elegua/elegua/context/Identity;)Z" } : Jvm.MethodName) prog_2_method_7_code (2 : Nat) (Option.some Jvm.ClassFile.FieldType.boolean), Jvm.Cond.code ({ cls := "com/example/elegua/elegua/context/Identity", name := "hasRole", desc := "(Ljava/lang/String;)Z" } : Jvm.MethodName) prog_6_method_3_code (2 : Nat) (Option.some Jvm.ClassFile.FieldType.boolean), Jvm.Cond.code ({ cls := "java/util/ImmutableCollections$Set12", name := "contains", desc := "(Ljava/lang/Object;)Z" } : Jvm.MethodName) jdk_101_method_5_code (2 : Nat) (Option.some Jvm.ClassFile.FieldType.boolean), Jvm.Cond.code ({ cls := "java/lang/String", name := "equals", desc := "(Ljava/lang/Object;)Z" } : Jvm.MethodName) jdk_42_method_66_code (3 : Nat) (Option.some Jvm.ClassFile.FieldType.boolean), Jvm.Cond.code ({ cls := "com/example/elegua/elegua/authorization/Access", name := "toString", desc := "()Ljava/lang/String;" } : Jvm.MethodName) prog_2_method_6_code (1 : Nat) (Option.some (Jvm.ClassFile.FieldType.object "java/lang/String")), Jvm.Cond.code ({ cls := "java/lang/String", name := "charAt", desc := "(I)C" } : Jvm.MethodName) jdk_42_method_56_code (2 : Nat) (Option.some Jvm.ClassFile.FieldType.char), Jvm.Cond.code ({ cls := "java/lang/String", name := "isLatin1", desc := "()Z" } : Jvm.MethodName) jdk_42_method_154_code (1 : Nat) (Option.some Jvm.ClassFile.FieldType.boolean), Jvm.Cond.code ({ cls := "java/lang/StringLatin1", name := "charAt", desc := "([BI)C" } : Jvm.MethodName) jdk_43_method_2_code (2 : Nat) (Option.some Jvm.ClassFile.FieldType.char), Jvm.Cond.code ({ cls := "java/lang/String", name := "checkIndex", desc := "(II)V" } : Jvm.MethodName) jdk_42_method_155_code (2 : Nat) (Option.none : Option Jvm.ClassFile.FieldType), Jvm.Cond.code ({ cls := "jdk/internal/util/Preconditions", name := "checkIndex", desc := "(IILjava/util/function/BiFunction;)I" } : Jvm.MethodName) jdk_41_method_11_code (3 : Nat) (Option.some Jvm.ClassFile.FieldType.int), Jvm.Cond.code ({ cls := "java/lang/StringUTF16", name := "compress", desc := "([CII)[B" } : Jvm.MethodName) jdk_52_method_16_code (6 : Nat) (Option.some (Jvm.ClassFile.FieldType.array Jvm.ClassFile.FieldType.byte)), Jvm.Cond.code ({ cls := "java/lang/StringUTF16", name := "compress", desc := "([CI[BII)I" } : Jvm.MethodName) jdk_52_method_21_code (7 : Nat) (Option.some Jvm.ClassFile.FieldType.int), Jvm.Cond.code ({ cls := "java/lang/StringUTF16", name := "coderFromArrayLen", desc := "([BI)B" } : Jvm.MethodName) jdk_52_method_15_code (2 : Nat) (Option.some Jvm.ClassFile.FieldType.byte), Jvm.Cond.code ({ cls := "java/lang/StringLatin1", name := "equals", desc := "([B[B)Z" } : Jvm.MethodName) jdk_43_method_13_code (3 : Nat) (Option.some Jvm.ClassFile.FieldType.boolean), Jvm.Cond.code ({ cls := "java/lang/Object", name := "equals", desc := "(Ljava/lang/Object;)Z" } : Jvm.MethodName) object_method_4_code (2 : Nat) (Option.some Jvm.ClassFile.FieldType.boolean), Jvm.Cond.code ({ cls := "java/util/Set", name := "of", desc := "()Ljava/util/Set;" } : Jvm.MethodName) jdk_96_method_17_code (0 : Nat) (Option.some (Jvm.ClassFile.FieldType.object "java/util/Set")), Jvm.Cond.code ({ cls := "java/util/ImmutableCollections$SetN", name := "contains", desc := "(Ljava/lang/Object;)Z" } : Jvm.MethodName) jdk_132_method_4_code (2 : Nat) (Option.some Jvm.ClassFile.FieldType.boolean)]
set_option maxRecDepth 65536 in
theorem codes_eq : words1.filter isCode = codes1 := rfl
theorem w_codes : ∀ c ∈ words1.filter isCode, c.before args0 about1 = true := by
  rw [codes_eq]
  intro c hc
  simp only [codes1, List.mem_cons, List.not_mem_nil, or_false] at hc
  rcases hc with rfl | rfl | rfl | rfl | rfl | rfl | rfl | rfl | rfl | rfl | rfl | rfl | rfl | rfl | rfl | rfl | rfl | rfl | rfl | rfl | rfl | rfl | rfl | rfl | rfl | rfl | rfl | rfl | rfl | rfl | rfl | rfl | rfl | rfl | rfl | rfl | rfl | rfl | rfl | rfl | rfl | rfl | rfl | rfl | rfl | rfl | rfl | rfl | rfl | rfl | rfl | rfl | rfl | rfl | rfl | rfl
  · exact w_c0
  · exact w_c1
  · exact w_c2
  · exact w_c3
  · exact w_c4
  · exact w_c5
  · exact w_c6
  · exact w_c7
  · exact w_c8
  · exact w_c9
  · exact w_c10
  · exact w_c11
  · exact w_c12
  · exact w_c13
  · exact w_c14
  · exact w_c15
  · exact w_c16
  · exact w_c17
  · exact w_c18
  · exact w_c19
  · exact w_c20
  · exact w_c21
  · exact w_c22
  · exact w_c23
  · exact w_c24
  · exact w_c25
  · exact w_c26
  · exact w_c27
  · exact w_c28
  · exact w_c29
  · exact w_c30
  · exact w_c31
  · exact w_c32
  · exact w_c33
  · exact w_c34
  · exact w_c35
  · exact w_c36
  · exact w_c37
  · exact w_c38
  · exact w_c39
  · exact w_c40
  · exact w_c41
  · exact w_c42
  · exact w_c43
  · exact w_c44
  · exact w_c45
  · exact w_c46
  · exact w_c47
  · exact w_c48
  · exact w_c49
  · exact w_c50
  · exact w_c51
  · exact w_c52
  · exact w_c53
  · exact w_c54
  · exact w_c55
set_option maxRecDepth 65536 in
theorem w_t1 : (words1.take 24).all (fun c => isCode c || c.before args0 about1) = true := by decide +kernel
set_option maxRecDepth 65536 in
theorem w_t2 : ((words1.drop 24).take 24).all (fun c => isCode c || c.before args0 about1) = true := by decide +kernel
set_option maxRecDepth 65536 in
theorem w_t3 : (((words1.drop 24).drop 24).take 24).all (fun c => isCode c || c.before args0 about1) = true := by decide +kernel
set_option maxRecDepth 65536 in
theorem w_t4 : ((((words1.drop 24).drop 24).drop 24).take 24).all (fun c => isCode c || c.before args0 about1) = true := by decide +kernel
set_option maxRecDepth 65536 in
theorem w_t5 : (((((words1.drop 24).drop 24).drop 24).drop 24).take 24).all (fun c => isCode c || c.before args0 about1) = true := by decide +kernel
set_option maxRecDepth 65536 in
theorem w_t6 : ((((((words1.drop 24).drop 24).drop 24).drop 24).drop 24).take 24).all (fun c => isCode c || c.before args0 about1) = true := by decide +kernel
set_option maxRecDepth 65536 in
theorem w_t7 : (((((((words1.drop 24).drop 24).drop 24).drop 24).drop 24).drop 24).take 24).all (fun c => isCode c || c.before args0 about1) = true := by decide +kernel
set_option maxRecDepth 65536 in
theorem w_t8 : ((((((((words1.drop 24).drop 24).drop 24).drop 24).drop 24).drop 24).drop 24).take 24).all (fun c => isCode c || c.before args0 about1) = true := by decide +kernel
set_option maxRecDepth 65536 in
theorem w_t9 : (((((((((words1.drop 24).drop 24).drop 24).drop 24).drop 24).drop 24).drop 24).drop 24).take 24).all (fun c => isCode c || c.before args0 about1) = true := by decide +kernel
set_option maxRecDepth 65536 in
theorem w_t10 : ((((((((((words1.drop 24).drop 24).drop 24).drop 24).drop 24).drop 24).drop 24).drop 24).drop 24).take 24).all (fun c => isCode c || c.before args0 about1) = true := by decide +kernel
set_option maxRecDepth 65536 in
theorem w_t11 : (((((((((((words1.drop 24).drop 24).drop 24).drop 24).drop 24).drop 24).drop 24).drop 24).drop 24).drop 24).take 24).all (fun c => isCode c || c.before args0 about1) = true := by decide +kernel
set_option maxRecDepth 65536 in
theorem w_t12 : ((((((((((((words1.drop 24).drop 24).drop 24).drop 24).drop 24).drop 24).drop 24).drop 24).drop 24).drop 24).drop 24).take 24).all (fun c => isCode c || c.before args0 about1) = true := by decide +kernel
set_option maxRecDepth 65536 in
theorem w_t13 : (((((((((((((words1.drop 24).drop 24).drop 24).drop 24).drop 24).drop 24).drop 24).drop 24).drop 24).drop 24).drop 24).drop 24).take 24).all (fun c => isCode c || c.before args0 about1) = true := by decide +kernel
set_option maxRecDepth 65536 in
theorem w_t14 : (((((((((((((words1.drop 24).drop 24).drop 24).drop 24).drop 24).drop 24).drop 24).drop 24).drop 24).drop 24).drop 24).drop 24).drop 24).all (fun c => isCode c || c.before args0 about1) = true := by decide +kernel
theorem w_tables : (allAtoms (Jvm.Cond.code x code maxLocals ret :: tables_1)).before args0 about1 = true := by
  rw [allAtoms_all]
  show words1.all (fun c => c.before args0 about1) = true
  refine all_split ?_ w_codes
  rw [← List.take_append_drop 24 words1, List.all_append, w_t1, ← List.take_append_drop 24 (words1.drop 24), List.all_append, w_t2, ← List.take_append_drop 24 ((words1.drop 24).drop 24), List.all_append, w_t3, ← List.take_append_drop 24 (((words1.drop 24).drop 24).drop 24), List.all_append, w_t4, ← List.take_append_drop 24 ((((words1.drop 24).drop 24).drop 24).drop 24), List.all_append, w_t5, ← List.take_append_drop 24 (((((words1.drop 24).drop 24).drop 24).drop 24).drop 24), List.all_append, w_t6, ← List.take_append_drop 24 ((((((words1.drop 24).drop 24).drop 24).drop 24).drop 24).drop 24), List.all_append, w_t7, ← List.take_append_drop 24 (((((((words1.drop 24).drop 24).drop 24).drop 24).drop 24).drop 24).drop 24), List.all_append, w_t8, ← List.take_append_drop 24 ((((((((words1.drop 24).drop 24).drop 24).drop 24).drop 24).drop 24).drop 24).drop 24), List.all_append, w_t9, ← List.take_append_drop 24 (((((((((words1.drop 24).drop 24).drop 24).drop 24).drop 24).drop 24).drop 24).drop 24).drop 24), List.all_append, w_t10, ← List.take_append_drop 24 ((((((((((words1.drop 24).drop 24).drop 24).drop 24).drop 24).drop 24).drop 24).drop 24).drop 24).drop 24), List.all_append, w_t11, ← List.take_append_drop 24 (((((((((((words1.drop 24).drop 24).drop 24).drop 24).drop 24).drop 24).drop 24).drop 24).drop 24).drop 24).drop 24), List.all_append, w_t12, ← List.take_append_drop 24 ((((((((((((words1.drop 24).drop 24).drop 24).drop 24).drop 24).drop 24).drop 24).drop 24).drop 24).drop 24).drop 24).drop 24), List.all_append, w_t13, w_t14]
  rfl
set_option maxRecDepth 65536 in
theorem w_rest : rest_1_c.before args0 about1 = true := by decide +kernel
set_option maxRecDepth 65536 in
theorem w_case : (Jvm.Cond.and given_1 narrow_1).before args0 about1 = true := by decide +kernel
set_option maxRecDepth 65536 in
theorem w_consts : constsHeld consts_1 about1 := Jvm.Lit.constsHeldB_iff.mp (by decide +kernel)
theorem w_applies : (headSpec (Jvm.Cond.code x code maxLocals ret :: tables_1) room_1).applies x e0.platform about1 = true :=
  (Spec.applies_iff w_frames).mpr ⟨w_running, w_runnable, w_alone, w_named, w_hears, w_ripe, w_room, w_tables⟩
theorem atStart : AtStart classFile x code maxLocals ret World_1 tables_1 room_1 Calls_1 rest_1 Pre_1 launch0 p0 e0 about1 theMethod args0 below0 :=
  ⟨lists_1, trivial, launch0.admits_env _ _ _, launch0.least_env, fairChoices_fair.cas, fairChoices_fair.clock, w_frames, w_args, w_heap, w_applies, ⟨w_consts, trivial⟩, w_rest, w_case⟩
end start1
theorem witness_1 : WitnessClaimed_1 := ⟨start1.p0, start1.e0, start1.about1, start1.theMethod, start1.args0, start1.below0, start1.atStart⟩
end Jvm.Pilot.@@N@@
