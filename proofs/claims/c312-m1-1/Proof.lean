import JvmDerived
import JvmDerived.Pilot.@@N@@Statement
import JvmDerived.Pilot.@@N@@Code
set_option linter.unusedVariables false
set_option linter.unusedSimpArgs false
/- laws to paste: Road.backV, Road.eqW, Road.codOf (cut by pick.py; bodies as the Statement names them) -/
namespace Jvm.Pilot.@@N@@
namespace StrChars
open Jvm Sem ClassFile Op Lib Jvm.Stand Jvm.Free.XT Jvm.Free.ALB Jvm.Free.JM Jvm.Free
open Jvm.Lib.Cold (StaticIs)
/-- a char array whose places are chars -/
def Ch (a : Addr) (A : Cell) (U : State) : Prop := Arr .char a A U ∧ Typed .char A
theorem Ch.mv {a : Addr} {A : Cell} {U U' : State} (h : Ch a A U) (hal : U.vm.Alike U'.vm) (hh : U'.heap = U.heap) : Ch a A U' := ⟨h.1.mv hal hh, h.2⟩
theorem Ch.keep {a : Addr} {A : Cell} {U U' : State} (h : Ch a A U) (hal : U.vm.Alike U'.vm) (hk : U'.heap[a]? = some A) : Ch a A U' := ⟨h.1.keep hal hk, h.2⟩
/-- what place i of a char[]'s cell holds -/
def cv (A : Cell) (i : Nat) : Int32 := match A.slots[i]? with | some (.int x) => x | _ => 0
theorem Ch.get {a : Addr} {A : Cell} {U : State} (h : Ch a A U) {i : Nat} (hi : i < A.slots.size) : A.slots[i]? = some (.int (cv A i)) := by
  have e := Array.getElem?_eq_getElem hi
  have f := h.2 i _ e
  unfold cv; rw [e]
  generalize A.slots[i] = v at f
  cases v <;> simp [fits] at f ⊢
/-- the byte that i2b leaves of a char -/
def lo8 (x : Int32) : Int32 := x.toInt8.toInt32
theorem fits_lo8 (y : Int32) : fits .byte (.int (lo8 y)) = true := by
  have h1 := y.toInt8.le_toInt
  have h2 := y.toInt8.toInt_lt
  simp only [lo8, fits, Bool.and_eq_true, decide_eq_true_eq, Int32.le_iff_toInt_le, Int8.toInt_toInt32, show (-128 : Int32).toInt = -128 from by decide, show (127 : Int32).toInt = 127 from by decide]
  omega
/-- A' is A but that each place j of lo .. hi - 1 holds f j -/
def Laid (A A' : Cell) (lo hi : Nat) (f : Nat → Value) : Prop := A'.cls = A.cls ∧ A'.vm = A.vm ∧ A'.slots.size = A.slots.size ∧ ∀ i, A'.slots[i]? = if lo ≤ i ∧ i < hi then some (f i) else A.slots[i]?
theorem Laid.zero (A : Cell) (lo : Nat) (f : Nat → Value) : Laid A A lo (lo + 0) f := ⟨rfl, rfl, rfl, fun i => by rw [if_neg (by omega)]⟩
theorem Laid.step {A Ak : Cell} {lo k : Nat} {f : Nat → Value} {v : Value} (h : Laid A Ak lo k f) (hlo : lo ≤ k) (hk : k < Ak.slots.size) (hv : v = f k) : Laid A (Ak.setSlot k v) lo (k + 1) f := by
  refine ⟨h.1, h.2.1, by simpa [Cell.setSlot] using h.2.2.1, fun i => ?_⟩
  by_cases e : k = i
  · subst e; rw [Cell.slots_setSlot_self v hk, if_pos (by omega), hv]
  · rw [Cell.slots_setSlot_ne v e, h.2.2.2 i]
    by_cases q : lo ≤ i ∧ i < k
    · rw [if_pos q, if_pos (by omega)]
    · rw [if_neg q, if_neg (by omega)]
def U16 : String := "java/lang/StringUTF16"
namespace Cmp5
def yN : MethodName := ⟨"java/lang/StringUTF16", "compress", "([CI[BII)I"⟩
abbrev yB : ByteArray := jdk_52_method_21_code
theorem d0 : decode yB 0 = .ok (.iconst 0, 1) := by decide +kernel
theorem d1 : decode yB 1 = .ok (.istore 5, 2) := by decide +kernel
theorem d3 : decode yB 3 = .ok (.iload 5, 2) := by decide +kernel
theorem d5 : decode yB 5 = .ok (.iload 4, 2) := by decide +kernel
theorem d7 : decode yB 7 = .ok (.if_icmp (.ge) 37, 3) := by decide +kernel
theorem d10 : decode yB 10 = .ok (.aload_n 0, 1) := by decide +kernel
theorem d11 : decode yB 11 = .ok (.iload_n 1, 1) := by decide +kernel
theorem d12 : decode yB 12 = .ok (.caload, 1) := by decide +kernel
theorem d13 : decode yB 13 = .ok (.istore 6, 2) := by decide +kernel
theorem d15 : decode yB 15 = .ok (.iload 6, 2) := by decide +kernel
theorem d17 : decode yB 17 = .ok (.sipush 255, 3) := by decide +kernel
theorem d20 : decode yB 20 = .ok (.if_icmp (.le) 6, 3) := by decide +kernel
theorem d26 : decode yB 26 = .ok (.aload_n 2, 1) := by decide +kernel
theorem d27 : decode yB 27 = .ok (.iload_n 3, 1) := by decide +kernel
theorem d28 : decode yB 28 = .ok (.iload 6, 2) := by decide +kernel
theorem d30 : decode yB 30 = .ok (.i2b, 1) := by decide +kernel
theorem d31 : decode yB 31 = .ok (.bastore, 1) := by decide +kernel
theorem d32 : decode yB 32 = .ok (.iinc 1 1, 3) := by decide +kernel
theorem d35 : decode yB 35 = .ok (.iinc 3 1, 3) := by decide +kernel
theorem d38 : decode yB 38 = .ok (.iinc 5 1, 3) := by decide +kernel
theorem d41 : decode yB 41 = .ok (.goto (-38), 3) := by decide +kernel
theorem d44 : decode yB 44 = .ok (.iload 4, 2) := by decide +kernel
theorem d46 : decode yB 46 = .ok (.ireturn, 1) := by decide +kernel
def site : List Cond := []
def tab : Cond := tabOf yN yB 7 (some .int) site
def P (b : Addr) (A : Cell) (d : Addr) (B : Cell) (o q len : Nat) (args : Array Value) (s : State) : Prop := args = #[.ref b, .int (Int32.ofNat o), .ref d, .int (Int32.ofNat q), .int (Int32.ofNat len)] ∧ Ch b A s ∧ Arr .byte d B s ∧ b ≠ d ∧ o + len ≤ A.slots.size ∧ q + len ≤ B.slots.size ∧ ∀ i, i < len → ¬ 255 < cv A (o + i)
def E (b : Addr) (A : Cell) (d : Addr) (B : Cell) (o q len : Nat) (r : Option Value) (s u : State) : Prop := r = some (.int (Int32.ofNat len)) ∧ ∃ B', Put d B' s u ∧ Laid B B' q (q + len) (fun j => Value.int (lo8 (cv A (o + (j - q)))))
/-- no char of the range above 255: len; the places written hold each char's low byte -/
theorem law (l : Launch) (b : Addr) (A : Cell) (d : Addr) (B : Cell) (o q len : Nat) : Law l yN 5 5 0 0 yB 7 (some .int) site (P b A d B o q len) (E b A d B o q len) (copyLocs d q len) 0 0 := by
  refine Law.of_walk (plainFor_of_name (by decide +kernel)) (by decide +kernel) (by decide +kernel) (by decide) (fun _ _ h => by rw [h.1]; rfl) (fun _ U U' hal hh h => ⟨h.1, h.2.1.mv hal hh, h.2.2.1.mv hal hh, h.2.2.2⟩) (fun r U U' V V' h1 hal h2 h => ⟨h.1, h.2.elim fun B' q => ⟨B', q.1.mv h1 h2, q.2⟩⟩) ?_
  intro p e s m args below meth c s₁ X0 hexec hbytes hml hret hlk hnm hown hh0 W hP
  obtain ⟨rfl, hA, hB, hne, l1, l2, hp⟩ := hP
  have c1 : Steps p.tables e below (s₁.setTop (entryFrame m #[.ref b, .int (Int32.ofNat o), .ref d, .int (Int32.ofNat q), .int (Int32.ofNat len)] 7)) (s₁.setTop (mkF m 0 #[.val (.ref b), .val (.int (Int32.ofNat o)), .val (.ref d), .val (.int (Int32.ofNat q)), .val (.int (Int32.ofNat len)), .unset, .unset] [])) := entry rfl
  have hA0 := hA.1.mv X0.warmed.alike hh0
  have hB0 := hB.mv X0.warmed.alike hh0
  have a31 := hA.1.2.2.2
  have c2 : Steps p.tables e below (s₁.setTop (entryFrame m #[.ref b, .int (Int32.ofNat o), .ref d, .int (Int32.ofNat q), .int (Int32.ofNat len)] 7)) (s₁.setTop (mkF m 3 #[.val (.ref b), .val (.int (Int32.ofNat o)), .val (.ref d), .val (.int (Int32.ofNat q)), .val (.int (Int32.ofNat len)), .val (.int 0), .unset] [])) := c1.trans (by
    refine iconstV X0.here hexec rfl 0 (hb hbytes d0) (by decide) ?_
    refine XS.istore X0.here hexec rfl (hb hbytes d1) rfl rfl ?_
    exact Steps.refl _)
  have loop : ∀ (r i : Nat), i + r = len → ∀ (z : Slot), (z = .unset ∨ ∃ w, z = .val w ∧ w.category = 1) → ∀ (Tl : State) (Bk : Cell), Stand p l e { frames := 0, locals := 0, cells := 0, slots := 0 } s m #[.ref b, .int (Int32.ofNat o), .ref d, .int (Int32.ofNat q), .int (Int32.ofNat len)] below meth c Tl ([] ++ copyLocs d q i) 0 0 → Put d Bk s₁ Tl → Laid B Bk q (q + i) (fun j => Value.int (lo8 (cv A (o + (j - q))))) →
      Steps p.tables e below (s₁.setTop (entryFrame m #[.ref b, .int (Int32.ofNat o), .ref d, .int (Int32.ofNat q), .int (Int32.ofNat len)] 7)) (Tl.setTop (mkF m 3 #[.val (.ref b), .val (.int (Int32.ofNat (o + i))), .val (.ref d), .val (.int (Int32.ofNat (q + i))), .val (.int (Int32.ofNat len)), .val (.int (Int32.ofNat i)), z] [])) → ∃ (T' : State) (B' : Cell) (z' : Slot), Stand p l e { frames := 0, locals := 0, cells := 0, slots := 0 } s m #[.ref b, .int (Int32.ofNat o), .ref d, .int (Int32.ofNat q), .int (Int32.ofNat len)] below meth c T' ([] ++ copyLocs d q len) 0 0 ∧ Put d B' s₁ T' ∧ Laid B B' q (q + len) (fun j => Value.int (lo8 (cv A (o + (j - q))))) ∧
      Steps p.tables e below (s₁.setTop (entryFrame m #[.ref b, .int (Int32.ofNat o), .ref d, .int (Int32.ofNat q), .int (Int32.ofNat len)] 7)) (T'.setTop (mkF m 3 #[.val (.ref b), .val (.int (Int32.ofNat (o + len))), .val (.ref d), .val (.int (Int32.ofNat (q + len))), .val (.int (Int32.ofNat len)), .val (.int (Int32.ofNat len)), z'] [])) := by
    intro r
    induction r with
    | zero =>
      intro i hi z hz Tl Bk Xl pl fl cl
      have hil : i = len := by omega
      rw [hil] at Xl fl cl
      exact ⟨Tl, Bk, z, Xl, pl, fl, cl⟩
    | succ r ih =>
      intro i hi z hz Tl Bk Xl pl fl cl
      have all := X0.warmed.alike.symm.trans Xl.warmed.alike
      have hAl := hA0.keep all (pl.other hne hA0.1)
      have hBk := hB0.like all pl.1 fl.1 fl.2.1 fl.2.2.1
      have hlt : q + i < Bk.slots.size := by rw [fl.2.2.1]; omega
      have c3 : Steps p.tables e below (s₁.setTop (entryFrame m #[.ref b, .int (Int32.ofNat o), .ref d, .int (Int32.ofNat q), .int (Int32.ofNat len)] 7)) (Tl.setTop (mkF m 12 #[.val (.ref b), .val (.int (Int32.ofNat (o + i))), .val (.ref d), .val (.int (Int32.ofNat (q + i))), .val (.int (Int32.ofNat len)), .val (.int (Int32.ofNat i)), z] [.int (Int32.ofNat (o + i)), .ref b])) := cl.trans (by
        refine XS.iload Xl.here hexec rfl (hb hbytes d3) rfl ?_
        refine XS.iload Xl.here hexec rfl (hb hbytes d5) rfl ?_
        refine XS.icmpNo Xl.here hexec rfl (hb hbytes d7) rfl (ii_ge_f (lt32 (by omega) (by omega))) ?_
        refine XS.aloadN Xl.here hexec rfl (hb hbytes d10) rfl rfl ?_
        refine XS.iloadN Xl.here hexec rfl (hb hbytes d11) rfl ?_
        exact Steps.refl _)
      have c4 : Steps p.tables e below (s₁.setTop (entryFrame m #[.ref b, .int (Int32.ofNat o), .ref d, .int (Int32.ofNat q), .int (Int32.ofNat len)] 7)) (Tl.setTop (mkF m 13 #[.val (.ref b), .val (.int (Int32.ofNat (o + i))), .val (.ref d), .val (.int (Int32.ofNat (q + i))), .val (.int (Int32.ofNat len)), .val (.int (Int32.ofNat i)), z] [.int (cv A (o + i))])) := c3.trans (by
        refine Xl.aget hexec hAl rfl (hA.get (i := o + i) (by omega)) rfl rfl (hb hbytes d12) ?_
        exact Steps.refl _)
      have c5 : Steps p.tables e below (s₁.setTop (entryFrame m #[.ref b, .int (Int32.ofNat o), .ref d, .int (Int32.ofNat q), .int (Int32.ofNat len)] 7)) (Tl.setTop (mkF m 15 #[.val (.ref b), .val (.int (Int32.ofNat (o + i))), .val (.ref d), .val (.int (Int32.ofNat (q + i))), .val (.int (Int32.ofNat len)), .val (.int (Int32.ofNat i)), .val (.int (cv A (o + i)))] [])) := c4.trans (by
        refine XS.istoreS Xl.here hexec rfl (hb hbytes d13) rfl rfl hz ?_
        exact Steps.refl _)
      have c6 : Steps p.tables e below (s₁.setTop (entryFrame m #[.ref b, .int (Int32.ofNat o), .ref d, .int (Int32.ofNat q), .int (Int32.ofNat len)] 7)) (Tl.setTop (mkF m 31 #[.val (.ref b), .val (.int (Int32.ofNat (o + i))), .val (.ref d), .val (.int (Int32.ofNat (q + i))), .val (.int (Int32.ofNat len)), .val (.int (Int32.ofNat i)), .val (.int (cv A (o + i)))] [.int (lo8 (cv A (o + i))), .int (Int32.ofNat (q + i)), .ref d])) := c5.trans (by
        refine XS.iload Xl.here hexec rfl (hb hbytes d15) rfl ?_
        refine sipushV Xl.here hexec rfl 255 (hb hbytes d17) (by decide) ?_
        refine XS.icmpYes Xl.here hexec rfl (pc0 := 20) rfl (hb hbytes d20) rfl (ii_le_t (hp i (by omega))) (by decide) rfl ?_
        refine XS.aloadN Xl.here hexec rfl (hb hbytes d26) rfl rfl ?_
        refine XS.iloadN Xl.here hexec rfl (hb hbytes d27) rfl ?_
        refine XS.iload Xl.here hexec rfl (hb hbytes d28) rfl ?_
        refine i2b Xl.here hexec rfl (hb hbytes d30) rfl ?_
        exact Steps.refl _)
      obtain ⟨T7, X7, p7, st7⟩ := Xl.aput hexec hBk rfl hlt rfl (fits_lo8 (cv A (o + i))) (g := (mkF m 31 #[.val (.ref b), .val (.int (Int32.ofNat (o + i))), .val (.ref d), .val (.int (Int32.ofNat (q + i))), .val (.int (Int32.ofNat len)), .val (.int (Int32.ofNat i)), .val (.int (cv A (o + i)))] [.int (lo8 (cv A (o + i))), .int (Int32.ofNat (q + i)), .ref d])) rfl (rest := []) rfl (hb hbytes d31)
      have c8 : Steps p.tables e below (s₁.setTop (entryFrame m #[.ref b, .int (Int32.ofNat o), .ref d, .int (Int32.ofNat q), .int (Int32.ofNat len)] 7)) (T7.setTop (mkF m 32 #[.val (.ref b), .val (.int (Int32.ofNat (o + i))), .val (.ref d), .val (.int (Int32.ofNat (q + i))), .val (.int (Int32.ofNat len)), .val (.int (Int32.ofNat i)), .val (.int (cv A (o + i)))] [])) := c6.trans (st7 _ (Steps.refl _))
      have c9 : Steps p.tables e below (s₁.setTop (entryFrame m #[.ref b, .int (Int32.ofNat o), .ref d, .int (Int32.ofNat q), .int (Int32.ofNat len)] 7)) (T7.setTop (mkF m 3 #[.val (.ref b), .val (.int (Int32.ofNat (o + i) + 1)), .val (.ref d), .val (.int (Int32.ofNat (q + i) + 1)), .val (.int (Int32.ofNat len)), .val (.int (Int32.ofNat i + 1)), .val (.int (cv A (o + i)))] [])) := c8.trans (by
        refine iincV X7.here hexec rfl 1 (hb hbytes d32) (by decide) rfl rfl ?_
        refine iincV X7.here hexec rfl 1 (hb hbytes d35) (by decide) rfl rfl ?_
        refine iincV X7.here hexec rfl 1 (hb hbytes d38) (by decide) rfl rfl ?_
        refine XS.goto X7.here hexec rfl (pc0 := 41) rfl (hb hbytes d41) (by decide) rfl ?_
        exact Steps.refl _)
      have c10 : Steps p.tables e below (s₁.setTop (entryFrame m #[.ref b, .int (Int32.ofNat o), .ref d, .int (Int32.ofNat q), .int (Int32.ofNat len)] 7)) (T7.setTop (mkF m 3 #[.val (.ref b), .val (.int (Int32.ofNat (o + (i + 1)))), .val (.ref d), .val (.int (Int32.ofNat (q + (i + 1)))), .val (.int (Int32.ofNat len)), .val (.int (Int32.ofNat (i + 1))), .val (.int (cv A (o + i)))] [])) := by
        have := c9
        rw [succ32, succ32, succ32] at this
        exact this
      exact ih (i + 1) (by omega) _ (Or.inr ⟨_, rfl, rfl⟩) T7 _ (by rw [copyLocs_step, ← List.append_assoc]; exact X7) (pl.trans p7) (fl.step (by omega) hlt (by simp)) c10
  obtain ⟨T9, B9, z9, X9, p9, f9, g9⟩ := loop len 0 (by omega) .unset (Or.inl rfl) s₁ B (by simpa [copyLocs] using X0) ⟨hB0.1, fun _ _ => rfl, rfl⟩ (Laid.zero _ _ _) c2
  have c11 : Steps p.tables e below (s₁.setTop (entryFrame m #[.ref b, .int (Int32.ofNat o), .ref d, .int (Int32.ofNat q), .int (Int32.ofNat len)] 7)) (T9.setTop (mkF m 46 #[.val (.ref b), .val (.int (Int32.ofNat (o + len))), .val (.ref d), .val (.int (Int32.ofNat (q + len))), .val (.int (Int32.ofNat len)), .val (.int (Int32.ofNat len)), z9] [.int (Int32.ofNat len)])) := g9.trans (by
    refine XS.iload X9.here hexec rfl (hb hbytes d3) rfl ?_
    refine XS.iload X9.here hexec rfl (hb hbytes d5) rfl ?_
    refine XS.icmpYes X9.here hexec rfl (pc0 := 7) rfl (hb hbytes d7) rfl (ii_ge_t (nlt32 (by omega) (Nat.le_refl _))) (by decide) rfl ?_
    refine XS.iload X9.here hexec rfl (hb hbytes d44) rfl ?_
    exact Steps.refl _)
  exact ⟨T9, some (.int (Int32.ofNat len)), _, _, _, X9, by simp, rfl, rfl, (fun h => by cases h), ⟨rfl, B9, p9.from hh0, f9⟩, fun fs hl => c11.trans (X9.ireturnOut hexec hret rfl (Or.inl rfl) (hb hbytes d46) hl)⟩
end Cmp5
namespace Cmp3
def yN : MethodName := ⟨"java/lang/StringUTF16", "compress", "([CII)[B"⟩
abbrev yB : ByteArray := jdk_52_method_16_code
theorem d0 : decode yB 0 = .ok (.iload_n 2, 1) := by decide +kernel
theorem d1 : decode yB 1 = .ok (.newarray .byte, 2) := by decide +kernel
theorem d3 : decode yB 3 = .ok (.astore_n 3, 1) := by decide +kernel
theorem d4 : decode yB 4 = .ok (.aload_n 0, 1) := by decide +kernel
theorem d5 : decode yB 5 = .ok (.iload_n 1, 1) := by decide +kernel
theorem d6 : decode yB 6 = .ok (.aload_n 3, 1) := by decide +kernel
theorem d7 : decode yB 7 = .ok (.iconst 0, 1) := by decide +kernel
theorem d8 : decode yB 8 = .ok (.iload_n 2, 1) := by decide +kernel
theorem d9 : decode yB 9 = .ok (.invokestatic 115, 3) := by decide +kernel
theorem d12 : decode yB 12 = .ok (.istore 4, 2) := by decide +kernel
theorem d14 : decode yB 14 = .ok (.iload 4, 2) := by decide +kernel
theorem d16 : decode yB 16 = .ok (.iload_n 2, 1) := by decide +kernel
theorem d17 : decode yB 17 = .ok (.if_icmp (.eq) 40, 3) := by decide +kernel
theorem d57 : decode yB 57 = .ok (.aload_n 3, 1) := by decide +kernel
theorem d58 : decode yB 58 = .ok (.areturn, 1) := by decide +kernel
def site : List Cond := [.arrayClass .byte, Cmp5.tab] ++ staticW U16 115 Cmp5.yN
def tab : Cond := tabOf yN yB 6 (some (.array .byte)) site
def P (b : Addr) (A : Cell) (o len : Nat) (args : Array Value) (s : State) : Prop := args = #[.ref b, .int (Int32.ofNat o), .int (Int32.ofNat len)] ∧ Ch b A s ∧ o + len ≤ A.slots.size ∧ len ≤ 536870912 ∧ ∀ i, i < len → ¬ 255 < cv A (o + i)
def E (b : Addr) (A : Cell) (o len : Nat) (r : Option Value) (s u : State) : Prop := NewArr .byte "[B" len (fun j => .int (lo8 (cv A (o + j)))) r s u ∧ u.heap.size = s.heap.size + 1
/-- no char of the range above 255: a new byte[] of their low bytes -/
theorem law (l : Launch) (b : Addr) (A : Cell) (o len : Nat) : Law l yN 3 3 1 18 yB 6 (some (.array .byte)) site (P b A o len) (E b A o len) [] 1 len := by
  refine Law.of_walk (plainFor_of_name (by decide +kernel)) (by decide +kernel) (by decide +kernel) (by decide) (fun _ _ h => by rw [h.1]; rfl) (fun _ U U' hal hh h => ⟨h.1, h.2.1.mv hal hh, h.2.2⟩) (fun r U U' V V' h1 hal h2 h => ⟨NewArr.mv r U U' V V' h1 hal h2 h.1, by rw [h1, h2]; exact h.2⟩) ?_
  intro p e s m args below meth c s₁ X0 hexec hbytes hml hret hlk hnm hown hh0 W hP
  obtain ⟨rfl, hA, l1, l2, hp⟩ := hP
  have a31 := hA.1.2.2.2
  have c1 : Steps p.tables e below (s₁.setTop (entryFrame m #[.ref b, .int (Int32.ofNat o), .int (Int32.ofNat len)] 6)) (s₁.setTop (mkF m 0 #[.val (.ref b), .val (.int (Int32.ofNat o)), .val (.int (Int32.ofNat len)), .unset, .unset, .unset] [])) := entry rfl
  have c2 : Steps p.tables e below (s₁.setTop (entryFrame m #[.ref b, .int (Int32.ofNat o), .int (Int32.ofNat len)] 6)) (s₁.setTop (mkF m 1 #[.val (.ref b), .val (.int (Int32.ofNat o)), .val (.int (Int32.ofNat len)), .unset, .unset, .unset] [.int (Int32.ofNat len)])) := c1.trans (by
    refine XS.iloadN X0.here hexec rfl (hb hbytes d0) rfl ?_
    exact Steps.refl _)
  obtain ⟨T3, B3, X3, ba3, bs3, bv3, bh3, bf3, st3⟩ := X0.anew hexec (atype := .byte) (wk W (.arrayClass .byte)) rfl (by show len * 1 ≤ _; omega) (by omega) (g := (mkF m 1 #[.val (.ref b), .val (.int (Int32.ofNat o)), .val (.int (Int32.ofNat len)), .unset, .unset, .unset] [.int (Int32.ofNat len)])) rfl (hb hbytes d1) (rest := []) rfl (Nat.le_refl _) (by show 0 + len ≤ len; omega)
  rw [hh0] at ba3 st3
  have kp3 : XT.Kept s T3 := (XT.Kept.of_eq hh0).push bh3
  have hA3 := hA.keep X3.warmed.alike (kp3 _ _ hA.1.1)
  have hne : b ≠ s.heap.size := hA.1.ne
  have c4 : Steps p.tables e below (s₁.setTop (entryFrame m #[.ref b, .int (Int32.ofNat o), .int (Int32.ofNat len)] 6)) (T3.setTop (mkF m 3 #[.val (.ref b), .val (.int (Int32.ofNat o)), .val (.int (Int32.ofNat len)), .unset, .unset, .unset] [.ref s.heap.size])) := c2.trans (st3 _ (Steps.refl _))
  have c5 : Steps p.tables e below (s₁.setTop (entryFrame m #[.ref b, .int (Int32.ofNat o), .int (Int32.ofNat len)] 6)) (T3.setTop (mkF m 9 #[.val (.ref b), .val (.int (Int32.ofNat o)), .val (.int (Int32.ofNat len)), .val (.ref s.heap.size), .unset, .unset] [.int (Int32.ofNat len), .int 0, .ref s.heap.size, .int (Int32.ofNat o), .ref b])) := c4.trans (by
    refine XS.astoreN X3.here hexec rfl (hb hbytes d3) rfl rfl rfl ?_
    refine XS.aloadN X3.here hexec rfl (hb hbytes d4) rfl rfl ?_
    refine XS.iloadN X3.here hexec rfl (hb hbytes d5) rfl ?_
    refine XS.aloadN X3.here hexec rfl (hb hbytes d6) rfl rfl ?_
    refine iconstV X3.here hexec rfl 0 (hb hbytes d7) (by decide) ?_
    refine XS.iloadN X3.here hexec rfl (hb hbytes d8) rfl ?_
    exact Steps.refl _)
  obtain ⟨v6, T6, X6, E6, g6⟩ := X3.callS hexec (Cmp5.law l b A s.heap.size B3 o 0 len) hown (wks W (staticW U16 115 Cmp5.yN)) (wk W Cmp5.tab) (W := 0) (Nat.le_of_ble_eq_true rfl) (Nat.le_of_ble_eq_true rfl) (Nat.le_refl _) (by show 0 + len + 0 ≤ len; omega) (g := (mkF m 9 #[.val (.ref b), .val (.int (Int32.ofNat o)), .val (.int (Int32.ofNat len)), .val (.ref s.heap.size), .unset, .unset] [.int (Int32.ofNat len), .int (Int32.ofNat 0), .ref s.heap.size, .int (Int32.ofNat o), .ref b])) rfl (by rw [hml]; rfl) c5 (argsL := [.ref b, .int (Int32.ofNat o), .ref s.heap.size, .int (Int32.ofNat 0), .int (Int32.ofNat len)]) (rest := []) rfl rfl (by show 2 * 0 + 0 ≤ _; decide) (hb hbytes d9) (⟨rfl, hA3, ba3, hne, l1, by rw [bs3]; simp, hp⟩)
  obtain ⟨rfl, B6, p6, f6⟩ := E6
  have c7 : Steps p.tables e below (s₁.setTop (entryFrame m #[.ref b, .int (Int32.ofNat o), .int (Int32.ofNat len)] 6)) (T6.setTop (mkF m 12 #[.val (.ref b), .val (.int (Int32.ofNat o)), .val (.int (Int32.ofNat len)), .val (.ref s.heap.size), .unset, .unset] [.int (Int32.ofNat len)])) := g6
  have c8 : Steps p.tables e below (s₁.setTop (entryFrame m #[.ref b, .int (Int32.ofNat o), .int (Int32.ofNat len)] 6)) (T6.setTop (mkF m 58 #[.val (.ref b), .val (.int (Int32.ofNat o)), .val (.int (Int32.ofNat len)), .val (.ref s.heap.size), .val (.int (Int32.ofNat len)), .unset] [.ref s.heap.size])) := c7.trans (by
    refine XS.istore X6.here hexec rfl (hb hbytes d12) rfl rfl ?_
    refine XS.iload X6.here hexec rfl (hb hbytes d14) rfl ?_
    refine XS.iloadN X6.here hexec rfl (hb hbytes d16) rfl ?_
    refine XS.icmpYes X6.here hexec rfl (pc0 := 17) rfl (hb hbytes d17) rfl (ii_eq_t rfl) (by decide) rfl ?_
    refine XS.aloadN X6.here hexec rfl (hb hbytes d57) rfl rfl ?_
    exact Steps.refl _)
  have X8 := X6.wide (L' := []) (cells' := 1) (slots' := len) (fun x hx hlt => by
    simp only [List.nil_append, copyLocs, List.mem_map, List.mem_range] at hx
    obtain ⟨i, -, rfl⟩ := hx
    exact absurd hlt (Nat.lt_irrefl _)) (Nat.le_refl _) (by omega)
  exact ⟨T6, some (.ref s.heap.size), _, _, _, X8, rfl, rfl, rfl, (fun h => by cases h), ⟨⟨rfl, B6, ba3.like (X3.warmed.alike.symm.trans X6.warmed.alike) p6.1 f6.1 f6.2.1 f6.2.2.1, f6.2.1.trans bv3, by rw [X6.warmed.alike.findClass, f6.1]; exact bf3, by rw [f6.2.2.1, bs3]; simp, fun j hj => by rw [f6.2.2.2 j, if_pos (by omega)]; rfl, kp3.put p6 (Nat.le_refl _)⟩, by rw [p6.2.2, bh3, hh0]; simp⟩, fun fs hl => c8.trans (X8.areturnOut hexec rfl hret rfl (hb hbytes d58) hl)⟩
end Cmp3
namespace CodL
def yN : MethodName := ⟨"java/lang/StringUTF16", "coderFromArrayLen", "([BI)B"⟩
abbrev yB : ByteArray := jdk_52_method_15_code
theorem d0 : decode yB 0 = .ok (.iload_n 1, 1) := by decide +kernel
theorem d1 : decode yB 1 = .ok (.aload_n 0, 1) := by decide +kernel
theorem d2 : decode yB 2 = .ok (.arraylength, 1) := by decide +kernel
theorem d3 : decode yB 3 = .ok (.isub, 1) := by decide +kernel
theorem d4 : decode yB 4 = .ok (.bipush 31, 2) := by decide +kernel
theorem d6 : decode yB 6 = .ok (.iushr, 1) := by decide +kernel
theorem d7 : decode yB 7 = .ok (.i2b, 1) := by decide +kernel
theorem d8 : decode yB 8 = .ok (.ireturn, 1) := by decide +kernel
def site : List Cond := []
def tab : Cond := tabOf yN yB 2 (some .byte) site
def P (d : Addr) (B : Cell) (args : Array Value) (s : State) : Prop := args = #[.ref d, .int (Int32.ofNat B.slots.size)] ∧ Arr .byte d B s
def E (r : Option Value) (s u : State) : Prop := XT.PureE (some (.int 0)) r s u
/-- an array as long as the number of chars: LATIN1 -/
theorem law (l : Launch) (d : Addr) (B : Cell) : Law l yN 2 2 0 0 yB 2 (some .byte) site (P d B) E [] 0 0 := by
  refine Law.of_walk (plainFor_of_name (by decide +kernel)) (by decide +kernel) (by decide +kernel) (by decide) (fun _ _ h => by rw [h.1]; rfl) (fun _ U U' hal hh h => ⟨h.1, h.2.mv hal hh⟩) (fun r U U' V V' h1 hal h2 h => XT.PureE.mv r U U' V V' h1 hal h2 h) ?_
  intro p e s m args below meth c s₁ X0 hexec hbytes hml hret hlk hnm hown hh0 W hP
  obtain ⟨rfl, hB⟩ := hP
  have hB0 := hB.mv X0.warmed.alike hh0
  have c1 : Steps p.tables e below (s₁.setTop (entryFrame m #[.ref d, .int (Int32.ofNat B.slots.size)] 2)) (s₁.setTop (mkF m 0 #[.val (.ref d), .val (.int (Int32.ofNat B.slots.size))] [])) := entry rfl
  have c2 : Steps p.tables e below (s₁.setTop (entryFrame m #[.ref d, .int (Int32.ofNat B.slots.size)] 2)) (s₁.setTop (mkF m 2 #[.val (.ref d), .val (.int (Int32.ofNat B.slots.size))] [.ref d, .int (Int32.ofNat B.slots.size)])) := c1.trans (by
    refine XS.iloadN X0.here hexec rfl (hb hbytes d0) rfl ?_
    refine XS.aloadN X0.here hexec rfl (hb hbytes d1) rfl rfl ?_
    exact Steps.refl _)
  have c3 : Steps p.tables e below (s₁.setTop (entryFrame m #[.ref d, .int (Int32.ofNat B.slots.size)] 2)) (s₁.setTop (mkF m 8 #[.val (.ref d), .val (.int (Int32.ofNat B.slots.size))] [.int (lo8 (ushr (Int32.ofNat B.slots.size - Int32.ofNat B.slots.size) 31))])) := c2.trans (by
    refine X0.alen hexec hB0 rfl rfl (hb hbytes d2) ?_
    refine XS.isub X0.here hexec rfl (hb hbytes d3) rfl ?_
    refine bipushV X0.here hexec rfl 31 (hb hbytes d4) (by decide) ?_
    refine iushr X0.here hexec rfl (hb hbytes d6) rfl ?_
    refine i2b X0.here hexec rfl (hb hbytes d7) rfl ?_
    exact Steps.refl _)
  have e0 : lo8 (ushr (Int32.ofNat B.slots.size - Int32.ofNat B.slots.size) 31) = 0 := by rw [Int32.sub_self]; decide
  rw [e0] at c3
  exact ⟨s₁, some (.int 0), _, _, _, X0, rfl, rfl, rfl, (fun h => by cases h), ⟨rfl, hh0⟩, fun fs hl => c3.trans (X0.ireturnOut hexec hret rfl (Or.inr (Or.inr (Or.inl rfl))) (hb hbytes d8) hl)⟩
end CodL
/-- the String at a is Latin-1 over a new byte[] (the heap's one new cell): the low bytes of the len chars of A from o on; every cell but a is kept -/
def Got (a : Addr) (D : Cell) (fV fC : Field) (A : Cell) (o len : Nat) (r : Option Value) (s u : State) : Prop := r = none ∧ ∃ D' V : Cell, Blank "java/lang/String" a D' u ∧ Same D D' [fV.slot, fC.slot] ∧ D'.slots[fV.slot]? = some (.ref s.heap.size) ∧ D'.slots[fC.slot]? = some (.int 0) ∧ Arr .byte s.heap.size V u ∧ V.vm = .none ∧ u.vm.findClass "[B" = some V.cls ∧ V.slots.size = len ∧ (∀ j, j < len → V.slots[j]? = some (.int (lo8 (cv A (o + j))))) ∧ (∀ (y : Addr) (c : Cell), y ≠ a → s.heap[y]? = some c → u.heap[y]? = some c) ∧ u.heap.size = s.heap.size + 1
theorem Got.mv {a : Addr} {D A : Cell} {fV fC : Field} {o len : Nat} : ∀ r (U U' V V' : State), U'.heap = U.heap → V.vm.Alike V'.vm → V'.heap = V.heap → Got a D fV fC A o len r U V → Got a D fV fC A o len r U' V' :=
  fun r U U' V V' h1 hal h2 ⟨e0, D', X, a1, a2, a3, a4, a5, a6, a7, a8, a9, a10, a11⟩ => ⟨e0, D', X, a1.mv hal h2, a2, by rw [h1]; exact a3, a4, by rw [h1]; exact a5.mv hal h2, a6, by rw [hal.findClass]; exact a7, a8, a9, by rw [h1, h2]; exact a10, by rw [h1, h2]; exact a11⟩
namespace New4
def yN : MethodName := ⟨"java/lang/String", "<init>", "([CIILjava/lang/Void;)V"⟩
abbrev yB : ByteArray := jdk_42_method_149_code
theorem d0 : decode yB 0 = .ok (.aload_n 0, 1) := by decide +kernel
theorem d1 : decode yB 1 = .ok (.invokespecial 1, 3) := by decide +kernel
theorem d4 : decode yB 4 = .ok (.iload_n 3, 1) := by decide +kernel
theorem d5 : decode yB 5 = .ok (.ifCond (.ne) 22, 3) := by decide +kernel
theorem d27 : decode yB 27 = .ok (.getstatic 38, 3) := by decide +kernel
theorem d30 : decode yB 30 = .ok (.ifCond (.eq) 28, 3) := by decide +kernel
theorem d33 : decode yB 33 = .ok (.aload_n 1, 1) := by decide +kernel
theorem d34 : decode yB 34 = .ok (.iload_n 2, 1) := by decide +kernel
theorem d35 : decode yB 35 = .ok (.iload_n 3, 1) := by decide +kernel
theorem d36 : decode yB 36 = .ok (.invokestatic 177, 3) := by decide +kernel
theorem d39 : decode yB 39 = .ok (.astore 5, 2) := by decide +kernel
theorem d41 : decode yB 41 = .ok (.aload_n 0, 1) := by decide +kernel
theorem d42 : decode yB 42 = .ok (.aload 5, 2) := by decide +kernel
theorem d44 : decode yB 44 = .ok (.iload_n 3, 1) := by decide +kernel
theorem d45 : decode yB 45 = .ok (.invokestatic 47, 3) := by decide +kernel
theorem d48 : decode yB 48 = .ok (.putfield 15, 3) := by decide +kernel
theorem d51 : decode yB 51 = .ok (.aload_n 0, 1) := by decide +kernel
theorem d52 : decode yB 52 = .ok (.aload 5, 2) := by decide +kernel
theorem d54 : decode yB 54 = .ok (.putfield 9, 3) := by decide +kernel
theorem d57 : decode yB 57 = .ok (.return_, 1) := by decide +kernel
def site : List Cond := [.fieldLink "java/lang/String" 38 "java/lang/String" "COMPACT_STRINGS" "Z", Cmp3.tab, CodL.tab, .laysFinal "java/lang/String" "java/lang/String" "value" "[B", .fieldLink "java/lang/String" 9 "java/lang/String" "value" "[B", .laysFinal "java/lang/String" "java/lang/String" "coder" "B", .fieldLink "java/lang/String" 15 "java/lang/String" "coder" "B"] ++ objW "java/lang/String" 1 ++ staticW "java/lang/String" 177 Cmp3.yN ++ staticW "java/lang/String" 47 CodL.yN
def tab : Cond := tabOf yN yB 6 none site
def P (a : Addr) (D : Cell) (fV fC : Field) (b : Addr) (A : Cell) (z : Int32) (o len : Nat) (args : Array Value) (s : State) : Prop := args = #[.ref a, .ref b, .int (Int32.ofNat o), .int (Int32.ofNat len), .null] ∧ Blank "java/lang/String" a D s ∧ Found "java/lang/String" "value" "[B" fV s ∧ Found "java/lang/String" "coder" "B" fC s ∧ Ch b A s ∧ StaticIs s "java/lang/String" "COMPACT_STRINGS" "Z" (.int z) ∧ ¬ z = 0 ∧ 0 < len ∧ o + len ≤ A.slots.size ∧ len ≤ 536870912 ∧ ∀ i, i < len → ¬ 255 < cv A (o + i)
def E (a : Addr) (D : Cell) (fV fC : Field) (A : Cell) (o len : Nat) (r : Option Value) (s u : State) : Prop := Got a D fV fC A o len r s u
/-- len > 0, no char of the range above 255: a Latin-1 String of their low bytes -/
theorem law (l : Launch) (a : Addr) (D : Cell) (fV fC : Field) (b : Addr) (A : Cell) (z : Int32) (o len : Nat) : Law l yN 5 4 2 35 yB 6 none site (P a D fV fC b A z o len) (E a D fV fC A o len) [⟨a, fC.slot⟩, ⟨a, fV.slot⟩] 1 len := by
  refine Law.of_walk (plainFor_of_name (by decide +kernel)) (by decide +kernel) (by decide +kernel) (by decide) (fun _ _ h => by rw [h.1]; rfl) (fun _ U U' hal hh h => ⟨h.1, h.2.1.mv hal hh, h.2.2.1.al hal, h.2.2.2.1.al hal, h.2.2.2.2.1.mv hal hh, h.2.2.2.2.2.1.there hal hh, h.2.2.2.2.2.2⟩) (fun r U U' V V' h1 hal h2 h => Got.mv r U U' V V' h1 hal h2 h) ?_
  intro p e s m args below meth c s₁ X0 hexec hbytes hml hret hlk hnm hown hh0 W hP
  obtain ⟨rfl, hB, f1, f2, hA, s1, hz, l0, l1, l2, hp⟩ := hP
  have a31 := hA.1.2.2.2
  have c1 : Steps p.tables e below (s₁.setTop (entryFrame m #[.ref a, .ref b, .int (Int32.ofNat o), .int (Int32.ofNat len), .null] 6)) (s₁.setTop (mkF m 0 #[.val (.ref a), .val (.ref b), .val (.int (Int32.ofNat o)), .val (.int (Int32.ofNat len)), .val .null, .unset] [])) := entry rfl
  have c2 : Steps p.tables e below (s₁.setTop (entryFrame m #[.ref a, .ref b, .int (Int32.ofNat o), .int (Int32.ofNat len), .null] 6)) (s₁.setTop (mkF m 1 #[.val (.ref a), .val (.ref b), .val (.int (Int32.ofNat o)), .val (.int (Int32.ofNat len)), .val .null, .unset] [.ref a])) := c1.trans (by
    refine XS.aloadN X0.here hexec rfl (hb hbytes d0) rfl rfl ?_
    exact Steps.refl _)
  obtain ⟨T3, X3, q3, st3⟩ := X0.oinit hexec hown (wks W (objW "java/lang/String" 1)) (g := (mkF m 1 #[.val (.ref a), .val (.ref b), .val (.int (Int32.ofNat o)), .val (.int (Int32.ofNat len)), .val .null, .unset] [.ref a])) rfl (by rw [hml]; rfl) (rest := []) rfl (hb hbytes d1) (W := 0) (by show 2 * 0 + 0 ≤ _; decide) (Nat.le_of_ble_eq_true rfl) (Nat.le_of_ble_eq_true rfl)
  have hh3 := q3.trans hh0
  have c4 : Steps p.tables e below (s₁.setTop (entryFrame m #[.ref a, .ref b, .int (Int32.ofNat o), .int (Int32.ofNat len), .null] 6)) (T3.setTop (mkF m 27 #[.val (.ref a), .val (.ref b), .val (.int (Int32.ofNat o)), .val (.int (Int32.ofNat len)), .val .null, .unset] [])) := (c2.trans (st3 _ (Steps.refl _))).trans (by
    refine XS.iloadN X3.here hexec rfl (hb hbytes d4) rfl ?_
    refine XS.ifYes X3.here hexec rfl (pc0 := 5) rfl (hb hbytes d5) rfl (i0_ne_t (nz32 (by omega) l0)) (by decide) rfl ?_
    exact Steps.refl _)
  obtain ⟨T5, X5, q5, st5⟩ := X3.sget hexec hown (wk W (.fieldLink "java/lang/String" 38 "java/lang/String" "COMPACT_STRINGS" "Z")) s1 (fun _ _ h => by rw [hh3]; exact h) (g := (mkF m 27 #[.val (.ref a), .val (.ref b), .val (.int (Int32.ofNat o)), .val (.int (Int32.ofNat len)), .val .null, .unset] [])) rfl (hb hbytes d27)
  have hh5 := q5.trans hh3
  have c6 : Steps p.tables e below (s₁.setTop (entryFrame m #[.ref a, .ref b, .int (Int32.ofNat o), .int (Int32.ofNat len), .null] 6)) (T5.setTop (mkF m 30 #[.val (.ref a), .val (.ref b), .val (.int (Int32.ofNat o)), .val (.int (Int32.ofNat len)), .val .null, .unset] [.int z])) := c4.trans (st5 _ (Steps.refl _))
  have c7 : Steps p.tables e below (s₁.setTop (entryFrame m #[.ref a, .ref b, .int (Int32.ofNat o), .int (Int32.ofNat len), .null] 6)) (T5.setTop (mkF m 36 #[.val (.ref a), .val (.ref b), .val (.int (Int32.ofNat o)), .val (.int (Int32.ofNat len)), .val .null, .unset] [.int (Int32.ofNat len), .int (Int32.ofNat o), .ref b])) := c6.trans (by
    refine XS.ifNo X5.here hexec rfl (hb hbytes d30) rfl (i0_eq_f hz) ?_
    refine XS.aloadN X5.here hexec rfl (hb hbytes d33) rfl rfl ?_
    refine XS.iloadN X5.here hexec rfl (hb hbytes d34) rfl ?_
    refine XS.iloadN X5.here hexec rfl (hb hbytes d35) rfl ?_
    exact Steps.refl _)
  obtain ⟨v8, T8, X8, E8, g8⟩ := X5.callS hexec (Cmp3.law l b A o len) hown (wks W (staticW "java/lang/String" 177 Cmp3.yN)) (wk W Cmp3.tab) (W := 0) (Nat.le_of_ble_eq_true rfl) (Nat.le_of_ble_eq_true rfl) (Nat.le_refl _) (by show 0 + len ≤ len; omega) (g := (mkF m 36 #[.val (.ref a), .val (.ref b), .val (.int (Int32.ofNat o)), .val (.int (Int32.ofNat len)), .val .null, .unset] [.int (Int32.ofNat len), .int (Int32.ofNat o), .ref b])) rfl (by rw [hml]; rfl) c7 (argsL := [.ref b, .int (Int32.ofNat o), .int (Int32.ofNat len)]) (rest := []) rfl rfl (by show 2 * 0 + 0 ≤ _; decide) (hb hbytes d36) (⟨rfl, hA.mv X5.warmed.alike hh5, l1, l2, hp⟩)
  obtain ⟨e8, z8⟩ := E8
  obtain ⟨rfl, N, n1, n2, n3, n4, n5, n6⟩ := NewArr.mv _ T5 s _ _ hh5.symm (Vm.Alike.refl _) rfl e8
  rw [hh5] at z8
  have hB1 := hB.keep X8.warmed.alike (n6 _ _ hB.1)
  have hne : s.heap.size ≠ a := (Nat.ne_of_lt (Array.getElem?_eq_some_iff.mp hB.1).1).symm
  have c9 : Steps p.tables e below (s₁.setTop (entryFrame m #[.ref a, .ref b, .int (Int32.ofNat o), .int (Int32.ofNat len), .null] 6)) (T8.setTop (mkF m 39 #[.val (.ref a), .val (.ref b), .val (.int (Int32.ofNat o)), .val (.int (Int32.ofNat len)), .val .null, .unset] [.ref s.heap.size])) := g8
  have c10 : Steps p.tables e below (s₁.setTop (entryFrame m #[.ref a, .ref b, .int (Int32.ofNat o), .int (Int32.ofNat len), .null] 6)) (T8.setTop (mkF m 45 #[.val (.ref a), .val (.ref b), .val (.int (Int32.ofNat o)), .val (.int (Int32.ofNat len)), .val .null, .val (.ref s.heap.size)] [.int (Int32.ofNat N.slots.size), .ref s.heap.size, .ref a])) := by
    have hc : Steps p.tables e below (s₁.setTop (entryFrame m #[.ref a, .ref b, .int (Int32.ofNat o), .int (Int32.ofNat len), .null] 6)) (T8.setTop (mkF m 45 #[.val (.ref a), .val (.ref b), .val (.int (Int32.ofNat o)), .val (.int (Int32.ofNat len)), .val .null, .val (.ref s.heap.size)] [.int (Int32.ofNat len), .ref s.heap.size, .ref a])) := c9.trans (by
      refine XS.astore X8.here hexec rfl (hb hbytes d39) rfl rfl rfl ?_
      refine XS.aloadN X8.here hexec rfl (hb hbytes d41) rfl rfl ?_
      refine XS.aload X8.here hexec rfl (hb hbytes d42) rfl rfl ?_
      refine XS.iloadN X8.here hexec rfl (hb hbytes d44) rfl ?_
      exact Steps.refl _)
    rw [n4]; exact hc
  obtain ⟨v11, T11, X11, E11, g11⟩ := X8.callS hexec (CodL.law l s.heap.size N) hown (wks W (staticW "java/lang/String" 47 CodL.yN)) (wk W CodL.tab) (W := 1) (Nat.le_of_ble_eq_true rfl) (Nat.le_of_ble_eq_true rfl) (Nat.le_refl _) (by show 0 + len + 0 ≤ len; omega) (g := (mkF m 45 #[.val (.ref a), .val (.ref b), .val (.int (Int32.ofNat o)), .val (.int (Int32.ofNat len)), .val .null, .val (.ref s.heap.size)] [.int (Int32.ofNat N.slots.size), .ref s.heap.size, .ref a])) rfl (by rw [hml]; rfl) c10 (argsL := [.ref s.heap.size, .int (Int32.ofNat N.slots.size)]) (rest := [.ref a]) rfl rfl (by show 2 * 0 + (1 + 0) ≤ _; decide) (hb hbytes d45) (⟨rfl, n1⟩)
  obtain ⟨rfl, q11⟩ := E11
  have hB11 := hB1.mv (X8.warmed.alike.symm.trans X11.warmed.alike) q11
  have c12 : Steps p.tables e below (s₁.setTop (entryFrame m #[.ref a, .ref b, .int (Int32.ofNat o), .int (Int32.ofNat len), .null] 6)) (T11.setTop (mkF m 48 #[.val (.ref a), .val (.ref b), .val (.int (Int32.ofNat o)), .val (.int (Int32.ofNat len)), .val .null, .val (.ref s.heap.size)] [.int 0, .ref a])) := g11
  obtain ⟨T13, X13, p13, bl13, sl13, st13⟩ := X11.finit hexec hown (wk W (.fieldLink "java/lang/String" 15 "java/lang/String" "coder" "B")) (Or.inr ⟨_, (wk W (.laysFinal "java/lang/String" "java/lang/String" "coder" "B"))⟩) (Or.inl ⟨rfl, hnm⟩) f2 (Or.inl rfl) hB11 (t := .byte) (by decide +kernel) rfl (g := (mkF m 48 #[.val (.ref a), .val (.ref b), .val (.int (Int32.ofNat o)), .val (.int (Int32.ofNat len)), .val .null, .val (.ref s.heap.size)] [.int 0, .ref a])) rfl (rest := []) rfl (hb hbytes d48)
  have c14 : Steps p.tables e below (s₁.setTop (entryFrame m #[.ref a, .ref b, .int (Int32.ofNat o), .int (Int32.ofNat len), .null] 6)) (T13.setTop (mkF m 54 #[.val (.ref a), .val (.ref b), .val (.int (Int32.ofNat o)), .val (.int (Int32.ofNat len)), .val .null, .val (.ref s.heap.size)] [.ref s.heap.size, .ref a])) := (c12.trans (st13 _ (Steps.refl _))).trans (by
    refine XS.aloadN X13.here hexec rfl (hb hbytes d51) rfl rfl ?_
    refine XS.aload X13.here hexec rfl (hb hbytes d52) rfl rfl ?_
    exact Steps.refl _)
  obtain ⟨T15, X15, p15, bl15, sl15, st15⟩ := X13.finit hexec hown (wk W (.fieldLink "java/lang/String" 9 "java/lang/String" "value" "[B")) (Or.inr ⟨_, (wk W (.laysFinal "java/lang/String" "java/lang/String" "value" "[B"))⟩) (Or.inl ⟨rfl, hnm⟩) f1 (Or.inl rfl) bl13 (t := (.array .byte)) (by decide +kernel) rfl (g := (mkF m 54 #[.val (.ref a), .val (.ref b), .val (.int (Int32.ofNat o)), .val (.int (Int32.ofNat len)), .val .null, .val (.ref s.heap.size)] [.ref s.heap.size, .ref a])) rfl (rest := []) rfl (hb hbytes d54)
  have c16 : Steps p.tables e below (s₁.setTop (entryFrame m #[.ref a, .ref b, .int (Int32.ofNat o), .int (Int32.ofNat len), .null] 6)) (T15.setTop (mkF m 57 #[.val (.ref a), .val (.ref b), .val (.int (Int32.ofNat o)), .val (.int (Int32.ofNat len)), .val .null, .val (.ref s.heap.size)] [])) := c14.trans (st15 _ (Steps.refl _))
  have ap := apart (Or.inr ⟨_, (wk W (.laysFinal "java/lang/String" "java/lang/String" "value" "[B"))⟩) (Or.inr ⟨_, (wk W (.laysFinal "java/lang/String" "java/lang/String" "coder" "B"))⟩) f1 f2 (t₁ := .array .byte) (t₂ := .byte) (by decide +kernel) (by decide +kernel) (by decide)
  have al := X8.warmed.alike.symm.trans X15.warmed.alike
  have n7 : T11.heap[s.heap.size]? = some N := by rw [q11]; exact n1.1
  exact ⟨T15, none, _, _, _, X15, by simp, rfl, by omega, (fun _ => rfl), ⟨rfl, _, N, bl15, ((Same.refl D _).set _ (by simp)).set _ (by simp), sl15, (Cell.slots_setSlot_ne _ ap).trans sl13, n1.keep al (p15.other hne (p13.other hne n7)), n2, by rw [al.findClass]; exact n3, n4, n5, fun y c h1 h2 => p15.other h1 (p13.other h1 (by rw [q11]; exact n6 y c h2)), by rw [p15.2.2, p13.2.2, q11]; exact z8⟩, fun fs hl => c16.trans (X15.returnOut hexec hret (hb hbytes d57) hl)⟩
end New4
namespace New1
def yN : MethodName := ⟨"java/lang/String", "<init>", "([C)V"⟩
abbrev yB : ByteArray := jdk_42_method_3_code
theorem d0 : decode yB 0 = .ok (.aload_n 0, 1) := by decide +kernel
theorem d1 : decode yB 1 = .ok (.aload_n 1, 1) := by decide +kernel
theorem d2 : decode yB 2 = .ok (.iconst 0, 1) := by decide +kernel
theorem d3 : decode yB 3 = .ok (.aload_n 1, 1) := by decide +kernel
theorem d4 : decode yB 4 = .ok (.arraylength, 1) := by decide +kernel
theorem d5 : decode yB 5 = .ok (.aconst_null, 1) := by decide +kernel
theorem d6 : decode yB 6 = .ok (.invokespecial 27, 3) := by decide +kernel
theorem d9 : decode yB 9 = .ok (.return_, 1) := by decide +kernel
def site : List Cond := [New4.tab] ++ initW "java/lang/String" 27 New4.yN
def tab : Cond := tabOf yN yB 2 none site
def P (a : Addr) (D : Cell) (fV fC : Field) (b : Addr) (A : Cell) (z : Int32) (args : Array Value) (s : State) : Prop := args = #[.ref a, .ref b] ∧ Blank "java/lang/String" a D s ∧ Found "java/lang/String" "value" "[B" fV s ∧ Found "java/lang/String" "coder" "B" fC s ∧ Ch b A s ∧ StaticIs s "java/lang/String" "COMPACT_STRINGS" "Z" (.int z) ∧ ¬ z = 0 ∧ 0 < A.slots.size ∧ A.slots.size ≤ 536870912 ∧ ∀ i, i < A.slots.size → ¬ 255 < cv A i
def E (a : Addr) (D : Cell) (fV fC : Field) (A : Cell) (r : Option Value) (s u : State) : Prop := Got a D fV fC A 0 A.slots.size r s u
/-- new String(chars), not empty, no char above 255: a Latin-1 String of their low bytes -/
theorem law (l : Launch) (a : Addr) (D : Cell) (fV fC : Field) (b : Addr) (A : Cell) (z : Int32) : Law l yN 2 1 3 52 yB 2 none site (P a D fV fC b A z) (E a D fV fC A) [⟨a, fC.slot⟩, ⟨a, fV.slot⟩] 1 A.slots.size := by
  refine Law.of_walk (plainFor_of_name (by decide +kernel)) (by decide +kernel) (by decide +kernel) (by decide) (fun _ _ h => by rw [h.1]; rfl) (fun _ U U' hal hh h => ⟨h.1, h.2.1.mv hal hh, h.2.2.1.al hal, h.2.2.2.1.al hal, h.2.2.2.2.1.mv hal hh, h.2.2.2.2.2.1.there hal hh, h.2.2.2.2.2.2⟩) (fun r U U' V V' h1 hal h2 h => Got.mv r U U' V V' h1 hal h2 h) ?_
  intro p e s m args below meth c s₁ X0 hexec hbytes hml hret hlk hnm hown hh0 W hP
  obtain ⟨rfl, hB, f1, f2, hA, s1, hz, l0, l2, hp⟩ := hP
  have c1 : Steps p.tables e below (s₁.setTop (entryFrame m #[.ref a, .ref b] 2)) (s₁.setTop (mkF m 0 #[.val (.ref a), .val (.ref b)] [])) := entry rfl
  have c2 : Steps p.tables e below (s₁.setTop (entryFrame m #[.ref a, .ref b] 2)) (s₁.setTop (mkF m 6 #[.val (.ref a), .val (.ref b)] [.null, .int (Int32.ofNat A.slots.size), .int 0, .ref b, .ref a])) := c1.trans (by
    refine XS.aloadN X0.here hexec rfl (hb hbytes d0) rfl rfl ?_
    refine XS.aloadN X0.here hexec rfl (hb hbytes d1) rfl rfl ?_
    refine iconstV X0.here hexec rfl 0 (hb hbytes d2) (by decide) ?_
    refine XS.aloadN X0.here hexec rfl (hb hbytes d3) rfl rfl ?_
    refine X0.alen hexec (hA.1.mv X0.warmed.alike hh0) rfl rfl (hb hbytes d4) ?_
    refine XS.aconstNull X0.here hexec rfl (hb hbytes d5) ?_
    exact Steps.refl _)
  obtain ⟨v3, T3, X3, E3, g3⟩ := X0.callN hexec (New4.law l a D fV fC b A z 0 A.slots.size) rfl hown (wks W (initW "java/lang/String" 27 New4.yN)) (W New4.tab (by simp only [site, List.mem_cons, List.mem_append, true_or, or_true])) (W := 0) (Nat.le_of_ble_eq_true rfl) (Nat.le_of_ble_eq_true rfl) (Nat.le_refl _) (by show 0 + A.slots.size ≤ A.slots.size; omega) (g := (mkF m 6 #[.val (.ref a), .val (.ref b)] [.null, .int (Int32.ofNat A.slots.size), .int (Int32.ofNat 0), .ref b, .ref a])) rfl (by rw [hml]; rfl) c2 (argsL := [.ref b, .int (Int32.ofNat 0), .int (Int32.ofNat A.slots.size), .null]) (rest := []) rfl rfl (by show 2 * 0 + 0 ≤ _; decide) (hb hbytes d6) (⟨rfl, hB.mv X0.warmed.alike hh0, f1.al X0.warmed.alike, f2.al X0.warmed.alike, hA.mv X0.warmed.alike hh0, s1.there X0.warmed.alike hh0, hz, l0, by omega, l2, fun i hi => by rw [Nat.zero_add]; exact hp i hi⟩)
  have e0 := Got.mv _ s₁ s _ _ hh0.symm (Vm.Alike.refl _) rfl E3
  obtain rfl := e0.1
  have c4 : Steps p.tables e below (s₁.setTop (entryFrame m #[.ref a, .ref b] 2)) (T3.setTop (mkF m 9 #[.val (.ref a), .val (.ref b)] [])) := g3
  exact ⟨T3, none, _, _, _, X3, by simp, rfl, by omega, (fun _ => rfl), e0, fun fs hl => c4.trans (X3.returnOut hexec hret (hb hbytes d9) hl)⟩
theorem pays {l : Launch} {R : Room} {p : Program} {e : Env} {below : List Frame} {s : State} {sargs : Array Value} {len W : Nat} (a : Addr) (D : Cell) (fV fC : Field) (b : Addr) (A : Cell) (z : Int32) (htab : tab.before sargs s = true) (hfr : 4 ≤ R.frames) (hlo : W + 65 ≤ R.locals) :
    Back l R p e below s sargs yN len W (fun A₁ a₁ => A₁.cells + 1 ≤ R.cells ∧ A₁.slots + A.slots.size ≤ R.slots ∧ P a D fV fC b A z a₁ A₁.U) (fun A₁ _ v₁ B₁ => E a D fV fC A v₁ A₁.U B₁.U ∧ B₁.locs = A₁.locs ++ [⟨a, fC.slot⟩, ⟨a, fV.slot⟩] ∧ B₁.cells = A₁.cells + 1 ∧ B₁.slots = A₁.slots + A.slots.size) :=
  (law l a D fV fC b A z).pays htab hfr (by omega)
end New1
/-- the byte, read back as charAt reads it, is the char -/
theorem lo8_mask {x : Int32} (h0 : ¬ x < 0) (h1 : ¬ 255 < x) : lo8 x &&& 255 = x := by
  have t : ∀ k : Fin 256, lo8 (Int32.ofNat k.val) &&& 255 = Int32.ofNat k.val := by decide +kernel
  rw [Int32.lt_iff_toInt_lt] at h0 h1
  have e0 : (0 : Int32).toInt = 0 := rfl
  have e1 : (255 : Int32).toInt = 255 := rfl
  obtain ⟨k, hk⟩ : ∃ k : Nat, x.toInt = k := ⟨x.toInt.toNat, by omega⟩
  have hx : x = Int32.ofNat k := Int32.toInt_inj.mp (by rw [hk, Int32.toInt_ofNat_small (by omega)])
  rw [hx]
  exact t ⟨k, by omega⟩
end StrChars
namespace StrChars.Road
open Jvm Sem ClassFile Op Lib Jvm.Stand Jvm.Free Jvm.Free.XT
open Jvm.Lib.Cold (StaticIs)
abbrev ST : String := "java/lang/String"
/-- every table word that New1's law asks, flat -/
abbrev words : List Jvm.Cond := [.code New1.yN New1.yB 2 none, .initialized ST, .methodLink ST 27 New4.yN, .instanceMethod New4.yN,
  .code New4.yN New4.yB 6 none, .fieldLink ST 38 ST "COMPACT_STRINGS" "Z", .laysFinal ST ST "value" "[B", .fieldLink ST 9 ST "value" "[B", .laysFinal ST ST "coder" "B", .fieldLink ST 15 ST "coder" "B",
  .methodLink ST 1 Lib.objectInit, .instanceMethod Lib.objectInit, .code Lib.objectInit ⟨#[0xb1]⟩ 1 none, .methodLink ST 177 Cmp3.yN, .static Cmp3.yN, .methodLink ST 47 CodL.yN, .static CodL.yN,
  .code Cmp3.yN Cmp3.yB 6 (some (.array .byte)), .initialized U16, .arrayClass .byte, .methodLink U16 115 Cmp5.yN, .static Cmp5.yN, .code Cmp5.yN Cmp5.yB 7 (some .int), .code CodL.yN CodL.yB 2 (some .byte)]
theorem tab_of {a : Array Value} {s : State} (h : ∀ w ∈ words, w.before a s = true) : New1.tab.before a s = true := by
  have h5 : Cmp5.tab.before a s = true := unparts (wk h (.code Cmp5.yN Cmp5.yB 7 (some .int))) (wks h (.initialized Cmp5.yN.cls :: Cmp5.site))
  have hc : CodL.tab.before a s = true := unparts (wk h (.code CodL.yN CodL.yB 2 (some .byte))) (wks h (.initialized CodL.yN.cls :: CodL.site))
  have q5 : ∀ w ∈ Cmp5.tab :: words, w.before a s = true := fun w hw => (List.mem_cons.mp hw).elim (fun e => e ▸ h5) (h w)
  have h3 : Cmp3.tab.before a s = true := unparts (wk q5 (.code Cmp3.yN Cmp3.yB 6 (some (.array .byte)))) (wks q5 (.initialized Cmp3.yN.cls :: Cmp3.site))
  have q3 : ∀ w ∈ Cmp3.tab :: CodL.tab :: words, w.before a s = true := fun w hw => (List.mem_cons.mp hw).elim (fun e => e ▸ h3) fun hw => (List.mem_cons.mp hw).elim (fun e => e ▸ hc) (h w)
  have h4 : New4.tab.before a s = true := unparts (wk q3 (.code New4.yN New4.yB 6 none)) (wks q3 (.initialized New4.yN.cls :: New4.site))
  have q4 : ∀ w ∈ New4.tab :: words, w.before a s = true := fun w hw => (List.mem_cons.mp hw).elim (fun e => e ▸ h4) (h w)
  exact unparts (wk q4 (.code New1.yN New1.yB 2 none)) (wks q4 (.initialized New1.yN.cls :: New1.site))
/-- the words ride from the start Z to the walk's own state -/
theorem moved {Z s : State} {a0 args : Array Value} (hZ : Z.Warmed39 s.vm) (hw : ∀ d ∈ words, d.before a0 Z = true) : ∀ d ∈ words, d.before args s = true := fun d hd => by
  have q := hw d hd
  have t : ∀ d ∈ words, d = .arrayClass .byte ∨ (d.onTables && d.keepsFace) = true := by decide +kernel
  rcases t d hd with rfl | t
  · exact RoadKit.mvA hZ q
  · exact RoadKit.mv hZ q t
/-- WHAT COMES BACK, over the tables of the start Z: h the heap at the call, h' behind it -/
def Q (Z : State) (x : Addr) (A : Cell) (h : Heap) (v : Option Value) (h' : Heap) (L : List Loc) : Prop := v = none ∧ (∀ y ∈ L, y.base = x) ∧ RoadKit.Keep h h' [x] ∧ h'.size = h.size + 1 ∧ RoadKit.Exa Z h' x ST ∧ RoadKit.Fld Z h' x ST "value" "[B" (.ref h.size) ∧ RoadKit.Fld Z h' x ST "coder" "B" (.int 0) ∧
  (∃ V : Cell, RoadKit.Arr Z h' h.size V .byte ∧ V.vm = .none ∧ Z.vm.findClass "[B" = some V.cls ∧ V.slots.size = A.slots.size ∧ ∀ j, j < A.slots.size → V.slots[j]? = some (.int (lo8 (cv A j)))) ∧
  ∀ (O n d : String) (w : Value), RoadKit.Fld Z h x O n d w → RoadKit.slotOf Z O n d ≠ RoadKit.slotOf Z ST "value" "[B" → RoadKit.slotOf Z O n d ≠ RoadKit.slotOf Z ST "coder" "B" → RoadKit.Fld Z h' x O n d w
/-- **new String(chars) AT A CALL, IN THE ROAD'S FORM**: for specialBack behind newO: x the fresh String, b the char[] with the cell A -/
theorem back {p : Program} {l : Launch} {e : Env} {R : Room} {s : State} {args : Array Value} {below : List Frame} {len W : Nat} {Z : State} {a0 : Array Value} {h : Heap} (hZ : Z.Warmed39 s.vm) (hw : ∀ d ∈ words, d.before a0 Z = true) {kI : Nat} (wi : (Jvm.Cond.instantiable ST kI).before a0 Z = true)
    {x b : Addr} {A : Cell} {z : Int32} {v0 c0 : Value} (E : RoadKit.Exa Z h x ST) (V : RoadKit.Fld Z h x ST "value" "[B" v0) (C : RoadKit.Fld Z h x ST "coder" "B" c0) (K : RoadKit.Arr Z h b A .char) (hty : Typed .char A) (S : RoadKit.Sta Z h ST "COMPACT_STRINGS" "Z" (.int z)) (hz : ¬ z = 0)
    (l0 : 0 < A.slots.size) (l2 : A.slots.size ≤ 536870912) (hp : ∀ i, i < A.slots.size → ¬ 255 < cv A i) (hfr : 4 ≤ R.frames) (hlo : W + 65 ≤ R.locals) :
    Back l R p e below s args New1.yN len W (fun P a => a = #[.ref x, .ref b] ∧ P.U.heap = h ∧ P.cells + 1 ≤ R.cells ∧ P.slots + A.slots.size ≤ R.slots)
      (fun P _ v B => ∃ L, Q Z x A h v B.U.heap L ∧ B.locs = P.locs ++ L ∧ B.cells = P.cells + 1 ∧ B.slots = P.slots + A.slots.size) := by
  intro m meth c P g ig mk a X hg hsize hdg hW hn hp'
  obtain ⟨rfl, rfl, r1, r2⟩ := hp'
  have al : Z.vm.Alike P.U.vm := hZ.alike.trans X.warmed.alike
  obtain ⟨D, cfV, kV, iV, fV, hD, gV, stV, knV, obV, asV, slV⟩ := id V
  obtain ⟨D', cfC, kC, iC, fC, hD', gC, stC, -, -, asC, slC⟩ := id C
  cases hD.symm.trans hD'
  obtain ⟨D2, kD, e1, e2, e3, e4, e5⟩ := id E
  cases hD.symm.trans e1
  obtain ⟨c2, k2, i1, i2, i3, -⟩ := Cond.instantiable_spec wi
  cases e2.symm.trans i1
  cases e3.symm.trans i2
  obtain ⟨kU, u1, u2⟩ := al.2.2 _ _ e3
  have hB : Blank ST x D P.U := ⟨hD, ⟨knV, fun q hq => by rw [hq] at obV; cases obV⟩, by rw [al.findClass]; exact e2, kU, u1, by rw [u2]; exact i3, by rw [u2]; exact e5 i3⟩
  have F1 : Found ST "value" "[B" fV P.U := ⟨SBG.found_only al ⟨cfV, kV, iV, gV⟩, stV⟩
  have F2 : Found ST "coder" "B" fC P.U := ⟨SBG.found_only al ⟨cfC, kC, iC, gC⟩, stC⟩
  have hA : Ch b A P.U := ⟨⟨K.1, State.isArrayOf_alike al K.2.1, K.2.2, by omega⟩, hty⟩
  have hS : StaticIs P.U ST "COMPACT_STRINGS" "Z" (.int z) := by
    obtain ⟨cfS, iS, kS, fS, st, cS, t1, t2, t3, t4, t5, t6, t7⟩ := S
    exact StaticIs.there (s := { Z with heap := P.U.heap }) ⟨cfS, iS, kS, fS, st, cS, t1, t2, t3, t4, t5, (fun q => by rw [q] at t6; cases t6), t7⟩ al rfl
  obtain ⟨v, B, X', ⟨⟨hv, E', V', q1, q2, q3, q4, q5, q6, q7, q8, q9, q10, q11⟩, hl, hc, hs⟩, st⟩ := New1.pays x D fV fC b A z (tab_of (moved hZ hw)) hfr hlo m meth c P g ig mk _ X hg hsize hdg hW hn ⟨r1, r2, rfl, hB, F1, F2, hA, hS, hz, l0, l2, hp⟩
  have al' : Z.vm.Alike B.U.vm := hZ.alike.trans X'.warmed.alike
  have hsz : E'.slots.size = D.slots.size := by
    obtain ⟨-, -, -, kB, w1, w2, w3⟩ := q1
    obtain ⟨kB', y1, y2⟩ := al'.2.2 _ _ e3
    rw [q2.2.1] at w1
    cases w1.symm.trans y1
    rw [w3, e5 i3, y2]
  refine ⟨v, B, X', ⟨_, ⟨hv, ?_, ⟨by omega, fun y cy hy hn' => q10 y cy (by simpa using hn') hy, fun y cy hy => ?_⟩, q11, ⟨E', _, q1.1, by rw [q2.2.1]; exact e2, by rw [q2.2.1]; exact e3, by rw [q2.1]; exact obV, fun _ => by rw [hsz]; exact e5 i3⟩,
    ⟨E', cfV, kV, iV, fV, q1.1, gV, stV, by rw [q2.1]; exact knV, by rw [q2.1]; exact obV, by rw [q2.2.1]; exact asV, q3⟩, ⟨E', cfC, kC, iC, fC, q1.1, gC, stC, by rw [q2.1]; exact knV, by rw [q2.1]; exact obV, by rw [q2.2.1]; exact asC, q4⟩,
    ⟨V', ⟨q5.1, State.isArrayOf_alike al'.symm q5.2.1, q5.2.2.1⟩, q6, by rw [← al'.findClass]; exact q7, q8, fun j hj => by have := q9 j hj; rwa [Nat.zero_add] at this⟩, fun O n d w F n1 n2 => ?_⟩, hl, hc, hs⟩, st⟩
  · intro y hy
    simp only [List.mem_cons, List.not_mem_nil, or_false] at hy
    rcases hy with rfl | rfl <;> rfl
  · by_cases q : y = x
    · subst q
      cases hD.symm.trans hy
      exact ⟨E', q1.1, q2.2.1, q2.1, hsz⟩
    · exact ⟨cy, q10 y cy q hy, rfl, rfl, rfl⟩
  · obtain ⟨D3, cf, k, i, f, g1, g2, g3, g4, g5, g6, g7⟩ := F
    cases hD.symm.trans g1
    simp only [RoadKit.slotOf, g2, gV, gC, Option.map_some, Option.getD_some] at n1 n2
    exact ⟨E', cf, k, i, f, q1.1, g2, g3, by rw [q2.1]; exact g4, by rw [q2.1]; exact g5, by rw [q2.2.1]; exact g6, by rw [q2.2.2 f.slot (by simp [n1, n2])]; exact g7⟩
end StrChars.Road
namespace StrChars.Road
open Jvm Sem ClassFile Op Lib Jvm.Stand Jvm.Free Jvm.Free.XT
/-- WHAT COMES BACK, the byte[] as a list of values -/
def QA (Z : State) (x : Addr) (zn : Int32) (cs : List Int32) (h : Heap) (v : Option Value) (h' : Heap) (L : List Loc) : Prop := v = none ∧ (∀ y ∈ L, y.base = x) ∧ RoadKit.Keep h h' [x] ∧ h'.size = h.size + 1 ∧ RoadKit.Exa Z h' x ST ∧ RoadKit.Fld Z h' x ST "value" "[B" (.ref h.size) ∧ RoadKit.Fld Z h' x ST "coder" "B" (.int 0) ∧
  (∃ kb, Z.vm.findClass "[B" = some kb ∧ RoadKit.Arv Z h' h.size kb .byte zn (cs.map fun c => .int (lo8 c)) (.int 0)) ∧
  ∀ (O n d : String) (w : Value), RoadKit.Fld Z h x O n d w → RoadKit.slotOf Z O n d ≠ RoadKit.slotOf Z ST "value" "[B" → RoadKit.slotOf Z O n d ≠ RoadKit.slotOf Z ST "coder" "B" → RoadKit.Fld Z h' x O n d w
/-- **new String(chars) AT A CALL, THE ARRAYS AS LISTS**: the char[] at b holds cs, not empty, no char above 255 -/
theorem backArv {p : Program} {l : Launch} {e : Env} {R : Room} {s : State} {args : Array Value} {below : List Frame} {len W : Nat} {Z : State} {a0 : Array Value} {h : Heap} (hZ : Z.Warmed39 s.vm) (hw : ∀ d ∈ words, d.before a0 Z = true) {kI : Nat} (wi : (Jvm.Cond.instantiable ST kI).before a0 Z = true)
    {x b : Addr} {k : ClassId} {zn z : Int32} {cs : List Int32} {dv v0 c0 : Value} (E : RoadKit.Exa Z h x ST) (V : RoadKit.Fld Z h x ST "value" "[B" v0) (C : RoadKit.Fld Z h x ST "coder" "B" c0) (K : RoadKit.Arv Z h b k .char zn (cs.map Value.int) dv) (S : RoadKit.Sta Z h ST "COMPACT_STRINGS" "Z" (.int z)) (hz : ¬ z = 0)
    (hlen : zn.toNatClampNeg = cs.length) (h0 : 0 < cs.length) (hbig : cs.length ≤ 536870912) (hall : ∀ c ∈ cs, ¬ 255 < c) (hfr : 4 ≤ R.frames) (hlo : W + 65 ≤ R.locals) :
    Back l R p e below s args New1.yN len W (fun P a => a = #[.ref x, .ref b] ∧ P.U.heap = h ∧ P.cells + 1 ≤ R.cells ∧ P.slots + cs.length ≤ R.slots)
      (fun P _ v B => ∃ L, QA Z x zn cs h v B.U.heap L ∧ B.locs = P.locs ++ L ∧ B.cells = P.cells + 1 ∧ B.slots = P.slots + cs.length) := by
  obtain ⟨A, K1, K2, K3, K4, K5, K6⟩ := K
  have e : A.slots.size = cs.length := K3.trans hlen
  have hat : ∀ (i : Nat) (hi : i < cs.length), A.slots[i]? = some (.int cs[i]) := fun i hi => by rw [K5 i (by omega)]; simp [List.getD_eq_getElem?_getD, hi]
  have hcv : ∀ (i : Nat) (hi : i < cs.length), cv A i = cs[i] := fun i hi => by unfold cv; rw [hat i hi]
  have hty : Typed .char A := fun i v hv => by
    have hi : i < A.slots.size := (Array.getElem?_eq_some_iff.mp hv).1
    have q := K5 i hi
    rw [hv] at q
    rw [Option.some.inj q]
    exact K6 i hi
  refine Back.mono (back hZ hw wi E V C K1 hty S hz (by omega) (by omega) (fun i hi => by rw [hcv i (by omega)]; exact hall _ (List.getElem_mem _)) hfr hlo) (fun P a hp => ⟨hp.1, hp.2.1, hp.2.2.1, by rw [e]; exact hp.2.2.2⟩) (fun P a v B hp hq => ?_)
  obtain ⟨L, ⟨q1, q2, q3, q4, q5, q6, q7, ⟨V', v1, v2, v3, v4, v5⟩, q9⟩, hl, hc, hs⟩ := hq
  refine ⟨L, ⟨q1, q2, q3, q4, q5, q6, q7, ⟨V'.cls, v3, V', v1, rfl, by rw [v4, e, hlen], K4, fun i hi => ?_, fun i hi => ?_⟩, q9⟩, hl, hc, by rw [hs, e]⟩
  · have hi' : i < cs.length := by omega
    rw [v5 i (by omega), hcv i hi']; simp [List.getD_eq_getElem?_getD, hi']
  · have hi' : i < cs.length := by omega
    simp only [List.getD_eq_getElem?_getD, List.getElem?_map, List.getElem?_eq_getElem hi', Option.map_some, Option.getD_some]
    exact fits_lo8 _
end StrChars.Road
namespace StrChars.Road
open Jvm Sem ClassFile Op Lib Jvm.Stand Jvm.Free Jvm.Free.XT
/-- WHAT COMES BACK, in the writer's own shape -/
def QV (Z : State) (x : Addr) (N : Int32) (bs : List Int32) (h : Heap) (n0 : Nat) (v : Option Value) (h' : Heap) (L : List Loc) : Prop := v = none ∧ RoadKit.Fr n0 L ∧ RoadKit.Keep h h' [x] ∧ RoadKit.Exa Z h' x ST ∧ RoadKit.Fld Z h' x ST "coder" "B" (.int 0) ∧
  ∃ (t : Addr) (kb : ClassId), n0 ≤ t ∧ h.size ≤ t ∧ ¬ t = x ∧ RoadKit.Fld Z h' x ST "value" "[B" (.ref t) ∧ RoadKit.Arv Z h' t kb .byte N (bs.map Value.int) (.int 0)
/-- **new String(chars) AT A CALL, FOR THE WRITER**: a char[] of n known ints, each 0 to 255 -/
theorem backV {p : Program} {l : Launch} {e : Env} {R : Room} {s : State} {args : Array Value} {below : List Frame} {len W : Nat} {Z : State} {a0 : Array Value} {h : Heap} (hZ : Z.Warmed39 s.vm) (hw : ∀ d ∈ words, d.before a0 Z = true) {kI : Nat} (wi : (Jvm.Cond.instantiable ST kI).before a0 Z = true)
    {x b : Addr} {kC : ClassId} {cs bs : List Int32} {d v0 c0 : Value} {z N : Int32} {n n0 : Nat} (hx0 : n0 ≤ x) (hh0 : n0 ≤ h.size) (E : RoadKit.Exa Z h x ST) (V : RoadKit.Fld Z h x ST "value" "[B" v0) (C : RoadKit.Fld Z h x ST "coder" "B" c0) (K : RoadKit.Arv Z h b kC .char N (cs.map Value.int) d) (S : RoadKit.Sta Z h ST "COMPACT_STRINGS" "Z" (.int z)) (hz : ¬ z = 0)
    (hn : cs.length = n) (hN : N = Int32.ofNat n) (l0 : 0 < n) (l2 : n ≤ 4000) (hp : ∀ c ∈ cs, ¬ c < 0 ∧ ¬ (255 : Int32) < c) (hb : bs = cs.map (fun c => c.toInt8.toInt32)) (hfr : 4 ≤ R.frames) (hlo : W + 65 ≤ R.locals) :
    Back l R p e below s args (⟨"java/lang/String", "<init>", "([C)V"⟩ : MethodName) len W (fun P a => a = #[.ref x, .ref b] ∧ P.U.heap = h ∧ P.cells + 1 ≤ R.cells ∧ P.slots + n ≤ R.slots)
      (fun P _ v B => ∃ L, QV Z x N bs h n0 v B.U.heap L ∧ B.locs = P.locs ++ L ∧ B.cells = P.cells + 1 ∧ B.slots = P.slots + n) := by
  subst hn hN hb
  refine Back.mono (backArv hZ hw wi E V C K S hz (n32 (by omega)) l0 (by omega) (fun c hc => (hp c hc).2) hfr hlo) (fun P a hp => hp) (fun P a v B hp hq => ?_)
  obtain ⟨L, ⟨q1, q2, q3, q4, q5, q6, q7, ⟨kb, v1, v2⟩, q9⟩, hl, hc, hs⟩ := hq
  exact ⟨L, ⟨q1, fun y hy => by rw [q2 y hy]; exact hx0, q3, q5, q7, h.size, kb, hh0, Nat.le_refl _, Nat.ne_of_gt E.lt, q6, by rw [List.map_map]; exact v2⟩, hl, hc, hs⟩
end StrChars.Road
namespace StrChars
open Jvm Sem ClassFile Op Lib Jvm.Stand Jvm.Free.XT Jvm.Free.ALB Jvm.Free.JM Jvm.Free
open Jvm.Lib.Cold (StaticIs)
def hi8 (x : Int32) : Int32 := lo8 (x >>> ((8 : Int32) &&& 31))
/-- what StringUTF16.getChar makes of two bytes -/
def pairCh (u v : Int32) : Int32 := (((u &&& 255) <<< ((0 : Int32) &&& 31)) ||| ((v &&& 255) <<< ((8 : Int32) &&& 31))).toUInt32.toUInt16.toUInt32.toInt32
theorem lo8_and (x : Int32) : (lo8 x &&& 255).toBitVec.toNat = x.toBitVec.toNat % 256 := by
  have h : (lo8 x).toBitVec = (x.toBitVec.signExtend 8).signExtend 32 := by rw [lo8, Int8.toBitVec_toInt32, Int32.toBitVec_toInt8]
  rw [Int32.toBitVec_and, BitVec.toNat_and, h]
  have e : ((x.toBitVec.signExtend 8).signExtend 32).toNat % 256 = x.toBitVec.toNat % 256 := by
    rw [BitVec.toNat_signExtend]
    have hlt := x.toBitVec.isLt
    simp only [BitVec.toNat_setWidth, BitVec.toNat_signExtend]
    split <;> split <;> omega
  rw [← e]
  exact Nat.and_two_pow_sub_one_eq_mod _ 8
theorem pair_says {c : Int32} (h0 : ¬ c < 0) (h1 : ¬ 65535 < c) : pairCh (lo8 c) (hi8 c) = c := by
  rw [Int32.lt_iff_toInt_lt] at h0 h1
  have e0 : (0 : Int32).toInt = 0 := rfl
  have e1 : (65535 : Int32).toInt = 65535 := rfl
  have hc : c.toInt = c.toBitVec.toNat := by
    have := c.toBitVec.isLt
    have e : c.toInt = c.toBitVec.toInt := rfl
    rw [e] at h0 h1
    rw [e]
    rw [BitVec.toInt_eq_toNat_cond] at h0 h1 ⊢
    split at h0 <;> split <;> omega
  have hn : c.toBitVec.toNat < 65536 := by omega
  have a1 := lo8_and c
  have a2 : (hi8 c &&& 255).toBitVec.toNat = c.toBitVec.toNat / 256 := by
    rw [hi8, lo8_and]
    have e : ((8 : Int32) &&& 31) = 8 := by decide
    rw [e, Int32.toBitVec_shiftRight]
    have e2 : ((8 : Int32).toBitVec.smod 32) = 8#32 := by decide
    rw [e2, BitVec.sshiftRight_eq', BitVec.toNat_sshiftRight_of_msb_false (by rw [BitVec.msb_eq_false_iff_two_mul_lt]; omega)]
    show c.toBitVec.toNat >>> 8 % 256 = _
    rw [Nat.shiftRight_eq_div_pow]
    omega
  unfold pairCh
  apply Int32.toBitVec_inj.mp
  apply BitVec.eq_of_toNat_eq
  have f0 : ((0 : Int32) &&& 31) = 0 := by decide
  have f8 : ((8 : Int32) &&& 31) = 8 := by decide
  rw [f0, f8]
  have g : (((lo8 c &&& 255) <<< (0 : Int32)) ||| ((hi8 c &&& 255) <<< (8 : Int32))).toBitVec.toNat = c.toBitVec.toNat := by
    rw [Int32.toBitVec_or, Int32.toBitVec_shiftLeft, Int32.toBitVec_shiftLeft]
    have s0 : ((0 : Int32).toBitVec.smod 32) = 0#32 := by decide
    have s8 : ((8 : Int32).toBitVec.smod 32) = 8#32 := by decide
    rw [s0, s8, BitVec.toNat_or]
    simp only [BitVec.shiftLeft_eq', BitVec.toNat_shiftLeft, a1, a2]
    show (c.toBitVec.toNat % 256) <<< 0 % 2 ^ 32 ||| (c.toBitVec.toNat / 256) <<< 8 % 2 ^ 32 = _
    rw [Nat.shiftLeft_zero, Nat.mod_eq_of_lt (show c.toBitVec.toNat % 256 < 2 ^ 32 by omega), Nat.mod_eq_of_lt (show (c.toBitVec.toNat / 256) <<< 8 < 2 ^ 32 by rw [Nat.shiftLeft_eq]; omega), Nat.or_comm, ← Nat.shiftLeft_add_eq_or_of_lt (by omega), Nat.shiftLeft_eq]
    omega
  show BitVec.toNat (((((lo8 c &&& 255) <<< (0 : Int32)) ||| ((hi8 c &&& 255) <<< (8 : Int32))).toBitVec.setWidth 16).setWidth 32) = _
  rw [BitVec.toNat_setWidth, BitVec.toNat_setWidth, g]
  omega
end StrChars
namespace StrChars
open Jvm Sem ClassFile Op Lib Jvm.Stand Jvm.Free.XT Jvm.Free.ALB Jvm.Free.JM Jvm.Free
open Jvm.Lib.Cold (StaticIs)
/-- the array's cell V codes the n chars f 0 .. f (n - 1) by the coder cd, as the JDK does: coder 1 just where some char is above 255 -/
def Cod (cd : Int32) (n : Nat) (f : Nat → Int32) (V : Cell) : Prop := (cd = 0 ∧ V.slots.size = n ∧ ∀ j, j < n → V.slots[j]? = some (.int (lo8 (f j))) ∧ ¬ 255 < f j) ∨ (cd = 1 ∧ V.slots.size = 2 * n ∧ (∀ j, j < n → V.slots[2 * j]? = some (.int (lo8 (f j))) ∧ V.slots[2 * j + 1]? = some (.int (hi8 (f j)))) ∧ ∃ j, j < n ∧ 255 < f j)
/-- **x is a String of the n chars f 0 .. f (n - 1)**, Latin-1 or UTF-16; its array at t has the cell V -/
def Txt (x t : Addr) (V : Cell) (cd : Int32) (n : Nat) (f : Nat → Int32) (U : State) : Prop := Exact "java/lang/String" x U ∧ Has x "java/lang/String" "value" "[B" (.ref t) U ∧ Has x "java/lang/String" "coder" "B" (.int cd) U ∧ XT.Arr .byte t V U ∧ Cod cd n f V ∧ ∀ j, j < n → ¬ f j < 0 ∧ ¬ 65535 < f j
theorem Txt.mv {x t : Addr} {V : Cell} {cd : Int32} {n : Nat} {f : Nat → Int32} {U U' : State} (h : Txt x t V cd n f U) (hal : U.vm.Alike U'.vm) (hh : U'.heap = U.heap) : Txt x t V cd n f U' := ⟨h.1.mv hal hh, h.2.1.mv hal hh, h.2.2.1.mv hal hh, h.2.2.2.1.mv hal hh, h.2.2.2.2⟩
end StrChars
namespace StrChars.Road
open Jvm Sem ClassFile Op Lib Jvm.Stand Jvm.Free Jvm.Free.XT
open Jvm.Lib.Cold (StaticIs)
theorem consq {a : Array Value} {s : State} {c : Jvm.Cond} {L : List Jvm.Cond} (h0 : c.before a s = true) (h : ∀ w ∈ L, w.before a s = true) : ∀ w ∈ c :: L, w.before a s = true := fun w hw => (List.mem_cons.mp hw).elim (fun e => e ▸ h0) (h w)
/-- the bytes of the chars cs, low before high -/
def wideBytes : List Int32 → List Value
  | [] => []
  | c :: cs => .int (lo8 c) :: .int (hi8 c) :: wideBytes cs
theorem wide_lo (d : Value) : ∀ (cs : List Int32) (j : Nat), j < cs.length → (wideBytes cs).getD (2 * j) d = .int (lo8 (cs.getD j 0))
  | [], j, h => absurd h (Nat.not_lt_zero j)
  | c :: cs, 0, _ => rfl
  | c :: cs, j + 1, h => by
    have q := wide_lo d cs j (by simpa using h)
    rw [show 2 * (j + 1) = 2 * j + 1 + 1 from by omega]
    simpa [wideBytes] using q
theorem wide_hi (d : Value) : ∀ (cs : List Int32) (j : Nat), j < cs.length → (wideBytes cs).getD (2 * j + 1) d = .int (hi8 (cs.getD j 0))
  | [], j, h => absurd h (Nat.not_lt_zero j)
  | c :: cs, 0, _ => rfl
  | c :: cs, j + 1, h => by
    have q := wide_hi d cs j (by simpa using h)
    rw [show 2 * (j + 1) + 1 = 2 * j + 1 + 1 + 1 from by omega]
    simpa [wideBytes] using q
theorem low_at (d : Value) (cs : List Int32) (j : Nat) (h : j < cs.length) : (cs.map fun c => Value.int (lo8 c)).getD j d = .int (lo8 (cs.getD j 0)) := by
  simp [List.getD_eq_getElem?_getD, h]
/-- an array of N2 bytes vs codes the chars cs by the coder cd -/
def CodA (cs : List Int32) (cd N2 : Int32) (vs : List Value) : Prop := (cd = 0 ∧ N2 = Int32.ofNat cs.length ∧ vs = (cs.map fun c => Value.int (lo8 c)) ∧ ∀ c ∈ cs, ¬ 255 < c) ∨ (cd = 1 ∧ N2 = Int32.ofNat (2 * cs.length) ∧ vs = wideBytes cs ∧ ∃ c ∈ cs, 255 < c)
theorem CodA.cod {cs : List Int32} {cd N2 : Int32} {vs : List Value} {V : Cell} (h : CodA cs cd N2 vs) (hn : 2 * cs.length < 2 ^ 31) (hs : V.slots.size = N2.toNatClampNeg) (hv : RoadKit.Has V vs (.int 0)) : Cod cd cs.length (fun j => cs.getD j 0) V := by
  rcases h with ⟨rfl, rfl, rfl, h⟩ | ⟨rfl, rfl, rfl, c, hc, hw⟩
  · rw [n32 (by omega)] at hs
    exact Or.inl ⟨rfl, hs, fun j hj => ⟨by rw [hv j (by omega), low_at _ _ _ hj], by
      have e : cs.getD j 0 = cs[j] := by simp [List.getD_eq_getElem?_getD, hj]
      show ¬ 255 < cs.getD j 0
      rw [e]; exact h _ (List.getElem_mem _)⟩⟩
  · rw [n32 (by omega)] at hs
    obtain ⟨j, hj, rfl⟩ := List.getElem_of_mem hc
    exact Or.inr ⟨rfl, hs, fun j hj => ⟨by rw [hv _ (by omega), wide_lo _ _ _ hj], by rw [hv _ (by omega), wide_hi _ _ _ hj]⟩, j, hj, by
      have e : cs.getD j 0 = cs[j] := by simp [List.getD_eq_getElem?_getD, hj]
      show 255 < cs.getD j 0
      rw [e]; exact hw⟩
/-- an object of exactly java/lang/String, its two fields found: as the laws ask it -/
theorem strObj {Z U : State} {a0 : Array Value} {kI : Nat} (wi : (Jvm.Cond.instantiable ST kI).before a0 Z = true) (al : Z.vm.Alike U.vm) {x : Addr} {v0 c0 : Value} (E : RoadKit.Exa Z U.heap x ST) (V : RoadKit.Fld Z U.heap x ST "value" "[B" v0) (C : RoadKit.Fld Z U.heap x ST "coder" "B" c0) :
    ∃ (D : Cell) (fV fC : Field), Blank ST x D U ∧ Found ST "value" "[B" fV U ∧ Found ST "coder" "B" fC U ∧ D.slots[fV.slot]? = some v0 ∧ D.slots[fC.slot]? = some c0 ∧ RoadKit.slotOf Z ST "value" "[B" = fV.slot ∧ RoadKit.slotOf Z ST "coder" "B" = fC.slot := by
  obtain ⟨D, cfV, kV, iV, fV, hD, gV, stV, knV, obV, asV, slV⟩ := V
  obtain ⟨D', cfC, kC, iC, fC, hD', gC, stC, -, -, asC, slC⟩ := C
  cases hD.symm.trans hD'
  obtain ⟨D2, kD, e1, e2, e3, e4, e5⟩ := E
  cases hD.symm.trans e1
  obtain ⟨c2, k2, i1, i2, i3, -⟩ := Cond.instantiable_spec wi
  cases e2.symm.trans i1
  cases e3.symm.trans i2
  obtain ⟨kU, u1, u2⟩ := al.2.2 _ _ e3
  exact ⟨D, fV, fC, ⟨hD, ⟨knV, fun q hq => by rw [hq] at obV; cases obV⟩, by rw [al.findClass]; exact e2, kU, u1, by rw [u2]; exact i3, by rw [u2]; exact e5 i3⟩, ⟨SBG.found_only al ⟨cfV, kV, iV, gV⟩, stV⟩, ⟨SBG.found_only al ⟨cfC, kC, iC, gC⟩, stC⟩, slV, slC, by simp [RoadKit.slotOf, gV], by simp [RoadKit.slotOf, gC]⟩
theorem sta_is {Z U : State} (al : Z.vm.Alike U.vm) {C n d : String} {v : Value} (S : RoadKit.Sta Z U.heap C n d v) : StaticIs U C n d v := by
  obtain ⟨cfS, iS, kS, fS, st, cS, t1, t2, t3, t4, t5, t6, t7⟩ := S
  exact StaticIs.there (s := { Z with heap := U.heap }) ⟨cfS, iS, kS, fS, st, cS, t1, t2, t3, t4, t5, (fun q => by rw [q] at t6; cases t6), t7⟩ al rfl
end StrChars.Road
namespace StrChars
open Jvm Sem ClassFile Op Lib Jvm.Stand Jvm.Free.XT Jvm.Free.ALB Jvm.Free.JM Jvm.Free
open Jvm.Lib.Cold (StaticIs)
/-- what place i of a byte[]'s cell holds -/
def yv (A : Cell) (i : Nat) : Int32 := match A.slots[i]? with | some (.int x) => x | _ => 0
theorem yv_get {a : Addr} {A : Cell} {U : State} (h : XT.Arr .byte a A U) (ht : Typed .byte A) {i : Nat} (hi : i < A.slots.size) : A.slots[i]? = some (.int (yv A i)) := by
  have e := Array.getElem?_eq_getElem hi
  have f := ht i _ e
  unfold yv; rw [e]
  generalize A.slots[i] = v at f
  cases v <;> simp [fits] at f ⊢
/-- the two arrays are equal, place for place -/
def EqC (A B : Cell) : Prop := A.slots.size = B.slots.size ∧ ∀ i, i < A.slots.size → yv A i = yv B i
/-- a boolean that says whether p -/
def Says01 (q : Prop) (r : Option Value) (s u : State) : Prop := ∃ v : Int32, r = some (.int v) ∧ u.heap = s.heap ∧ ((v = 1 ∧ q) ∨ (v = 0 ∧ ¬ q))
theorem Says01.mv {q : Prop} : ∀ r (U U' V V' : State), U'.heap = U.heap → V.vm.Alike V'.vm → V'.heap = V.heap → Says01 q r U V → Says01 q r U' V' :=
  fun r U U' V V' h1 _ h2 ⟨v, a, b, c⟩ => ⟨v, a, by rw [h1, h2]; exact b, c⟩
namespace LEq
def yN : MethodName := ⟨"java/lang/StringLatin1", "equals", "([B[B)Z"⟩
abbrev yB : ByteArray := jdk_43_method_13_code
theorem d0 : decode yB 0 = .ok (.aload_n 0, 1) := by decide +kernel
theorem d1 : decode yB 1 = .ok (.arraylength, 1) := by decide +kernel
theorem d2 : decode yB 2 = .ok (.aload_n 1, 1) := by decide +kernel
theorem d3 : decode yB 3 = .ok (.arraylength, 1) := by decide +kernel
theorem d4 : decode yB 4 = .ok (.if_icmp (.ne) 30, 3) := by decide +kernel
theorem d7 : decode yB 7 = .ok (.iconst 0, 1) := by decide +kernel
theorem d8 : decode yB 8 = .ok (.istore_n 2, 1) := by decide +kernel
theorem d9 : decode yB 9 = .ok (.iload_n 2, 1) := by decide +kernel
theorem d10 : decode yB 10 = .ok (.aload_n 0, 1) := by decide +kernel
theorem d11 : decode yB 11 = .ok (.arraylength, 1) := by decide +kernel
theorem d12 : decode yB 12 = .ok (.if_icmp (.ge) 20, 3) := by decide +kernel
theorem d15 : decode yB 15 = .ok (.aload_n 0, 1) := by decide +kernel
theorem d16 : decode yB 16 = .ok (.iload_n 2, 1) := by decide +kernel
theorem d17 : decode yB 17 = .ok (.baload, 1) := by decide +kernel
theorem d18 : decode yB 18 = .ok (.aload_n 1, 1) := by decide +kernel
theorem d19 : decode yB 19 = .ok (.iload_n 2, 1) := by decide +kernel
theorem d20 : decode yB 20 = .ok (.baload, 1) := by decide +kernel
theorem d21 : decode yB 21 = .ok (.if_icmp (.eq) 5, 3) := by decide +kernel
theorem d24 : decode yB 24 = .ok (.iconst 0, 1) := by decide +kernel
theorem d25 : decode yB 25 = .ok (.ireturn, 1) := by decide +kernel
theorem d26 : decode yB 26 = .ok (.iinc 2 1, 3) := by decide +kernel
theorem d29 : decode yB 29 = .ok (.goto (-20), 3) := by decide +kernel
theorem d32 : decode yB 32 = .ok (.iconst 1, 1) := by decide +kernel
theorem d33 : decode yB 33 = .ok (.ireturn, 1) := by decide +kernel
theorem d34 : decode yB 34 = .ok (.iconst 0, 1) := by decide +kernel
theorem d35 : decode yB 35 = .ok (.ireturn, 1) := by decide +kernel
def site : List Cond := []
def tab : Cond := tabOf yN yB 3 (some .boolean) site
def P (a : Addr) (A : Cell) (b : Addr) (B : Cell) (args : Array Value) (s : State) : Prop := args = #[.ref a, .ref b] ∧ XT.Arr .byte a A s ∧ Typed .byte A ∧ XT.Arr .byte b B s ∧ Typed .byte B
/-- whether two byte[] are equal, place for place -/
theorem law (l : Launch) (a : Addr) (A : Cell) (b : Addr) (B : Cell) : Law l yN 2 2 0 0 yB 3 (some .boolean) site (P a A b B) (Says01 (EqC A B)) [] 0 0 := by
  refine Law.of_walk (plainFor_of_name (by decide +kernel)) (by decide +kernel) (by decide +kernel) (by decide) (fun _ _ h => by rw [h.1]; rfl) (fun _ U U' hal hh h => ⟨h.1, h.2.1.mv hal hh, h.2.2.1, h.2.2.2.1.mv hal hh, h.2.2.2.2⟩) (fun r U U' V V' h1 hal h2 h => Says01.mv r U U' V V' h1 hal h2 h) ?_
  intro p e s m args below meth c s₁ X0 hexec hbytes hml hret hlk hnm hown hh0 W hP
  obtain ⟨rfl, hA, tA, hB, tB⟩ := hP
  have a31 := hA.2.2.2
  have b31 := hB.2.2.2
  have hA0 := hA.mv X0.warmed.alike hh0
  have hB0 := hB.mv X0.warmed.alike hh0
  have c1 : Steps p.tables e below (s₁.setTop (entryFrame m #[.ref a, .ref b] 3)) (s₁.setTop (mkF m 0 #[.val (.ref a), .val (.ref b), .unset] [])) := entry rfl
  have c2 : Steps p.tables e below (s₁.setTop (entryFrame m #[.ref a, .ref b] 3)) (s₁.setTop (mkF m 4 #[.val (.ref a), .val (.ref b), .unset] [.int (Int32.ofNat B.slots.size), .int (Int32.ofNat A.slots.size)])) := c1.trans (by
    refine XS.aloadN X0.here hexec rfl (hb hbytes d0) rfl rfl ?_
    refine X0.alen hexec hA0 rfl rfl (hb hbytes d1) ?_
    refine XS.aloadN X0.here hexec rfl (hb hbytes d2) rfl rfl ?_
    refine X0.alen hexec hB0 rfl rfl (hb hbytes d3) ?_
    exact Steps.refl _)
  by_cases hs : A.slots.size = B.slots.size
  · have c3 : Steps p.tables e below (s₁.setTop (entryFrame m #[.ref a, .ref b] 3)) (s₁.setTop (mkF m 9 #[.val (.ref a), .val (.ref b), .val (.int 0)] [])) := c2.trans (by
      refine XS.icmpNo X0.here hexec rfl (hb hbytes d4) rfl (ii_ne_f (by rw [hs])) ?_
      refine iconstV X0.here hexec rfl 0 (hb hbytes d7) (by decide) ?_
      refine XS.istoreN X0.here hexec rfl (hb hbytes d8) rfl rfl ?_
      exact Steps.refl _)
    have loop : ∀ (r i : Nat), i + r = A.slots.size → (∀ j, j < i → yv A j = yv B j) → Steps p.tables e below (s₁.setTop (entryFrame m #[.ref a, .ref b] 3)) (s₁.setTop (mkF m 9 #[.val (.ref a), .val (.ref b), .val (.int (Int32.ofNat i))] [])) → ∃ (pc : Nat) (Ls : Array Slot) (v : Int32), (pc = 25 ∨ pc = 33) ∧ ((v = 1 ∧ EqC A B) ∨ (v = 0 ∧ ¬ EqC A B)) ∧ Steps p.tables e below (s₁.setTop (entryFrame m #[.ref a, .ref b] 3)) (s₁.setTop (mkF m pc Ls [.int v])) := by
      intro r
      induction r with
      | zero =>
        intro i hi he cl
        exact ⟨33, _, 1, Or.inr rfl, Or.inl ⟨rfl, hs, fun j hj => he j (by omega)⟩, cl.trans (by
          refine XS.iloadN X0.here hexec rfl (hb hbytes d9) rfl ?_
          refine XS.aloadN X0.here hexec rfl (hb hbytes d10) rfl rfl ?_
          refine X0.alen hexec hA0 rfl rfl (hb hbytes d11) ?_
          refine XS.icmpYes X0.here hexec rfl (pc0 := 12) rfl (hb hbytes d12) rfl (ii_ge_t (nlt32 (by omega) (by omega))) (by decide) rfl ?_
          refine iconstV X0.here hexec rfl 1 (hb hbytes d32) (by decide) ?_
          exact Steps.refl _)⟩
      | succ r ih =>
        intro i hi he cl
        have c4 : Steps p.tables e below (s₁.setTop (entryFrame m #[.ref a, .ref b] 3)) (s₁.setTop (mkF m 21 #[.val (.ref a), .val (.ref b), .val (.int (Int32.ofNat i))] [.int (yv B i), .int (yv A i)])) := cl.trans (by
          refine XS.iloadN X0.here hexec rfl (hb hbytes d9) rfl ?_
          refine XS.aloadN X0.here hexec rfl (hb hbytes d10) rfl rfl ?_
          refine X0.alen hexec hA0 rfl rfl (hb hbytes d11) ?_
          refine XS.icmpNo X0.here hexec rfl (hb hbytes d12) rfl (ii_ge_f (lt32 (by omega) (by omega))) ?_
          refine XS.aloadN X0.here hexec rfl (hb hbytes d15) rfl rfl ?_
          refine XS.iloadN X0.here hexec rfl (hb hbytes d16) rfl ?_
          refine X0.aget hexec hA0 rfl (yv_get hA tA (i := i) (by omega)) rfl rfl (hb hbytes d17) ?_
          refine XS.aloadN X0.here hexec rfl (hb hbytes d18) rfl rfl ?_
          refine XS.iloadN X0.here hexec rfl (hb hbytes d19) rfl ?_
          refine X0.aget hexec hB0 rfl (yv_get hB tB (i := i) (by omega)) rfl rfl (hb hbytes d20) ?_
          exact Steps.refl _)
        by_cases hv : yv A i = yv B i
        · have c5 : Steps p.tables e below (s₁.setTop (entryFrame m #[.ref a, .ref b] 3)) (s₁.setTop (mkF m 9 #[.val (.ref a), .val (.ref b), .val (.int (Int32.ofNat i + 1))] [])) := c4.trans (by
            refine XS.icmpYes X0.here hexec rfl (pc0 := 21) rfl (hb hbytes d21) rfl (ii_eq_t hv) (by decide) rfl ?_
            refine iincV X0.here hexec rfl 1 (hb hbytes d26) (by decide) rfl rfl ?_
            refine XS.goto X0.here hexec rfl (pc0 := 29) rfl (hb hbytes d29) (by decide) rfl ?_
            exact Steps.refl _)
          rw [succ32] at c5
          exact ih (i + 1) (by omega) (fun j hj => by
            by_cases e : j = i
            · rw [e]; exact hv
            · exact he j (by omega)) c5
        · exact ⟨25, _, 0, Or.inl rfl, Or.inr ⟨rfl, fun q => hv (q.2 i (by omega))⟩, c4.trans (by
            refine XS.icmpNo X0.here hexec rfl (hb hbytes d21) rfl (ii_eq_f hv) ?_
            refine iconstV X0.here hexec rfl 0 (hb hbytes d24) (by decide) ?_
            exact Steps.refl _)⟩
    obtain ⟨pc, Ls, v, hpc, hv, cz⟩ := loop A.slots.size 0 (by omega) (fun j hj => absurd hj (Nat.not_lt_zero j)) c3
    have nv : narrow .boolean (.int v) = .int v := by rcases hv with ⟨rfl, -⟩ | ⟨rfl, -⟩ <;> rfl
    rcases hpc with rfl | rfl
    · exact ⟨s₁, some (.int v), _, _, _, X0, rfl, rfl, rfl, (fun h => by cases h), ⟨v, rfl, hh0, hv⟩, fun fs hl => cz.trans (X0.ireturnOut hexec hret nv (Or.inr (Or.inl rfl)) (hb hbytes d25) hl)⟩
    · exact ⟨s₁, some (.int v), _, _, _, X0, rfl, rfl, rfl, (fun h => by cases h), ⟨v, rfl, hh0, hv⟩, fun fs hl => cz.trans (X0.ireturnOut hexec hret nv (Or.inr (Or.inl rfl)) (hb hbytes d33) hl)⟩
  · have c3 : Steps p.tables e below (s₁.setTop (entryFrame m #[.ref a, .ref b] 3)) (s₁.setTop (mkF m 35 #[.val (.ref a), .val (.ref b), .unset] [.int 0])) := c2.trans (by
      refine XS.icmpYes X0.here hexec rfl (pc0 := 4) rfl (hb hbytes d4) rfl (ii_ne_t (ne32 a31 b31 hs)) (by decide) rfl ?_
      refine iconstV X0.here hexec rfl 0 (hb hbytes d34) (by decide) ?_
      exact Steps.refl _)
    exact ⟨s₁, some (.int 0), _, _, _, X0, rfl, rfl, rfl, (fun h => by cases h), ⟨0, rfl, hh0, Or.inr ⟨rfl, fun q => hs q.1⟩⟩, fun fs hl => c3.trans (X0.ireturnOut hexec hret rfl (Or.inr (Or.inl rfl)) (hb hbytes d35) hl)⟩
end LEq
theorem Cod.ty {cd : Int32} {n : Nat} {f : Nat → Int32} {V : Cell} (h : Cod cd n f V) : Typed .byte V := fun i v hv => by
  have hi : i < V.slots.size := (Array.getElem?_eq_some_iff.mp hv).1
  rcases h with ⟨-, k1, k2⟩ | ⟨-, k1, k2, -⟩
  · rw [(k2 i (by omega)).1] at hv; cases hv; exact fits_lo8 _
  · rcases Nat.mod_two_eq_zero_or_one i with e | e
    · obtain ⟨j, rfl⟩ : ∃ j, i = 2 * j := ⟨i / 2, by omega⟩
      rw [(k2 j (by omega)).1] at hv; cases hv; exact fits_lo8 _
    · obtain ⟨j, rfl⟩ : ∃ j, i = 2 * j + 1 := ⟨i / 2, by omega⟩
      rw [(k2 j (by omega)).2] at hv; cases hv; exact fits_lo8 _
/-- the same text -/
def SameT (n : Nat) (f : Nat → Int32) (k : Nat) (g : Nat → Int32) : Prop := n = k ∧ ∀ j, j < n → f j = g j
theorem lo8_inj {x y : Int32} (h0 : ¬ x < 0) (h1 : ¬ 255 < x) (k0 : ¬ y < 0) (k1 : ¬ 255 < y) (h : lo8 x = lo8 y) : x = y := by
  rw [← lo8_mask h0 h1, ← lo8_mask k0 k1, h]
/-- arrays coded by one coder are equal just where the texts are -/
theorem Cod.eqv {cd : Int32} {n k : Nat} {f g : Nat → Int32} {V V' : Cell} (h : Cod cd n f V) (h' : Cod cd k g V') (hf : ∀ j, j < n → ¬ f j < 0 ∧ ¬ 65535 < f j) (hg : ∀ j, j < k → ¬ g j < 0 ∧ ¬ 65535 < g j) : EqC V V' ↔ SameT n f k g := by
  have yvv : ∀ {W : Cell} {i : Nat} {x : Int32}, W.slots[i]? = some (.int x) → yv W i = x := fun q => by unfold yv; rw [q]
  rcases h with ⟨rfl, k1, k2⟩ | ⟨rfl, k1, k2, -⟩
  · rcases h' with ⟨-, m1, m2⟩ | ⟨e, -⟩
    · constructor
      · rintro ⟨e1, e2⟩
        refine ⟨by omega, fun j hj => ?_⟩
        have q := e2 j (by omega)
        rw [yvv (k2 j hj).1, yvv (m2 j (by omega)).1] at q
        exact lo8_inj (hf j hj).1 (k2 j hj).2 (hg j (by omega)).1 (m2 j (by omega)).2 q
      · rintro ⟨rfl, e2⟩
        refine ⟨by omega, fun j hj => ?_⟩
        rw [yvv (k2 j (by omega)).1, yvv (m2 j (by omega)).1, e2 j (by omega)]
    · exact absurd e (by decide)
  · rcases h' with ⟨e, -⟩ | ⟨-, m1, m2, -⟩
    · exact absurd e (by decide)
    · constructor
      · rintro ⟨e1, e2⟩
        refine ⟨by omega, fun j hj => ?_⟩
        have q1 := e2 (2 * j) (by omega)
        have q2 := e2 (2 * j + 1) (by omega)
        rw [yvv (k2 j hj).1, yvv (m2 j (by omega)).1] at q1
        rw [yvv (k2 j hj).2, yvv (m2 j (by omega)).2] at q2
        rw [← pair_says (hf j hj).1 (hf j hj).2, ← pair_says (hg j (by omega)).1 (hg j (by omega)).2, q1, q2]
      · rintro ⟨rfl, e2⟩
        refine ⟨by omega, fun i hi => ?_⟩
        rcases Nat.mod_two_eq_zero_or_one i with e | e
        · obtain ⟨j, rfl⟩ : ∃ j, i = 2 * j := ⟨i / 2, by omega⟩
          rw [yvv (k2 j (by omega)).1, yvv (m2 j (by omega)).1, e2 j (by omega)]
        · obtain ⟨j, rfl⟩ : ∃ j, i = 2 * j + 1 := ⟨i / 2, by omega⟩
          rw [yvv (k2 j (by omega)).2, yvv (m2 j (by omega)).2, e2 j (by omega)]
/-- two codings differ: so do the texts -/
theorem Cod.dif {cd cd' : Int32} {n k : Nat} {f g : Nat → Int32} {V V' : Cell} (h : Cod cd n f V) (h' : Cod cd' k g V') (hne : ¬ cd = cd') : ¬ SameT n f k g := by
  rintro ⟨rfl, e⟩
  rcases h with ⟨rfl, -, k2⟩ | ⟨rfl, -, -, j, hj, hw⟩
  · rcases h' with ⟨rfl, -⟩ | ⟨-, -, -, j, hj, hw⟩
    · exact hne rfl
    · exact (k2 j hj).2 (by rw [e j hj]; exact hw)
  · rcases h' with ⟨-, -, m2⟩ | ⟨rfl, -⟩
    · exact (m2 j hj).2 (by rw [← e j hj]; exact hw)
    · exact hne rfl
/-- an object of exactly C is an instance of C -/
theorem cinst {p : Program} {l : Launch} {e : Env} {R : Room} {s : State} {m : MethodId} {args : Array Value} {below : List Frame} {meth : Method} {c : Code} {T : State} {locs : List Loc} {cells slots : Nat} (X : Stand p l e R s m args below meth c T locs cells slots) (hexec : p.tables.exec = Jvm.exec) {own C : String} {index : Nat} (hown : s.vm.findClass own = some m.cls) (hlink : (Cond.classLink own index C).before args s = true) {a : Addr} (hE : Exact C a T)
    {g : JFrame} (hg : g.method = m) {rest : List Value} (hstack : g.stack = .ref a :: rest) (hdg : decode c.code g.pc = .ok (.instanceof index, 3)) :
    ∃ T', Stand p l e R s m args below meth c T' locs cells slots ∧ T'.heap = T.heap ∧ ∀ target, Steps p.tables e below (T'.setTop { g with pc := g.pc + 3, stack := .int 1 :: rest }) target → Steps p.tables e below (T.setTop g) target := by
  obtain ⟨cB, h1, D, h2, h3, h4⟩ := hE
  have h1' : s.vm.findClass C = some cB := by rw [← X.warmed.alike.findClass]; exact h1
  obtain ⟨vm', X', st⟩ := X.instanceofYes hexec hown hlink h2 h4 h1' (by rw [h3]; exact Jvm.Free.SB.assignable_self _ _) hg hstack hdg
  exact ⟨_, X', rfl, st⟩
theorem cself {p : Program} {l : Launch} {e : Env} {R : Room} {s : State} {m : MethodId} {args : Array Value} {below : List Frame} {meth : Method} {c : Code} {T : State} {locs : List Loc} {cells slots : Nat} (X : Stand p l e R s m args below meth c T locs cells slots) (hexec : p.tables.exec = Jvm.exec) {own C : String} {index : Nat} (hown : s.vm.findClass own = some m.cls) (hlink : (Cond.classLink own index C).before args s = true) {a : Addr} (hE : Exact C a T)
    {g : JFrame} (hg : g.method = m) {rest : List Value} (hstack : g.stack = .ref a :: rest) (hdg : decode c.code g.pc = .ok (.checkcast index, 3)) :
    ∃ T', Stand p l e R s m args below meth c T' locs cells slots ∧ T'.heap = T.heap ∧ ∀ target, Steps p.tables e below (T'.setTop { g with pc := g.pc + 3, stack := .ref a :: rest }) target → Steps p.tables e below (T.setTop g) target := by
  obtain ⟨cB, h1, D, h2, h3, h4⟩ := hE
  have h1' : s.vm.findClass C = some cB := by rw [← X.warmed.alike.findClass]; exact h1
  obtain ⟨vm', X', st⟩ := X.checkcastYes hexec hown hlink h2 h4 h1' (by rw [h3]; exact Jvm.Free.SB.assignable_self _ _) hg hstack hdg
  exact ⟨_, X', rfl, fun t h => st t (by rw [← hstack] at h; exact h)⟩
namespace SEq
def yN : MethodName := ⟨"java/lang/String", "equals", "(Ljava/lang/Object;)Z"⟩
abbrev yB : ByteArray := jdk_42_method_66_code
theorem d0 : decode yB 0 = .ok (.aload_n 0, 1) := by decide +kernel
theorem d1 : decode yB 1 = .ok (.aload_n 1, 1) := by decide +kernel
theorem d2 : decode yB 2 = .ok (.if_acmp (.ne) 5, 3) := by decide +kernel
theorem d5 : decode yB 5 = .ok (.iconst 1, 1) := by decide +kernel
theorem d6 : decode yB 6 = .ok (.ireturn, 1) := by decide +kernel
theorem d7 : decode yB 7 = .ok (.aload_n 1, 1) := by decide +kernel
theorem d8 : decode yB 8 = .ok (.instanceof 10, 3) := by decide +kernel
theorem d11 : decode yB 11 = .ok (.ifCond (.eq) 43, 3) := by decide +kernel
theorem d14 : decode yB 14 = .ok (.aload_n 1, 1) := by decide +kernel
theorem d15 : decode yB 15 = .ok (.checkcast 10, 3) := by decide +kernel
theorem d18 : decode yB 18 = .ok (.astore_n 2, 1) := by decide +kernel
theorem d19 : decode yB 19 = .ok (.getstatic 38, 3) := by decide +kernel
theorem d22 : decode yB 22 = .ok (.ifCond (.eq) 14, 3) := by decide +kernel
theorem d25 : decode yB 25 = .ok (.aload_n 0, 1) := by decide +kernel
theorem d26 : decode yB 26 = .ok (.getfield 15, 3) := by decide +kernel
theorem d29 : decode yB 29 = .ok (.aload_n 2, 1) := by decide +kernel
theorem d30 : decode yB 30 = .ok (.getfield 15, 3) := by decide +kernel
theorem d33 : decode yB 33 = .ok (.if_icmp (.ne) 21, 3) := by decide +kernel
theorem d36 : decode yB 36 = .ok (.aload_n 0, 1) := by decide +kernel
theorem d37 : decode yB 37 = .ok (.getfield 9, 3) := by decide +kernel
theorem d40 : decode yB 40 = .ok (.aload_n 2, 1) := by decide +kernel
theorem d41 : decode yB 41 = .ok (.getfield 9, 3) := by decide +kernel
theorem d44 : decode yB 44 = .ok (.invokestatic 541, 3) := by decide +kernel
theorem d47 : decode yB 47 = .ok (.ifCond (.eq) 7, 3) := by decide +kernel
theorem d50 : decode yB 50 = .ok (.iconst 1, 1) := by decide +kernel
theorem d51 : decode yB 51 = .ok (.goto 4, 3) := by decide +kernel
theorem d54 : decode yB 54 = .ok (.iconst 0, 1) := by decide +kernel
theorem d55 : decode yB 55 = .ok (.ireturn, 1) := by decide +kernel
def site : List Cond := [.classLink "java/lang/String" 10 "java/lang/String", .fieldLink "java/lang/String" 38 "java/lang/String" "COMPACT_STRINGS" "Z", .fieldLink "java/lang/String" 15 "java/lang/String" "coder" "B", .fieldLink "java/lang/String" 9 "java/lang/String" "value" "[B", LEq.tab] ++ staticW "java/lang/String" 541 LEq.yN
def tab : Cond := tabOf yN yB 3 (some .boolean) site
def P (x t : Addr) (V : Cell) (cd : Int32) (n : Nat) (f : Nat → Int32) (y t' : Addr) (V' : Cell) (cd' : Int32) (k : Nat) (g : Nat → Int32) (z : Int32) (args : Array Value) (s : State) : Prop := args = #[.ref x, .ref y] ∧ Txt x t V cd n f s ∧ Txt y t' V' cd' k g s ∧ StaticIs s "java/lang/String" "COMPACT_STRINGS" "Z" (.int z) ∧ ¬ z = 0
/-- equals(Object) of two Strings: whether the texts are the same -/
theorem law (l : Launch) (x t : Addr) (V : Cell) (cd : Int32) (n : Nat) (f : Nat → Int32) (y t' : Addr) (V' : Cell) (cd' : Int32) (k : Nat) (g : Nat → Int32) (z : Int32) : Law l yN 2 1 1 14 yB 3 (some .boolean) site (P x t V cd n f y t' V' cd' k g z) (Says01 (SameT n f k g)) [] 0 0 := by
  refine Law.of_walk (plainFor_of_name (by decide +kernel)) (by decide +kernel) (by decide +kernel) (by decide) (fun _ _ h => by rw [h.1]; rfl) (fun _ U U' hal hh h => ⟨h.1, h.2.1.mv hal hh, h.2.2.1.mv hal hh, h.2.2.2.1.there hal hh, h.2.2.2.2⟩) (fun r U U' V V' h1 hal h2 h => Says01.mv r U U' V V' h1 hal h2 h) ?_
  intro p e s m args below meth c s₁ X0 hexec hbytes hml hret hlk hnm hown hh0 W hP
  obtain ⟨rfl, hx, hy, s1, hz⟩ := hP
  have c1 : Steps p.tables e below (s₁.setTop (entryFrame m #[.ref x, .ref y] 3)) (s₁.setTop (mkF m 2 #[.val (.ref x), .val (.ref y), .unset] [.ref y, .ref x])) := Steps.trans (entry rfl) (by
    show Steps p.tables e below (s₁.setTop (mkF m 0 #[.val (.ref x), .val (.ref y), .unset] [])) _
    refine XS.aloadN X0.here hexec rfl (hb hbytes d0) rfl rfl ?_
    refine XS.aloadN X0.here hexec rfl (hb hbytes d1) rfl rfl ?_
    exact Steps.refl _)
  by_cases hxy : x = y
  · have c2 : Steps p.tables e below (s₁.setTop (entryFrame m #[.ref x, .ref y] 3)) (s₁.setTop (mkF m 6 #[.val (.ref x), .val (.ref y), .unset] [.int 1])) := c1.trans (by
      refine acmpNo X0.here hexec rfl (hb hbytes d2) rfl rfl rfl (by simp [acmp, hxy]) ?_
      refine iconstV X0.here hexec rfl 1 (hb hbytes d5) (by decide) ?_
      exact Steps.refl _)
    subst hxy
    have ec : cd = cd' := by
      obtain ⟨D, fd, a1, a2, a3⟩ := hx.2.2.1
      obtain ⟨D', fd', b1, b2, b3⟩ := hy.2.2.1
      cases a1.symm.trans b1
      obtain ⟨q1, q2, q3, q4⟩ := a2.1
      obtain ⟨r1, r2, r3, r4⟩ := b2.1
      cases q4.symm.trans r4
      cases a3.symm.trans b3; rfl
    have et : t = t' := by
      obtain ⟨D, fd, a1, a2, a3⟩ := hx.2.1
      obtain ⟨D', fd', b1, b2, b3⟩ := hy.2.1
      cases a1.symm.trans b1
      obtain ⟨q1, q2, q3, q4⟩ := a2.1
      obtain ⟨r1, r2, r3, r4⟩ := b2.1
      cases q4.symm.trans r4
      cases a3.symm.trans b3; rfl
    subst ec et
    have ev : V = V' := by cases hx.2.2.2.1.1.symm.trans hy.2.2.2.1.1; rfl
    subst ev
    have hs : SameT n f k g := (Cod.eqv hx.2.2.2.2.1 hy.2.2.2.2.1 hx.2.2.2.2.2 hy.2.2.2.2.2).mp ⟨rfl, fun _ _ => rfl⟩
    exact ⟨s₁, some (.int 1), _, _, _, X0, rfl, rfl, rfl, (fun h => by cases h), ⟨1, rfl, hh0, Or.inl ⟨rfl, hs⟩⟩, fun fs hl => c2.trans (X0.ireturnOut hexec hret rfl (Or.inr (Or.inl rfl)) (hb hbytes d6) hl)⟩
  · have c2 : Steps p.tables e below (s₁.setTop (entryFrame m #[.ref x, .ref y] 3)) (s₁.setTop (mkF m 8 #[.val (.ref x), .val (.ref y), .unset] [.ref y])) := c1.trans (by
      refine acmpYes X0.here hexec rfl (pc0 := 2) rfl (hb hbytes d2) rfl rfl rfl (by simp [acmp, hxy]) (by decide) rfl ?_
      refine XS.aloadN X0.here hexec rfl (hb hbytes d7) rfl rfl ?_
      exact Steps.refl _)
    obtain ⟨T3, X3, q3, st3⟩ := cinst X0 hexec hown (wk W (.classLink "java/lang/String" 10 "java/lang/String")) (hy.mv X0.warmed.alike hh0).1 (g := (mkF m 8 #[.val (.ref x), .val (.ref y), .unset] [.ref y])) rfl (rest := []) rfl (hb hbytes d8)
    have hh3 := q3.trans hh0
    have c4 : Steps p.tables e below (s₁.setTop (entryFrame m #[.ref x, .ref y] 3)) (T3.setTop (mkF m 15 #[.val (.ref x), .val (.ref y), .unset] [.ref y])) := (c2.trans (st3 _ (Steps.refl _))).trans (by
      refine XS.ifNo X3.here hexec rfl (hb hbytes d11) rfl (i0_eq_f (by decide)) ?_
      refine XS.aloadN X3.here hexec rfl (hb hbytes d14) rfl rfl ?_
      exact Steps.refl _)
    obtain ⟨T5, X5, q5, st5⟩ := cself X3 hexec hown (wk W (.classLink "java/lang/String" 10 "java/lang/String")) (hy.mv X3.warmed.alike hh3).1 (g := (mkF m 15 #[.val (.ref x), .val (.ref y), .unset] [.ref y])) rfl (rest := []) rfl (hb hbytes d15)
    have hh5 := q5.trans hh3
    have c6 : Steps p.tables e below (s₁.setTop (entryFrame m #[.ref x, .ref y] 3)) (T5.setTop (mkF m 19 #[.val (.ref x), .val (.ref y), .val (.ref y)] [])) := (c4.trans (st5 _ (Steps.refl _))).trans (by
      refine XS.astoreN X5.here hexec rfl (hb hbytes d18) rfl rfl rfl ?_
      exact Steps.refl _)
    obtain ⟨T7, X7, q7, st7⟩ := X5.sget hexec hown (wk W (.fieldLink "java/lang/String" 38 "java/lang/String" "COMPACT_STRINGS" "Z")) s1 (fun _ _ h => by rw [hh5]; exact h) (g := (mkF m 19 #[.val (.ref x), .val (.ref y), .val (.ref y)] [])) rfl (hb hbytes d19)
    have hh7 := q7.trans hh5
    have c8 : Steps p.tables e below (s₁.setTop (entryFrame m #[.ref x, .ref y] 3)) (T7.setTop (mkF m 26 #[.val (.ref x), .val (.ref y), .val (.ref y)] [.ref x])) := (c6.trans (st7 _ (Steps.refl _))).trans (by
      refine XS.ifNo X7.here hexec rfl (hb hbytes d22) rfl (i0_eq_f hz) ?_
      refine XS.aloadN X7.here hexec rfl (hb hbytes d25) rfl rfl ?_
      exact Steps.refl _)
    obtain ⟨T9, X9, q9, st9⟩ := X7.hget hexec hown (wk W (.fieldLink "java/lang/String" 15 "java/lang/String" "coder" "B")) (hx.mv X7.warmed.alike hh7).2.2.1 (g := (mkF m 26 #[.val (.ref x), .val (.ref y), .val (.ref y)] [.ref x])) rfl (rest := []) rfl (hb hbytes d26)
    have hh9 := q9.trans hh7
    have c10 : Steps p.tables e below (s₁.setTop (entryFrame m #[.ref x, .ref y] 3)) (T9.setTop (mkF m 30 #[.val (.ref x), .val (.ref y), .val (.ref y)] [.ref y, .int cd])) := (c8.trans (st9 _ (Steps.refl _))).trans (by
      refine XS.aloadN X9.here hexec rfl (hb hbytes d29) rfl rfl ?_
      exact Steps.refl _)
    obtain ⟨T11, X11, q11, st11⟩ := X9.hget hexec hown (wk W (.fieldLink "java/lang/String" 15 "java/lang/String" "coder" "B")) (hy.mv X9.warmed.alike hh9).2.2.1 (g := (mkF m 30 #[.val (.ref x), .val (.ref y), .val (.ref y)] [.ref y, .int cd])) rfl (rest := [.int cd]) rfl (hb hbytes d30)
    have hh11 := q11.trans hh9
    have c12 : Steps p.tables e below (s₁.setTop (entryFrame m #[.ref x, .ref y] 3)) (T11.setTop (mkF m 33 #[.val (.ref x), .val (.ref y), .val (.ref y)] [.int cd', .int cd])) := c10.trans (st11 _ (Steps.refl _))
    by_cases hcd : cd = cd'
    · subst hcd
      have c13 : Steps p.tables e below (s₁.setTop (entryFrame m #[.ref x, .ref y] 3)) (T11.setTop (mkF m 37 #[.val (.ref x), .val (.ref y), .val (.ref y)] [.ref x])) := c12.trans (by
        refine XS.icmpNo X11.here hexec rfl (hb hbytes d33) rfl (ii_ne_f rfl) ?_
        refine XS.aloadN X11.here hexec rfl (hb hbytes d36) rfl rfl ?_
        exact Steps.refl _)
      obtain ⟨T14, X14, q14, st14⟩ := X11.hget hexec hown (wk W (.fieldLink "java/lang/String" 9 "java/lang/String" "value" "[B")) (hx.mv X11.warmed.alike hh11).2.1 (g := (mkF m 37 #[.val (.ref x), .val (.ref y), .val (.ref y)] [.ref x])) rfl (rest := []) rfl (hb hbytes d37)
      have hh14 := q14.trans hh11
      have c15 : Steps p.tables e below (s₁.setTop (entryFrame m #[.ref x, .ref y] 3)) (T14.setTop (mkF m 41 #[.val (.ref x), .val (.ref y), .val (.ref y)] [.ref y, .ref t])) := (c13.trans (st14 _ (Steps.refl _))).trans (by
        refine XS.aloadN X14.here hexec rfl (hb hbytes d40) rfl rfl ?_
        exact Steps.refl _)
      obtain ⟨T16, X16, q16, st16⟩ := X14.hget hexec hown (wk W (.fieldLink "java/lang/String" 9 "java/lang/String" "value" "[B")) (hy.mv X14.warmed.alike hh14).2.1 (g := (mkF m 41 #[.val (.ref x), .val (.ref y), .val (.ref y)] [.ref y, .ref t])) rfl (rest := [.ref t]) rfl (hb hbytes d41)
      have hh16 := q16.trans hh14
      have c17 : Steps p.tables e below (s₁.setTop (entryFrame m #[.ref x, .ref y] 3)) (T16.setTop (mkF m 44 #[.val (.ref x), .val (.ref y), .val (.ref y)] [.ref t', .ref t])) := c15.trans (st16 _ (Steps.refl _))
      obtain ⟨v18, T18, X18, E18, g18⟩ := X16.callS hexec (LEq.law l t V t' V') hown (wks W (staticW "java/lang/String" 541 LEq.yN)) (wk W LEq.tab) (W := 0) (Nat.le_of_ble_eq_true rfl) (Nat.le_of_ble_eq_true rfl) (Nat.le_refl _) (Nat.le_refl _) (g := (mkF m 44 #[.val (.ref x), .val (.ref y), .val (.ref y)] [.ref t', .ref t])) rfl (by rw [hml]; rfl) c17 (argsL := [.ref t, .ref t']) (rest := []) rfl rfl (by show 2 * 0 + 0 ≤ _; decide) (hb hbytes d44) (⟨rfl, hx.2.2.2.1.mv X16.warmed.alike hh16, hx.2.2.2.2.1.ty, hy.2.2.2.1.mv X16.warmed.alike hh16, hy.2.2.2.2.1.ty⟩)
      obtain ⟨v, rfl, q18, hv⟩ := E18
      have iff := Cod.eqv hx.2.2.2.2.1 hy.2.2.2.2.1 hx.2.2.2.2.2 hy.2.2.2.2.2
      rcases hv with ⟨rfl, he⟩ | ⟨rfl, he⟩
      · have c19 : Steps p.tables e below (s₁.setTop (entryFrame m #[.ref x, .ref y] 3)) (T18.setTop (mkF m 55 #[.val (.ref x), .val (.ref y), .val (.ref y)] [.int 1])) := Steps.trans g18 (by
          refine XS.ifNo X18.here hexec rfl (hb hbytes d47) rfl (i0_eq_f (by decide)) ?_
          refine iconstV X18.here hexec rfl 1 (hb hbytes d50) (by decide) ?_
          refine XS.goto X18.here hexec rfl (pc0 := 51) rfl (hb hbytes d51) (by decide) rfl ?_
          exact Steps.refl _)
        exact ⟨T18, some (.int 1), _, _, _, X18, rfl, rfl, rfl, (fun h => by cases h), ⟨1, rfl, q18.trans hh16, Or.inl ⟨rfl, iff.mp he⟩⟩, fun fs hl => c19.trans (X18.ireturnOut hexec hret rfl (Or.inr (Or.inl rfl)) (hb hbytes d55) hl)⟩
      · have c19 : Steps p.tables e below (s₁.setTop (entryFrame m #[.ref x, .ref y] 3)) (T18.setTop (mkF m 55 #[.val (.ref x), .val (.ref y), .val (.ref y)] [.int 0])) := Steps.trans g18 (by
          refine XS.ifYes X18.here hexec rfl (pc0 := 47) rfl (hb hbytes d47) rfl (i0_eq_t rfl) (by decide) rfl ?_
          refine iconstV X18.here hexec rfl 0 (hb hbytes d54) (by decide) ?_
          exact Steps.refl _)
        exact ⟨T18, some (.int 0), _, _, _, X18, rfl, rfl, rfl, (fun h => by cases h), ⟨0, rfl, q18.trans hh16, Or.inr ⟨rfl, fun q => he (iff.mpr q)⟩⟩, fun fs hl => c19.trans (X18.ireturnOut hexec hret rfl (Or.inr (Or.inl rfl)) (hb hbytes d55) hl)⟩
    · have c13 : Steps p.tables e below (s₁.setTop (entryFrame m #[.ref x, .ref y] 3)) (T11.setTop (mkF m 55 #[.val (.ref x), .val (.ref y), .val (.ref y)] [.int 0])) := c12.trans (by
        refine XS.icmpYes X11.here hexec rfl (pc0 := 33) rfl (hb hbytes d33) rfl (ii_ne_t hcd) (by decide) rfl ?_
        refine iconstV X11.here hexec rfl 0 (hb hbytes d54) (by decide) ?_
        exact Steps.refl _)
      exact ⟨T11, some (.int 0), _, _, _, X11, rfl, rfl, rfl, (fun h => by cases h), ⟨0, rfl, hh11, Or.inr ⟨rfl, Cod.dif hx.2.2.2.2.1 hy.2.2.2.2.1 hcd⟩⟩, fun fs hl => c13.trans (X11.ireturnOut hexec hret rfl (Or.inr (Or.inl rfl)) (hb hbytes d55) hl)⟩
theorem pays {l : Launch} {R : Room} {p : Program} {e : Env} {below : List Frame} {s : State} {sargs : Array Value} {len W : Nat} (x t : Addr) (V : Cell) (cd : Int32) (n : Nat) (f : Nat → Int32) (y t' : Addr) (V' : Cell) (cd' : Int32) (k : Nat) (g : Nat → Int32) (z : Int32) (htab : tab.before sargs s = true) (hfr : 2 ≤ R.frames) (hlo : W + 28 ≤ R.locals) :
    Back l R p e below s sargs yN len W (fun A₁ a₁ => A₁.cells + 0 ≤ R.cells ∧ A₁.slots + 0 ≤ R.slots ∧ P x t V cd n f y t' V' cd' k g z a₁ A₁.U) (fun A₁ _ v₁ B₁ => Says01 (SameT n f k g) v₁ A₁.U B₁.U ∧ B₁.locs = A₁.locs ++ [] ∧ B₁.cells = A₁.cells + 0 ∧ B₁.slots = A₁.slots + 0) :=
  (law l x t V cd n f y t' V' cd' k g z).pays htab hfr (by omega)
end SEq
end StrChars
namespace StrChars.Road
open Jvm Sem ClassFile Op Lib Jvm.Stand Jvm.Free Jvm.Free.XT
open Jvm.Lib.Cold (StaticIs)
/-- the words of String.equals(Object) -/
abbrev wordsEq : List Jvm.Cond := [.code SEq.yN SEq.yB 3 (some .boolean), .initialized ST, .classLink ST 10 ST, .fieldLink ST 38 ST "COMPACT_STRINGS" "Z", .fieldLink ST 15 ST "coder" "B", .fieldLink ST 9 ST "value" "[B", .methodLink ST 541 LEq.yN, .static LEq.yN, .code LEq.yN LEq.yB 3 (some .boolean), .initialized "java/lang/StringLatin1"]
theorem tabEq_of {a : Array Value} {s : State} (h : ∀ w ∈ wordsEq, w.before a s = true) : SEq.tab.before a s = true := by
  have hl : LEq.tab.before a s = true := unparts (wk h (.code LEq.yN LEq.yB 3 (some .boolean))) (wks h (.initialized LEq.yN.cls :: LEq.site))
  have q := consq hl h
  exact unparts (wk q (.code SEq.yN SEq.yB 3 (some .boolean))) (wks q (.initialized SEq.yN.cls :: SEq.site))
theorem movedEq {Z s : State} {a0 args : Array Value} (hZ : Z.Warmed39 s.vm) (hw : ∀ d ∈ wordsEq, d.before a0 Z = true) : ∀ d ∈ wordsEq, d.before args s = true := fun d hd => by
  have t : ∀ d ∈ wordsEq, (d.onTables && d.keepsFace) = true := by decide +kernel
  exact RoadKit.mv hZ (hw d hd) (t d hd)
/-- the road's facts of a String, as the laws ask it -/
theorem txt_of {Z U : State} {a0 : Array Value} {kI : Nat} (wi : (Jvm.Cond.instantiable ST kI).before a0 Z = true) (al : Z.vm.Alike U.vm) {x t : Addr} {kb : ClassId} {cs : List Int32} {cd N2 : Int32} {vs : List Value} (E : RoadKit.Exa Z U.heap x ST) (V : RoadKit.Fld Z U.heap x ST "value" "[B" (.ref t)) (C : RoadKit.Fld Z U.heap x ST "coder" "B" (.int cd)) (K : RoadKit.Arv Z U.heap t kb .byte N2 vs (.int 0)) (hc : CodA cs cd N2 vs) (hb : ∀ c ∈ cs, ¬ c < 0 ∧ ¬ (65535 : Int32) < c) (l2 : cs.length ≤ 4000) :
    ∃ A, Txt x t A cd cs.length (fun j => cs.getD j 0) U := by
  obtain ⟨A, K1, K2, K3, K4, K5, K6⟩ := K
  have hcod := hc.cod (by omega) K3 K5
  obtain ⟨D, fV, fC, hB, F1, F2, g1, g2, -, -⟩ := strObj wi al E V C
  exact ⟨A, ⟨_, hB.2.2.1, D, hB.1, rfl, by cases q : D.vm <;> first | rfl | exact absurd q (hB.2.1.2 _)⟩, Has.of hB F1 g1, Has.of hB F2 g2, ⟨K1.1, State.isArrayOf_alike al K1.2.1, K1.2.2, by rcases hcod with ⟨-, q, -⟩ | ⟨-, q, -⟩ <;> omega⟩, hcod, fun j hj => by
    have e : cs.getD j 0 = cs[j] := by simp [List.getD_eq_getElem?_getD, hj]
    show ¬ cs.getD j 0 < 0 ∧ ¬ 65535 < cs.getD j 0
    rw [e]; exact hb _ (List.getElem_mem _)⟩
theorem same_list (cs ds : List Int32) : SameT cs.length (fun j => cs.getD j 0) ds.length (fun j => ds.getD j 0) ↔ cs = ds := by
  constructor
  · rintro ⟨e, q⟩
    refine List.ext_getElem e fun j h1 h2 => ?_
    have := q j h1
    simpa [List.getD_eq_getElem?_getD, h1, h2] using this
  · rintro rfl
    exact ⟨rfl, fun _ _ => rfl⟩
/-- **equals(Object) OF TWO SUCH STRINGS**: 1 just where the chars are the same -/
theorem eqW {p : Program} {l : Launch} {e : Env} {R : Room} {s : State} {args : Array Value} {below : List Frame} {len W : Nat} {Z : State} {a0 : Array Value} {h : Heap} (hZ : Z.Warmed39 s.vm) (hw : ∀ d ∈ wordsEq, d.before a0 Z = true) {kI : Nat} (wi : (Jvm.Cond.instantiable ST kI).before a0 Z = true)
    {x t : Addr} {kb : ClassId} {cs : List Int32} {cd N2 : Int32} {vs : List Value} (E : RoadKit.Exa Z h x ST) (V : RoadKit.Fld Z h x ST "value" "[B" (.ref t)) (C : RoadKit.Fld Z h x ST "coder" "B" (.int cd)) (K : RoadKit.Arv Z h t kb .byte N2 vs (.int 0)) (hc : CodA cs cd N2 vs) (hb : ∀ c ∈ cs, ¬ c < 0 ∧ ¬ (65535 : Int32) < c) (l2 : cs.length ≤ 4000)
    {y t' : Addr} {kb' : ClassId} {ds : List Int32} {cd' N2' : Int32} {vs' : List Value} (E' : RoadKit.Exa Z h y ST) (V' : RoadKit.Fld Z h y ST "value" "[B" (.ref t')) (C' : RoadKit.Fld Z h y ST "coder" "B" (.int cd')) (K' : RoadKit.Arv Z h t' kb' .byte N2' vs' (.int 0)) (hc' : CodA ds cd' N2' vs') (hb' : ∀ c ∈ ds, ¬ c < 0 ∧ ¬ (65535 : Int32) < c) (l2' : ds.length ≤ 4000)
    {z : Int32} (S : RoadKit.Sta Z h ST "COMPACT_STRINGS" "Z" (.int z)) (hz : ¬ z = 0) (hfr : 2 ≤ R.frames) (hlo : W + 28 ≤ R.locals) :
    Back l R p e below s args (⟨"java/lang/String", "equals", "(Ljava/lang/Object;)Z"⟩ : MethodName) len W (fun P a => a = #[.ref x, .ref y] ∧ P.U.heap = h ∧ P.cells + 0 ≤ R.cells ∧ P.slots + 0 ≤ R.slots)
      (fun P _ v B => ∃ L, (((v = some (.int 1) ∧ cs = ds) ∨ (v = some (.int 0) ∧ ¬ cs = ds)) ∧ L = [] ∧ B.U.heap = h) ∧ B.locs = P.locs ++ L ∧ B.cells = P.cells + 0 ∧ B.slots = P.slots + 0) := by
  intro m meth c P g ig mk a X hg hsize hdg hW hn hp'
  obtain ⟨rfl, rfl, r1, r2⟩ := hp'
  have al : Z.vm.Alike P.U.vm := hZ.alike.trans X.warmed.alike
  obtain ⟨A, hx⟩ := txt_of wi al E V C K hc hb l2
  obtain ⟨A', hy⟩ := txt_of wi al E' V' C' K' hc' hb' l2'
  obtain ⟨v, B, X', ⟨⟨w, hv, hh, hq⟩, hl, hk, hs⟩, st⟩ := SEq.pays x t A cd cs.length (fun j => cs.getD j 0) y t' A' cd' ds.length (fun j => ds.getD j 0) z (tabEq_of (movedEq hZ hw)) hfr hlo m meth c P g ig mk _ X hg hsize hdg hW hn ⟨r1, r2, rfl, hx, hy, sta_is al S, hz⟩
  refine ⟨v, B, X', ⟨[], ⟨?_, rfl, hh⟩, hl, hk, hs⟩, st⟩
  rcases hq with ⟨rfl, q⟩ | ⟨rfl, q⟩
  · exact Or.inl ⟨hv, (same_list cs ds).mp q⟩
  · exact Or.inr ⟨hv, fun e => q ((same_list cs ds).mpr e)⟩
end StrChars.Road
namespace StrChars.Road
open Jvm Sem ClassFile Op Lib Jvm.Stand Jvm.Free Jvm.Free.XT
open Jvm.Lib.Cold (StaticIs)
/-- what backV says of its String, as the contracts of this text ask it: cs's low bytes, coder 0 -/
theorem codOf {cs : List Int32} {n : Nat} (hn : cs.length = n) (hb : ∀ c ∈ cs, ¬ 255 < c) : CodA cs 0 (Int32.ofNat n) ((cs.map lo8).map Value.int) := Or.inl ⟨rfl, by rw [hn], by simp [List.map_map, Function.comp_def], hb⟩
end StrChars.Road
end Jvm.Pilot.@@N@@
namespace Jvm.OwnKit
open Sem ClassFile Op Lib Bundle Jvm.Stand Jvm.Free Jvm.LawKit Jvm.RoadKit
section K
variable {p : Program} {l : Launch} {e : Env} {R : Room} {s : State} {m : MethodId} {args : Array Value} {below : List Frame} {meth : Method} {c : Code} {Z : State} {a0 : Array Value} {EL : List (String × Nat)} {n0 : Nat} {own : String} {vm0 vm1 : Vm} {T T' : State} {h h' : Heap} {L L' : List Loc} {k n k' n' : Nat} {ss : List Addr} {P : Outcome → State → Prop} {U V : State} {pc : Nat} {Ls : Array Slot} {rest : List Value}
/-- what is left of a walk that stands at U: it ends, and P holds of its end -/
def Go (p : Program) (e : Env) (below : List Frame) (P : Outcome → State → Prop) (U : State) : Prop := ∃ s₂ o, Steps p.tables e below U s₂ ∧ s₂.status = .running ∧ Ended s₂ below o ∧ P o s₂
theorem Go.st (st : ∀ target, Steps p.tables e below V target → Steps p.tables e below U target) (G : Go p e below P V) : Go p e below P U := by
  obtain ⟨s₂, o, h1, r⟩ := G
  exact ⟨s₂, o, st _ h1, r⟩
theorem Go.tr (st : Steps p.tables e below U V) (G : Go p e below P V) : Go p e below P U := by
  obtain ⟨s₂, o, h1, r⟩ := G
  exact ⟨s₂, o, st.trans h1, r⟩
/-- none of these cells is a booked literal's -/
def Saf (Z : State) (EL : List (String × Nat)) (vm : Vm) (h : Heap) (ss : List Addr) : Prop := ∀ x ∈ ss, Safe Z EL vm h x ∧ x < h.size
theorem Saf.chr (S : Saf Z EL vm0 h ss) (A : CHr Z EL vm0 h vm1 h') : Saf Z EL vm1 h' ss := fun x hx => ⟨A.safe (S x hx).2 (S x hx).1, Nat.lt_of_lt_of_le (S x hx).2 A.2.1⟩
/-- where a walk stands that may load literals: the tables vm0, the state T, its heap h, what it has written and made -/
def Wk (p : Program) (l : Launch) (e : Env) (R : Room) (s : State) (m : MethodId) (args : Array Value) (below : List Frame) (meth : Method) (c : Code) (Z : State) (a0 : Array Value) (EL : List (String × Nat)) (n0 : Nat) (own : String) (vm0 : Vm) (T : State) (h : Heap) (L : List Loc) (k n : Nat) (ss : List Addr) : Prop :=
  Stand p l e R (s.setVm vm0) m args below meth c T L k n ∧ T.heap = h ∧ (∃ j, s.Since vm0 j ∧ j ≤ h.size) ∧ Z.Warmed39 vm0 ∧ vm0.findClass own = some m.cls ∧ CHr Z EL s.vm s.heap vm0 h ∧ Fr n0 L ∧ Old Z n0 h ∧ Saf Z EL vm0 h ss ∧ p.tables.exec = Jvm.exec ∧ EW Z a0 EL ∧ meth.locks = false
theorem Wk.X (W : Wk p l e R s m args below meth c Z a0 EL n0 own vm0 T h L k n ss) : Stand p l e R (s.setVm vm0) m args below meth c T L k n := W.1
theorem Wk.hp (W : Wk p l e R s m args below meth c Z a0 EL n0 own vm0 T h L k n ss) : T.heap = h := W.2.1
theorem Wk.sc (W : Wk p l e R s m args below meth c Z a0 EL n0 own vm0 T h L k n ss) : ∃ j, s.Since vm0 j ∧ j ≤ h.size := W.2.2.1
theorem Wk.hZ (W : Wk p l e R s m args below meth c Z a0 EL n0 own vm0 T h L k n ss) : Z.Warmed39 (s.setVm vm0).vm := W.2.2.2.1
theorem Wk.ho (W : Wk p l e R s m args below meth c Z a0 EL n0 own vm0 T h L k n ss) : (s.setVm vm0).vm.findClass own = some m.cls := W.2.2.2.2.1
theorem Wk.cr (W : Wk p l e R s m args below meth c Z a0 EL n0 own vm0 T h L k n ss) : CHr Z EL s.vm s.heap vm0 h := W.2.2.2.2.2.1
theorem Wk.cv (W : Wk p l e R s m args below meth c Z a0 EL n0 own vm0 T h L k n ss) : CHv Z EL vm0 h := W.cr.1
theorem Wk.fr (W : Wk p l e R s m args below meth c Z a0 EL n0 own vm0 T h L k n ss) : Fr n0 L := W.2.2.2.2.2.2.1
theorem Wk.old (W : Wk p l e R s m args below meth c Z a0 EL n0 own vm0 T h L k n ss) : Old Z n0 h := W.2.2.2.2.2.2.2.1
theorem Wk.sf (W : Wk p l e R s m args below meth c Z a0 EL n0 own vm0 T h L k n ss) : Saf Z EL vm0 h ss := W.2.2.2.2.2.2.2.2.1
theorem Wk.ex (W : Wk p l e R s m args below meth c Z a0 EL n0 own vm0 T h L k n ss) : p.tables.exec = Jvm.exec := W.2.2.2.2.2.2.2.2.2.1
theorem Wk.ew (W : Wk p l e R s m args below meth c Z a0 EL n0 own vm0 T h L k n ss) : EW Z a0 EL := W.2.2.2.2.2.2.2.2.2.2.1
theorem Wk.nl (W : Wk p l e R s m args below meth c Z a0 EL n0 own vm0 T h L k n ss) : meth.locks = false := W.2.2.2.2.2.2.2.2.2.2.2
theorem Wk.here (W : Wk p l e R s m args below meth c Z a0 EL n0 own vm0 T h L k n ss) : At T m c below := W.1.here
theorem Wk.n0le (W : Wk p l e R s m args below meth c Z a0 EL n0 own vm0 T h L k n ss) : n0 ≤ h.size := by have := W.old.2.1; rw [W.old.1] at this; exact this
/-- the case's start's heap stands in the heap at hand -/
theorem Wk.e0 (W : Wk p l e R s m args below meth c Z a0 EL n0 own vm0 T h L k n ss) : Ext Z.heap h := W.old.2
theorem Wk.same (W : Wk p l e R s m args below meth c Z a0 EL n0 own vm0 T h L k n ss) (X : Stand p l e R (s.setVm vm0) m args below meth c T' L k' n') (q : T'.heap = h) : Wk p l e R s m args below meth c Z a0 EL n0 own vm0 T' h L k' n' ss :=
  ⟨X, q, W.2.2⟩
theorem Wk.step (W : Wk p l e R s m args below meth c Z a0 EL n0 own vm0 T h L k n ss) (X : Stand p l e R (s.setVm vm1) m args below meth c T' L' k' n') (q : T'.heap = h') (S : ∃ j, s.Since vm1 j ∧ j ≤ h'.size) (hZ : Z.Warmed39 vm1) (ho : vm1.findClass own = some m.cls) (A : CHr Z EL vm0 h vm1 h') (F : Fr n0 L') (O : Old Z n0 h') : Wk p l e R s m args below meth c Z a0 EL n0 own vm1 T' h' L' k' n' ss :=
  ⟨X, q, S, hZ, ho, W.cr.trans A, F, O, W.sf.chr A, W.ex, W.ew, W.nl⟩
theorem Wk.stepE (W : Wk p l e R s m args below meth c Z a0 EL n0 own vm0 T h L k n ss) (X : Stand p l e R (s.setVm vm0) m args below meth c T' L k' n') (q : T'.heap = h') (E : Ext h h') : Wk p l e R s m args below meth c Z a0 EL n0 own vm0 T' h' L k' n' ss := by
  obtain ⟨j, S, hj⟩ := W.sc
  exact W.step X q ⟨j, S, Nat.le_trans hj E.1⟩ W.hZ W.ho (CHr.ext E W.cv) W.fr (W.old.ext E)
theorem Wk.stepK (W : Wk p l e R s m args below meth c Z a0 EL n0 own vm0 T h L k n ss) (X : Stand p l e R (s.setVm vm0) m args below meth c T' L' k' n') (q : T'.heap = h') {ws : List Addr} (K : Keep h h' ws) (hs : ∀ x ∈ ws, x ∈ ss) (hn : ∀ x ∈ ws, n0 ≤ x) (F : Fr n0 L') : Wk p l e R s m args below meth c Z a0 EL n0 own vm0 T' h' L' k' n' ss := by
  obtain ⟨j, S, hj⟩ := W.sc
  exact W.step X q ⟨j, S, Nat.le_trans hj K.1⟩ W.hZ W.ho (CHr.keep K (fun x hx => (W.sf x (hs x hx)).1) W.cv) F (W.old.keep K hn)
theorem Wk.stepW (W : Wk p l e R s m args below meth c Z a0 EL n0 own vm0 T h L k n ss) {a : Addr} {sl : Nat} {v : Value} (X : Stand p l e R (s.setVm vm0) m args below meth c T' (L ++ [⟨a, sl⟩]) k' n') (q : T'.heap = h') (Wr : Wr h h' a sl v) (hs : a ∈ ss) (hn : n0 ≤ a) : Wk p l e R s m args below meth c Z a0 EL n0 own vm0 T' h' (L ++ [⟨a, sl⟩]) k' n' ss :=
  W.stepK X q (Keep.of_wr Wr) (allS hs all0) (allS hn all0) (Fr.snoc X W.fr hn)
theorem Wk.cons (W : Wk p l e R s m args below meth c Z a0 EL n0 own vm0 T h L k n ss) {x : Addr} (S : Safe Z EL vm0 h x) (hx : x < h.size) : Wk p l e R s m args below meth c Z a0 EL n0 own vm0 T h L k n (x :: ss) :=
  ⟨W.X, W.hp, W.sc, W.hZ, W.ho, W.cr, W.fr, W.old, allS (P := fun x => Safe Z EL vm0 h x ∧ x < h.size) ⟨S, hx⟩ W.sf, W.ex, W.ew, W.nl⟩
theorem Wk.more (W : Wk p l e R s m args below meth c Z a0 EL n0 own vm0 T h L k n ss) (hk : k ≤ k') (hn : n ≤ n') : Wk p l e R s m args below meth c Z a0 EL n0 own vm0 T h L k' n' ss := ⟨W.1.more hk hn, W.2⟩
theorem Wk.sub {ss' : List Addr} (W : Wk p l e R s m args below meth c Z a0 EL n0 own vm0 T h L k n ss) (q : ∀ x ∈ ss', x ∈ ss) : Wk p l e R s m args below meth c Z a0 EL n0 own vm0 T h L k n ss' :=
  ⟨W.X, W.hp, W.sc, W.hZ, W.ho, W.cr, W.fr, W.old, fun x hx => W.sf x (q x hx), W.ex, W.ew, W.nl⟩
/-- where roads meet -/
theorem Wk.meet (W : Wk p l e R s m args below meth c Z a0 EL n0 own vm0 T h L k n ss) (hk : k ≤ k') (hn : n ≤ n') : Wk p l e R s m args below meth c Z a0 EL n0 own vm0 T h L k' n' [] := (W.more hk hn).sub all0
theorem Wk.consA (W : Wk p l e R s m args below meth c Z a0 EL n0 own vm0 T h L k n ss) {a : Addr} {kA : ClassId} {ty : FieldType} {z : Int32} {vs : List Value} {dv : Value} (F : Arv Z h a kA ty z vs dv) (ht : ty ≠ .byte) : Wk p l e R s m args below meth c Z a0 EL n0 own vm0 T h L k n (a :: ss) := by
  obtain ⟨cl, A, -⟩ := F
  exact W.cons (Safe.arr W.hZ.alike A ht) A.lt
theorem Wk.consE (W : Wk p l e R s m args below meth c Z a0 EL n0 own vm0 T h L k n ss) {a : Addr} {C : String} (E : Exa Z h a C) (h1 : C ≠ "java/lang/String") (h2 : C ≠ "[B") : Wk p l e R s m args below meth c Z a0 EL n0 own vm0 T h L k n (a :: ss) := W.cons (Safe.exa W.hZ.alike E h1 h2) E.lt
/-! one step each -/
theorem Wk.getF (W : Wk p l e R s m args below meth c Z a0 EL n0 own vm0 T h L k n ss) {R0 O nm d : String} {index : Nat} (w : (Cond.fieldLink own index R0 nm d).before a0 Z = true) (via : Via Z R0 O nm d) {a : Addr} {v : Value} (F : Fld Z h a O nm d v) (hd : decode c.code pc = .ok (.getfield index, 3))
    (K : ∀ T', Wk p l e R s m args below meth c Z a0 EL n0 own vm0 T' h L k n ss → Go p e below P (T'.setTop (mkF m (pc + 3) Ls (v :: rest)))) : Go p e below P (T.setTop (mkF m pc Ls (.ref a :: rest))) := by
  obtain ⟨T', X', e', st⟩ := RoadKit.getF W.X W.ex W.hZ W.ho (host := "") (Or.inl w) via W.hp F (g := mkF m pc Ls (.ref a :: rest)) rfl rfl hd
  exact Go.st st (K T' (W.same X' e'))
theorem Wk.getFN (W : Wk p l e R s m args below meth c Z a0 EL n0 own vm0 T h L k n ss) {R0 O nm d host : String} {index : Nat} (w : (Cond.fieldLinkNest own index R0 nm d host).before a0 Z = true) (via : Via Z R0 O nm d) {a : Addr} {v : Value} (F : Fld Z h a O nm d v) (hd : decode c.code pc = .ok (.getfield index, 3))
    (K : ∀ T', Wk p l e R s m args below meth c Z a0 EL n0 own vm0 T' h L k n ss → Go p e below P (T'.setTop (mkF m (pc + 3) Ls (v :: rest)))) : Go p e below P (T.setTop (mkF m pc Ls (.ref a :: rest))) := by
  obtain ⟨T', X', e', st⟩ := RoadKit.getF W.X W.ex W.hZ W.ho (Or.inr w) via W.hp F (g := mkF m pc Ls (.ref a :: rest)) rfl rfl hd
  exact Go.st st (K T' (W.same X' e'))
theorem Wk.getS (W : Wk p l e R s m args below meth c Z a0 EL n0 own vm0 T h L k n ss) {R0 O nm d : String} {index : Nat} (w : (Cond.fieldLink own index R0 nm d).before a0 Z = true) (via : Via Z R0 O nm d) {v : Value} (F : Sta Z h O nm d v) (hd : decode c.code pc = .ok (.getstatic index, 3))
    (K : ∀ T', Wk p l e R s m args below meth c Z a0 EL n0 own vm0 T' h L k n ss → Go p e below P (T'.setTop (mkF m (pc + 3) Ls (v :: rest)))) : Go p e below P (T.setTop (mkF m pc Ls rest)) := by
  obtain ⟨T', X', e', st⟩ := RoadKit.getS2 W.X W.ex W.hZ W.ho (host := "") (Or.inl w) via W.hp F (g := mkF m pc Ls rest) rfl hd
  exact Go.st st (K T' (W.same X' e'))
theorem Wk.putF (W : Wk p l e R s m args below meth c Z a0 EL n0 own vm0 T h L k n ss) {R0 O nm d C : String} {index kk : Nat} {ty : FieldType} (w : (Cond.fieldLink own index R0 nm d).before a0 Z = true) (via : Via Z R0 O nm d) {a : Addr} {v old : Value} (F : Fld Z h a O nm d old) (E : Exa Z h a C) (La : (Cond.lays C O nm d).before a0 Z = true ∨ ((Cond.laysFinal C O nm d).before a0 Z = true ∧ own = O ∧ meth.name = "<init>")) (wi : (Cond.instantiable C kk).before a0 Z = true)
    (hty : parseFieldDescriptor d = some ty) (hn : narrow ty v = v) (hf : fits ty v = true) (hs : a ∈ ss) (ha : n0 ≤ a) (hd : decode c.code pc = .ok (.putfield index, 3))
    (K : ∀ T' h' L', Wk p l e R s m args below meth c Z a0 EL n0 own vm0 T' h' L' k n ss → Wr h h' a (RoadKit.slotOf Z O nm d) v → Go p e below P (T'.setTop (mkF m (pc + 3) Ls rest))) : Go p e below P (T.setTop (mkF m pc Ls (v :: .ref a :: rest))) := by
  obtain ⟨T', h', X', e', w', st⟩ := RoadKit.putF W.X W.ex W.hZ W.ho (host := "") (Or.inl w) via W.hp F E La wi hty hn hf (g := mkF m pc Ls (v :: .ref a :: rest)) rfl rfl hd
  exact Go.st st (K T' h' _ (W.stepW X' e' w' hs ha) w')
theorem Wk.putFN (W : Wk p l e R s m args below meth c Z a0 EL n0 own vm0 T h L k n ss) {R0 O nm d C : String} {index kk : Nat} {ty : FieldType} (w : (Cond.fieldLink own index R0 nm d).before a0 Z = true) (via : Via Z R0 O nm d) {a : Addr} {v v' old : Value} (F : Fld Z h a O nm d old) (E : Exa Z h a C) (La : (Cond.lays C O nm d).before a0 Z = true ∨ ((Cond.laysFinal C O nm d).before a0 Z = true ∧ own = O ∧ meth.name = "<init>")) (wi : (Cond.instantiable C kk).before a0 Z = true)
    (hty : parseFieldDescriptor d = some ty) (hn : narrow ty v = v') (hf : fits ty v' = true) (hs : a ∈ ss) (ha : n0 ≤ a) (hd : decode c.code pc = .ok (.putfield index, 3))
    (K : ∀ T' h' L', Wk p l e R s m args below meth c Z a0 EL n0 own vm0 T' h' L' k n ss → Wr h h' a (RoadKit.slotOf Z O nm d) v' → Go p e below P (T'.setTop (mkF m (pc + 3) Ls rest))) : Go p e below P (T.setTop (mkF m pc Ls (v :: .ref a :: rest))) := by
  obtain ⟨T', h', X', e', w', st⟩ := RoadKit.putFN W.X W.ex W.hZ W.ho w via W.hp F E La wi hty hn hf (g := mkF m pc Ls (v :: .ref a :: rest)) rfl rfl hd
  exact Go.st st (K T' h' _ (W.stepW X' e' w' hs ha) w')
theorem Wk.newO (W : Wk p l e R s m args below meth c Z a0 EL n0 own vm0 T h L k n ss) {C : String} {index j : Nat} (w : (Cond.classLink own index C).before a0 Z = true) (wi : (Cond.instantiable C j).before a0 Z = true) (wz : (Cond.initialized C).before a0 Z = true) (hd : decode c.code pc = .ok (.new index, 3)) (hk : k + 1 = k') (hn : n + j = n') (hc : k' ≤ R.cells) (hl : n' ≤ R.slots)
    (K : ∀ T' h' b, b = h.size → n0 ≤ b → Wk p l e R s m args below meth c Z a0 EL n0 own vm0 T' h' L k' n' (b :: ss) → Ext h h' → Exa Z h' b C → (∀ {O nm d : String} {ty : FieldType}, Laid Z a0 C O nm d → parseFieldDescriptor d = some ty → Fld Z h' b O nm d (defaultValue ty)) → Go p e below P (T'.setTop (mkF m (pc + 3) Ls (.ref b :: rest)))) : Go p e below P (T.setTop (mkF m pc Ls rest)) := by
  subst hk hn
  obtain ⟨T', h', X', e', E, A, D, -, st⟩ := RoadKit.newO W.X W.ex W.hZ W.ho w wi wz W.hp (g := mkF m pc Ls rest) rfl hd hc hl
  have W' := W.stepE X' e' E
  exact Go.st st (K T' h' _ rfl W.n0le (W'.cons ((Safe.new (Nat.le_refl _)).ext E W.cv) A.lt) E A D)
theorem Wk.newP (W : Wk p l e R s m args below meth c Z a0 EL n0 own vm0 T h L k n ss) {aty : ArrayType} {ty : FieldType} {dv : Value} (hty : newarray.typeOf aty = ty) (hdv : defaultValue ty = dv) (w : (Cond.arrayClass ty).before a0 Z = true) (hd : decode c.code pc = .ok (.newarray aty, 2)) {z : Int32} (hz : ¬ z < 0) {cap : Nat} (hcap : z.toNatClampNeg ≤ cap) (hb : cap * 8 ≤ 536870912) (hk : k + 1 = k') (hn : n + cap = n') (hc : k' ≤ R.cells) (hl : n' ≤ R.slots)
    (K : ∀ T' h' b kA, b = h.size → n0 ≤ b → Wk p l e R s m args below meth c Z a0 EL n0 own vm0 T' h' L k' n' (b :: ss) → Ext h h' → Arv Z h' b kA ty z (List.replicate cap dv) dv → Go p e below P (T'.setTop (mkF m (pc + 2) Ls (.ref b :: rest)))) : Go p e below P (T.setTop (mkF m pc Ls (.int z :: rest))) := by
  subst hk hn hty hdv
  obtain ⟨T', h', cA, X', e', E, A, st⟩ := RoadKit.newP W.X W.ex W.hZ w W.hp (g := mkF m pc Ls (.int z :: rest)) rfl hd rfl hz hcap hb hc hl
  have W' := W.stepE X' e' E
  exact Go.st st (K T' h' _ cA rfl W.n0le (W'.cons ((Safe.new (Nat.le_refl _)).ext E W.cv) A.lt) E ((Arv.new A hz).pad (pad_rep [] _ cap)))
theorem Wk.alen (W : Wk p l e R s m args below meth c Z a0 EL n0 own vm0 T h L k n ss) {a : Addr} {kA : ClassId} {ty : FieldType} {z : Int32} {vs : List Value} {dv : Value} (F : Arv Z h a kA ty z vs dv) (hd : decode c.code pc = .ok (.arraylength, 1)) (G : Go p e below P (T.setTop (mkF m (pc + 1) Ls (.int z :: rest)))) : Go p e below P (T.setTop (mkF m pc Ls (.ref a :: rest))) := by
  obtain ⟨cl, A, q1, S, N, H, Gs⟩ := F
  rw [← len_of S N] at G
  exact Go.st (fun t => W.X.arraylength W.ex (by rw [W.hp]; exact A.1) (State.isArrayOf_alike W.hZ.alike A.2.1) (g := mkF m pc Ls (.ref a :: rest)) rfl rfl hd t) G
theorem inb {cl : Cell} {z j : Int32} (S : cl.slots.size = z.toNatClampNeg) (q : ¬ j < 0 ∧ j < z) : ¬ (j < 0 ∨ cl.slots.size ≤ j.toNatClampNeg) := inb_of S q
theorem Wk.ldC (W : Wk p l e R s m args below meth c Z a0 EL n0 own vm0 T h L k n ss) {a : Addr} {kA : ClassId} {z j : Int32} {vs : List Value} {dv v : Value} (F : Arv Z h a kA .char z vs dv) (q : ¬ j < 0 ∧ j < z) (hv : vs.getD j.toNatClampNeg dv = v) (hd : decode c.code pc = .ok (.caload, 1)) (G : Go p e below P (T.setTop (mkF m (pc + 1) Ls (v :: rest)))) : Go p e below P (T.setTop (mkF m pc Ls (.int j :: .ref a :: rest))) := by
  obtain ⟨cl, A, q1, S, N, H, Gs⟩ := F
  exact Go.st (fun t => W.X.caload W.ex (by rw [W.hp]; exact A.1) (State.isArrayOf_alike W.hZ.alike A.2.1) A.2.2 (inb S q) (H.at (inb S q) hv) (g := mkF m pc Ls (.int j :: .ref a :: rest)) rfl rfl hd t) G
theorem Wk.ldB (W : Wk p l e R s m args below meth c Z a0 EL n0 own vm0 T h L k n ss) {a : Addr} {kA : ClassId} {z j : Int32} {vs : List Value} {dv v : Value} (F : Arv Z h a kA .byte z vs dv) (q : ¬ j < 0 ∧ j < z) (hv : vs.getD j.toNatClampNeg dv = v) (hd : decode c.code pc = .ok (.baload, 1)) (G : Go p e below P (T.setTop (mkF m (pc + 1) Ls (v :: rest)))) : Go p e below P (T.setTop (mkF m pc Ls (.int j :: .ref a :: rest))) := by
  obtain ⟨cl, A, q1, S, N, H, Gs⟩ := F
  exact Go.st (fun t => W.X.baloadBytes W.ex (by rw [W.hp]; exact A.1) (State.isArrayOf_alike W.hZ.alike A.2.1) A.2.2 (inb S q) (H.at (inb S q) hv) (g := mkF m pc Ls (.int j :: .ref a :: rest)) rfl rfl hd t) G
theorem Wk.ldA (W : Wk p l e R s m args below meth c Z a0 EL n0 own vm0 T h L k n ss) {a : Addr} {kA : ClassId} {ty : FieldType} {z j : Int32} {vs : List Value} {dv v : Value} (F : Arv Z h a kA ty z vs dv) (hty : ty.isReference = true) (q : ¬ j < 0 ∧ j < z) (hv : vs.getD j.toNatClampNeg dv = v) (hd : decode c.code pc = .ok (.aaload, 1)) (G : Go p e below P (T.setTop (mkF m (pc + 1) Ls (v :: rest)))) : Go p e below P (T.setTop (mkF m pc Ls (.int j :: .ref a :: rest))) := by
  obtain ⟨cl, A, q1, S, N, H, Gs⟩ := F
  exact Go.st (fun t => W.X.aaload W.ex (by rw [W.hp]; exact A.1) (State.isArrayOf_alike W.hZ.alike A.2.1) hty A.2.2 (inb S q) (H.at (inb S q) hv) (g := mkF m pc Ls (.int j :: .ref a :: rest)) rfl rfl hd t) G
theorem Wk.stC (W : Wk p l e R s m args below meth c Z a0 EL n0 own vm0 T h L k n ss) {a : Addr} {kA : ClassId} {z j x : Int32} {vs : List Value} {dv : Value} (F : Arv Z h a kA .char z vs dv) (q : ¬ j < 0 ∧ j < z) (i : Nat) (hi : j.toNatClampNeg = i) (hl : i < vs.length) (hs : a ∈ ss) (ha : n0 ≤ a) (hd : decode c.code pc = .ok (.castore, 1))
    (K : ∀ T' h' L', Wk p l e R s m args below meth c Z a0 EL n0 own vm0 T' h' L' k n ss → Wr h h' a j.toNatClampNeg (.int (nar .char x)) → Arv Z h' a kA .char z (vs.set i (.int (nar .char x))) dv → Go p e below P (T'.setTop (mkF m (pc + 1) Ls rest))) : Go p e below P (T.setTop (mkF m pc Ls (.int x :: .int j :: .ref a :: rest))) := by
  obtain ⟨cl, A, q1, S, N, H, Gs⟩ := F
  obtain ⟨T', h', X', e', w', st⟩ := RoadKit.stC W.X W.ex W.hZ W.hp A (inb S q) (g := mkF m pc Ls (.int x :: .int j :: .ref a :: rest)) rfl rfl hd
  exact Go.st st (K T' h' _ (W.stepW X' e' w' hs ha) w' (Arv.set A q1 S N H Gs (fits_nar_char _) w' i hi hl))
theorem Wk.stB (W : Wk p l e R s m args below meth c Z a0 EL n0 own vm0 T h L k n ss) {a : Addr} {kA : ClassId} {z j x : Int32} {vs : List Value} {dv : Value} (F : Arv Z h a kA .byte z vs dv) (q : ¬ j < 0 ∧ j < z) (i : Nat) (hi : j.toNatClampNeg = i) (hl : i < vs.length) (hs : a ∈ ss) (ha : n0 ≤ a) (hd : decode c.code pc = .ok (.bastore, 1))
    (K : ∀ T' h' L', Wk p l e R s m args below meth c Z a0 EL n0 own vm0 T' h' L' k n ss → Wr h h' a j.toNatClampNeg (.int (nar .byte x)) → Arv Z h' a kA .byte z (vs.set i (.int (nar .byte x))) dv → Go p e below P (T'.setTop (mkF m (pc + 1) Ls rest))) : Go p e below P (T.setTop (mkF m pc Ls (.int x :: .int j :: .ref a :: rest))) := by
  obtain ⟨cl, A, q1, S, N, H, Gs⟩ := F
  obtain ⟨T', h', X', e', w', st⟩ := RoadKit.stB W.X W.ex W.hZ W.hp A (inb S q) (g := mkF m pc Ls (.int x :: .int j :: .ref a :: rest)) rfl rfl hd
  exact Go.st st (K T' h' _ (W.stepW X' e' w' hs ha) w' (Arv.set A q1 S N H Gs (fits_nar_byte _) w' i hi hl))
theorem Wk.castY (W : Wk p l e R s m args below meth c Z a0 EL n0 own vm0 T h L k n ss) {C : String} {index : Nat} (w : (Cond.classLink own index C).before a0 Z = true) {a : Addr} (F : Ins Z h a C true) (hd : decode c.code pc = .ok (.checkcast index, 3))
    (K : ∀ T', Wk p l e R s m args below meth c Z a0 EL n0 own vm0 T' h L k n ss → Go p e below P (T'.setTop (mkF m (pc + 3) Ls (.ref a :: rest)))) : Go p e below P (T.setTop (mkF m pc Ls (.ref a :: rest))) := by
  obtain ⟨T', X', e', st⟩ := RoadKit.castY W.X W.ex W.hZ W.ho w W.hp F (g := mkF m pc Ls (.ref a :: rest)) rfl rfl hd
  exact Go.st st (K T' (W.same X' e'))
theorem Wk.instY (W : Wk p l e R s m args below meth c Z a0 EL n0 own vm0 T h L k n ss) {C : String} {index : Nat} (w : (Cond.classLink own index C).before a0 Z = true) {a : Addr} (F : Ins Z h a C true) (hd : decode c.code pc = .ok (.instanceof index, 3))
    (K : ∀ T', Wk p l e R s m args below meth c Z a0 EL n0 own vm0 T' h L k n ss → Go p e below P (T'.setTop (mkF m (pc + 3) Ls (.int 1 :: rest)))) : Go p e below P (T.setTop (mkF m pc Ls (.ref a :: rest))) := by
  obtain ⟨T', X', e', st⟩ := RoadKit.instY W.X W.ex W.hZ W.ho w W.hp F (g := mkF m pc Ls (.ref a :: rest)) rfl rfl hd
  exact Go.st st (K T' (W.same X' e'))
theorem Wk.instN (W : Wk p l e R s m args below meth c Z a0 EL n0 own vm0 T h L k n ss) {C D : String} {index : Nat} (w : (Cond.classLink own index C).before a0 Z = true) {a : Addr} (E : Exa Z h a D) (F : ∃ c t, Z.vm.findClass D = some c ∧ Z.vm.findClass C = some t ∧ Z.vm.assignable c t = false) (hd : decode c.code pc = .ok (.instanceof index, 3))
    (K : ∀ T', Wk p l e R s m args below meth c Z a0 EL n0 own vm0 T' h L k n ss → Go p e below P (T'.setTop (mkF m (pc + 3) Ls (.int 0 :: rest)))) : Go p e below P (T.setTop (mkF m pc Ls (.ref a :: rest))) := by
  obtain ⟨T', X', e', st⟩ := RoadKit.instNo W.X W.ex W.hZ W.ho w W.hp E F (g := mkF m pc Ls (.ref a :: rest)) rfl rfl hd
  exact Go.st st (K T' (W.same X' e'))
theorem Wk.initO (W : Wk p l e R s m args below meth c Z a0 EL n0 own vm0 T h L k n ss) {index : Nat} (w1 : (Cond.methodLink own index Lib.objectInit).before a0 Z = true) (w2 : (Cond.instanceMethod Lib.objectInit).before a0 Z = true) (w3 : (Cond.code Lib.objectInit ⟨#[0xb1]⟩ 1 none).before a0 Z = true) (hsz : Ls.size = c.maxLocals) {a : Addr} (hd : decode c.code pc = .ok (.invokespecial index, 3)) (hf : 1 ≤ R.frames) {Wd : Nat} (hW : (rest.map fun v => v.category).sum ≤ Wd) (hl : Wd + 12 ≤ R.locals)
    (K : ∀ T', Wk p l e R s m args below meth c Z a0 EL n0 own vm0 T' h L k n ss → Go p e below P (T'.setTop (mkF m (pc + 3) Ls rest))) : Go p e below P (T.setTop (mkF m pc Ls (.ref a :: rest))) := by
  obtain ⟨T', X', e', st⟩ := RoadKit.initO W.X W.ex W.hZ W.ho w1 w2 w3 W.hp (g := mkF m pc Ls (.ref a :: rest)) rfl hsz rfl hd hf (W := Wd) (by show 2 * 0 + _ ≤ _; omega) hl
  exact Go.st st (K T' (W.same X' e'))
/-- an array's clone() -/
theorem Wk.clone (W : Wk p l e R s m args below meth c Z a0 EL n0 own vm0 T h L k n ss) {index : Nat} {ad : String} (w1 : (Cond.methodLink own index ⟨ad, "clone", "()Ljava/lang/Object;"⟩).before a0 Z = true) (w2 : (Cond.sameMethod ad "java/lang/Object" "clone" "()Ljava/lang/Object;").before a0 Z = true) (w3 : (Cond.native ⟨"java/lang/Object", "clone", "()Ljava/lang/Object;"⟩).before a0 Z = true)
    (w4 : (Cond.instanceMethod ⟨"java/lang/Object", "clone", "()Ljava/lang/Object;"⟩).before a0 Z = true) (w5 : (Cond.selects ad ⟨ad, "clone", "()Ljava/lang/Object;"⟩ ⟨"java/lang/Object", "clone", "()Ljava/lang/Object;"⟩).before a0 Z = true) (w6 : (Cond.castable ad "java/lang/Cloneable").before a0 Z = true)
    {a : Addr} {kA : ClassId} {ty : FieldType} {z : Int32} {vs : List Value} {dv : Value} (F : Arv Z h a kA ty z vs dv) (E : Exa Z h a ad) (hsz : Ls.size = c.maxLocals) (hd : decode c.code pc = .ok (.invokevirtual index, 3)) (hf : 1 ≤ R.frames) {Wd cap : Nat} (hW : (rest.map fun v => v.category).sum ≤ Wd) (hl : Wd + 14 ≤ R.locals) (hcap : z.toNatClampNeg ≤ cap) (hk : k + 1 = k') (hn : n + cap = n') (hc : k' ≤ R.cells) (hs : n' ≤ R.slots)
    (K : ∀ T' h' b, b = h.size → n0 ≤ b → Wk p l e R s m args below meth c Z a0 EL n0 own vm0 T' h' L k' n' (b :: ss) → Ext h h' → Arv Z h' b kA ty z vs dv → Exa Z h' b ad → Go p e below P (T'.setTop (mkF m (pc + 3) Ls (.ref b :: rest)))) : Go p e below P (T.setTop (mkF m pc Ls (.ref a :: rest))) := by
  subst hk hn
  obtain ⟨T', h', X', e', ex, A, E', st⟩ := RoadKit.cloneH W.X W.ex W.hZ W.ho w1 w2 w3 w4 w5 w6 W.hp F.arh E (g := mkF m pc Ls (.ref a :: rest)) rfl hsz rfl hd hf (W := Wd) (by show 2 * 0 + _ ≤ _; omega) hl hcap hc hs
  have W' := W.stepE X' e' ex
  exact Go.st st (K T' h' _ rfl W.n0le (W'.cons ((Safe.new (Nat.le_refl _)).ext ex W.cv) A.lt) ex A E')
/-- 'ldc' of a String constant of EL, read -/
theorem Wk.ldc (W : Wk p l e R s m args below meth c Z a0 EL n0 own vm0 T h L k n ss) {text : String} {index : Nat} (w : (Cond.stringLink own index text).before a0 Z = true) (wS : ∀ a ∈ Bundle.stringAtoms, a.before a0 Z = true) (hmem : (own, index) ∈ EL) {vs : List Value} {z : Int32} (ht : (∀ c ∈ text.toList, c.toNat < 256) ∧ text.toList.map (fun c => Value.int (Jvm.Lit.byteI c.toNat.toUInt16)) = vs) (hz : ¬ z < 0) (hlz : z.toNatClampNeg = vs.length)
    (hd : decode c.code pc = .ok (.ldc index, 2)) {j : Nat} (hj : 4 * text.toList.length ≤ j) (hbig : j ≤ 536870912) (hk : k + 2 = k') (hn : n + (j + 4) = n') (hc : k' ≤ R.cells) (hl : n' ≤ R.slots)
    (K : ∀ vm1 T' h' a b kA, Wk p l e R s m args below meth c Z a0 EL n0 own vm1 T' h' L k' n' ss → Ext h h' → Exa Z h' a "java/lang/String" → Fld Z h' a "java/lang/String" "coder" "B" (.int 0) → Fld Z h' a "java/lang/String" "value" "[B" (.ref b) → Arv Z h' b kA .byte z vs (.int 0) → (∀ x ∈ ss, x ≠ a ∧ x ≠ b) → Go p e below P (T'.setTop (mkF m (pc + 2) Ls (.ref a :: rest)))) : Go p e below P (T.setTop (mkF m pc Ls rest)) := by
  subst hk hn
  obtain ⟨j0, S, hj0⟩ := W.sc
  obtain ⟨a, T', h', k1, b, kA, X', e', E, S', hk1, hZ', ho', EA, FC, FV, AV, la, lb, A, -, ne, st⟩ := RoadKit.ldcCH W.X W.ex W.hZ W.ho w wS W.hp S hj0 W.ew hmem W.cv ht hz hlz (g := mkF m pc Ls rest) rfl hd hj hbig hc hl
  have W' := W.step X' e' ⟨k1, S', hk1⟩ hZ' ho' A W.fr (W.old.ext E)
  exact Go.st st (K T'.vm T' h' a b kA W' E EA FC FV AV fun x hx => ne x (W'.sf x hx).1)
end K
section C
variable {p : Program} {l : Launch} {e : Env} {R : Room} {s : State} {m : MethodId} {args : Array Value} {below : List Frame} {meth : Method} {c : Code} {Z : State} {a0 : Array Value} {EL : List (String × Nat)} {n0 : Nat} {own : String} {vm0 vm1 : Vm} {T T' : State} {h h' : Heap} {L L' : List Loc} {k n k' n' : Nat} {ss ss' : List Addr} {P : Outcome → State → Prop} {U V : State} {pc : Nat} {Ls : Array Slot} {rest : List Value}
/-- the end that a body owes -/
def Pst (Z : State) (EL : List (String × Nat)) (n0 : Nat) (s : State) (ck cn : Nat) (Q : Option Value → Vm → Heap → Prop) (o : Outcome) (U : State) : Prop :=
  ∃ v L, o = .returned v ∧ (Q v U.vm U.heap ∧ Fr n0 L ∧ Old Z n0 U.heap) ∧ CHr Z EL s.vm s.heap U.vm U.heap ∧ ReturnedEndW s o U L ck cn
/-- a body's contract: called with as' at the heap h, the cells ss no literal's, it returns with Q -/
def Ct (l : Launch) (Z : State) (EL : List (String × Nat)) (n0 : Nat) (ws : List Cond) (y : MethodName) (bytes : ByteArray) (maxL : Nat) (ret : Option FieldType) (rm : Room) (as' : Array Value) (ss : List Addr) (h : Heap) (Q : Option Value → Vm → Heap → Prop) : Prop :=
  MetFree l y (head1 (Cond.code y bytes maxL ret :: ws) rm) (fun a U => a = as' ∧ Z.Warmed39 U.vm ∧ U.heap = h ∧ CHv Z EL U.vm h ∧ Saf Z EL U.vm h ss) (fun _ _ _ _ _ => True) (fun _ U o U' => Pst Z EL n0 U rm.cells rm.slots Q o U')
theorem Ct.intro {ws : List Cond} {y : MethodName} {bytes : ByteArray} {maxL : Nat} {ret : Option FieldType} {rm : Room} {as' : Array Value} {Q : Option Value → Vm → Heap → Prop} (hx : plainFor y = true) (O : Old Z n0 h) (hew : EW Z a0 EL)
    (body : ∀ (p : Program) (e : Env) (s : State) (m : MethodId) (below : List Frame) (meth : Method) (c : Code) (s₁ : State), Wk p l e rm s m as' below meth c Z a0 EL n0 y.cls s.vm s₁ h [] 0 0 ss → c.code = bytes → c.maxLocals = maxL → meth.sig.returnType = ret → meth.name = y.name → Go p e below (Pst Z EL n0 s rm.cells rm.slots Q) (s₁.setTop (entryFrame m as' maxL))) :
    Ct l Z EL n0 ws y bytes maxL ret rm as' ss h Q := by
  refine MetFree.of_bodySF hx hisR ?_
  intro p e s m args below meth c s₁ Bd hml0 hP hK
  obtain ⟨rfl, hZ, hh, hcv, hsf⟩ := hP
  subst hh
  have X0 : Stand p l e rm s m args below meth c s₁ [] 0 0 := Stand.of_body Bd
  have e0 : s₁.heap = s.heap := by rw [Bd.state]; rfl
  exact body p e s m below meth c s₁ ⟨X0, e0, ⟨_, (State.WarmedH.refl s).since s.heap.size, Nat.le_refl _⟩, hZ, findClass_of_methodNamed Bd.named, CHr.refl hcv, Fr.nil n0, O, hsf, Bd.exec, hew, Bd.notSynchronized⟩ Bd.bytes hml0 Bd.returns (name_of_methodNamed Bd.named Bd.method).1
theorem Ct.mono {ws : List Cond} {y : MethodName} {bytes : ByteArray} {maxL : Nat} {ret : Option FieldType} {rm : Room} {as' : Array Value} {Q Q' : Option Value → Vm → Heap → Prop} (C : Ct l Z EL n0 ws y bytes maxL ret rm as' ss h Q) (q : ∀ v vm h', Q v vm h' → Q' v vm h') : Ct l Z EL n0 ws y bytes maxL ret rm as' ss h Q' := by
  intro p e ha hc hk s m args below hf happ hP hK
  obtain ⟨n, o, h1, h2, h3, v, L, h4, ⟨h5, h6⟩, h7⟩ := C p e ha hc hk s m args below hf happ hP hK
  exact ⟨n, o, h1, h2, h3, v, L, h4, ⟨q _ _ _ h5, h6⟩, h7⟩
theorem Wk.ret {v : Option Value} {ck cn : Nat} {Q : Option Value → Vm → Heap → Prop} {g : JFrame} (W : Wk p l e R s m args below meth c Z a0 EL n0 own vm0 T h L k n ss) (hv : meth.sig.returnType = none → v = none) (hk : k ≤ ck) (hn : n ≤ cn)
    (st : ∀ fs, (∀ (f : JFrame) (acts : List Action), f.method = m → f.locked = none → f.entered = [] → (doReturn e (T.setTop f) acts v).1 = T.setFrames fs) → Steps p.tables e below (T.setTop g) (T.setFrames fs)) (q : ∀ vm1, CHr Z EL vm0 h vm1 h → Q v vm1 h) : Go p e below (Pst Z EL n0 s ck cn Q) (T.setTop g) := by
  obtain ⟨j, S, hj⟩ := W.sc
  have hj' : j ≤ T.heap.size := by rw [W.hp]; exact hj
  obtain ⟨fs, hr, hrun, hend, r1, r2, r3, r4⟩ := W.X.leaveW S hj' (v := v) hv W.nl
  have A := CHv.at W.X W.hZ W.ew W.cv
  have e1 : (T.setFrames fs).heap = h := W.hp
  refine ⟨_, _, st fs hr, hrun, hend, v, L, rfl, ⟨?_, W.fr, ?_⟩, ?_, r1, r2, r3, r4.mono hk hn⟩
  · rw [e1]; exact q _ A
  · rw [e1]; exact W.old
  · rw [e1]; exact W.cr.trans A
theorem Wk.retV {ck cn : Nat} {Q : Option Value → Vm → Heap → Prop} (W : Wk p l e R s m args below meth c Z a0 EL n0 own vm0 T h L k n ss) (hret : meth.sig.returnType = none) (hd : decode c.code pc = .ok (.return_, 1)) (hk : k ≤ ck) (hn : n ≤ cn) (q : ∀ vm1, CHr Z EL vm0 h vm1 h → Q none vm1 h) : Go p e below (Pst Z EL n0 s ck cn Q) (T.setTop (mkF m pc Ls [])) :=
  W.ret (fun _ => rfl) hk hn (fun fs hr => W.X.returnOut W.ex hret hd hr) q
theorem Wk.retA {ck cn : Nat} {Q : Option Value → Vm → Heap → Prop} {v : Value} {t : FieldType} (W : Wk p l e R s m args below meth c Z a0 EL n0 own vm0 T h L k n ss) (hret : meth.sig.returnType = some t) (ht : t.isReference = true) (hv : v.isRef = true) (hd : decode c.code pc = .ok (.areturn, 1)) (hk : k ≤ ck) (hn : n ≤ cn) (q : ∀ vm1, CHr Z EL vm0 h vm1 h → Q (some v) vm1 h) : Go p e below (Pst Z EL n0 s ck cn Q) (T.setTop (mkF m pc Ls (v :: rest))) :=
  W.ret (fun h => by rw [hret] at h; cases h) hk hn (fun fs hr => retOut W.X W.ex hret (by rcases ref_cases hv with rfl | ⟨z, rfl⟩ <;> cases t <;> first | rfl | cases ht) (Or.inr (Or.inr (Or.inr (Or.inr ⟨rfl, ht, hv⟩)))) hd hr) q
theorem Wk.retI {ck cn : Nat} {Q : Option Value → Vm → Heap → Prop} {z : Int32} (W : Wk p l e R s m args below meth c Z a0 EL n0 own vm0 T h L k n ss) (hret : meth.sig.returnType = some .int) (hd : decode c.code pc = .ok (.ireturn, 1)) (hk : k ≤ ck) (hn : n ≤ cn) (q : ∀ vm1, CHr Z EL vm0 h vm1 h → Q (some (.int z)) vm1 h) : Go p e below (Pst Z EL n0 s ck cn Q) (T.setTop (mkF m pc Ls (.int z :: rest))) :=
  W.ret (fun h => by rw [hret] at h; cases h) hk hn (fun fs hr => retOut W.X W.ex hret rfl (Or.inl ⟨rfl, Or.inl rfl, z, rfl⟩) hd hr) q
theorem Wk.retN {ck cn : Nat} {Q : Option Value → Vm → Heap → Prop} {z : Int32} {t : FieldType} (W : Wk p l e R s m args below meth c Z a0 EL n0 own vm0 T h L k n ss) (hret : meth.sig.returnType = some t) (ht : t = .boolean ∨ t = .byte ∨ t = .char ∨ t = .short) (hd : decode c.code pc = .ok (.ireturn, 1)) (hk : k ≤ ck) (hn : n ≤ cn) (q : ∀ vm1, CHr Z EL vm0 h vm1 h → Q (some (.int (nar t z))) vm1 h) : Go p e below (Pst Z EL n0 s ck cn Q) (T.setTop (mkF m pc Ls (.int z :: rest))) :=
  W.ret (fun h => by rw [hret] at h; cases h) hk hn (fun fs hr => RoadKit.retN W.X W.ex hret ht hd hr) q
/-- a contract pays a call -/
theorem Ct.back {y : MethodName} {bytes : ByteArray} {maxL : Nat} {ret : Option FieldType} {rm : Room} {as' : Array Value} {Q : Option Value → Vm → Heap → Prop} {len Wd : Nat} (C : Ct l Z EL n0 [] y bytes maxL ret rm as' ss' h Q) (W : Wk p l e R s m args below meth c Z a0 EL n0 own vm0 T h L k n ss) (wc : (Cond.code y bytes maxL ret).before a0 Z = true) (wz : (Cond.initialized y.cls).before a0 Z = true) (hss : ∀ x ∈ ss', x ∈ ss) (hf : rm.frames + 1 ≤ R.frames) (hl : Wd + (maxL + 11) + rm.locals ≤ R.locals) :
    BackS l R p e below (s.setVm vm0) args y len Wd (fun A a => a = as' ∧ A.U.heap = h ∧ A.cells + rm.cells ≤ R.cells ∧ A.slots + rm.slots ≤ R.slots)
      (fun A _ v B => ∃ L', (Q v B.U.vm B.U.heap ∧ Fr n0 L' ∧ Old Z n0 B.U.heap) ∧ B.locs = A.locs ++ L' ∧ B.cells = A.cells + rm.cells ∧ B.slots = A.slots + rm.slots ∧ CHr Z EL vm0 h B.U.vm B.U.heap) :=
  BackS.of_freeW (bytes := bytes) (maxL := maxL) (ret := ret) (E := fun _ first o t L' k' n' => k' = rm.cells ∧ n' = rm.slots ∧ (∃ v, o = .returned v ∧ (Q v t.vm t.heap ∧ Fr n0 L' ∧ Old Z n0 t.heap)) ∧ CHr Z EL first.vm first.heap t.vm t.heap) C hf hl
    (fun m' meth' c' A a Y hp => by
      have hU : Z.Warmed39 A.U.vm := wtrans (s := s.setVm vm0) W.hZ Y.warmed
      exact ⟨by show (Cond.and _ .tt).before a A.U = true; rw [Cond.before_and, mv hU wc]; rfl, mv hU wc, mv hU wz, hp.2.2.1, hp.2.2.2⟩)
    (fun m' meth' c' A a g mk Y hp => by
      have A0 : CHr Z EL vm0 h A.U.vm h := CHv.at Y W.hZ W.ew W.cv
      have A1 : Saf Z EL vm0 h ss' := fun x hx => W.sf x (hss x hx)
      exact ⟨hp.1, wtrans (s := s.setVm vm0) W.hZ Y.warmed, hp.2.1, A0.1, A1.chr A0⟩) (fun _ _ _ _ _ _ _ _ _ => trivial)
    (fun _ _ _ _ ⟨v, L', h1, h2, h3, h4⟩ => ⟨L', _, _, h4, rfl, rfl, ⟨v, h1, h2⟩, h3⟩)
    (fun m' meth' c' A a g mk v t L' k' n' Y hp _ _ ⟨e1, e2, ⟨v', e3, e4⟩, e5⟩ => by
      cases e3; subst e1 e2
      refine ⟨L', e4, rfl, rfl, rfl, (CHv.at Y W.hZ W.ew W.cv).trans ?_⟩
      rw [← hp.2.1]; exact e5)
/-- behind a call that may have interned -/
theorem Wk.behind {B : Pt} {n1 : Nat} (W : Wk p l e R s m args below meth c Z a0 EL n0 own vm0 T h L k n ss) (X : Stand p l e R ((s.setVm vm0).setVm B.U.vm) m args below meth c B.U B.locs B.cells B.slots) (S : (s.setVm vm0).Since B.U.vm B.U.heap.size) (g : T.heap.size ≤ B.U.heap.size) (hl : B.locs = L ++ L') (F : Fr n0 L') (O : Old Z n0 B.U.heap) (A : CHr Z EL vm0 h B.U.vm B.U.heap) (hk : B.cells = k') (hn : B.slots = n') : Wk p l e R s m args below meth c Z a0 EL n0 own B.U.vm B.U B.U.heap (L ++ L') k' n' ss := by
  obtain ⟨j, S0, hj⟩ := W.sc
  obtain ⟨X', S', hZ', ho'⟩ := rebS (n1 := T.heap.size) S0 (by rw [W.hp]; exact hj) X S g W.hZ W.ho
  subst hk hn
  rw [← hl]
  exact W.step X' rfl ⟨_, S', Nat.le_refl _⟩ hZ' ho' A (by rw [hl]; exact W.fr.app F) O
theorem Wk.callS (W : Wk p l e R s m args below meth c Z a0 EL n0 own vm0 T h L k n ss) {index : Nat} {y : MethodName} {bytes : ByteArray} {maxL : Nat} {ret : Option FieldType} {rm : Room} {as' : Array Value} {Q : Option Value → Vm → Heap → Prop} {Wd : Nat} {st argsL : List Value} (w1 : (Cond.methodLink own index y).before a0 Z = true) (w2 : (Cond.static y).before a0 Z = true) (w3 : (Cond.initialized y.cls).before a0 Z = true) (w4 : (Cond.code y bytes maxL ret).before a0 Z = true) (hy : y.cls ≠ "java/lang/invoke/MethodHandle" ∧ y.cls ≠ "java/lang/invoke/VarHandle")
    (C : Ct l Z EL n0 [] y bytes maxL ret rm as' ss' h Q) (hss : ∀ x ∈ ss', x ∈ ss) (hf : rm.frames + 1 ≤ R.frames) (hl : Wd + (maxL + 11) + rm.locals ≤ R.locals) (hk : k + rm.cells = k') (hn : n + rm.slots = n') (hc : k' ≤ R.cells) (hs : n' ≤ R.slots) (hsz : Ls.size = c.maxLocals) (ha : argsL.toArray = as') (hlen : ∀ sig, parseMethodDescriptor y.desc = some sig → argsL.length = sig.parameters.length) (hst : st = argsL.reverse ++ rest) (hW : (rest.map fun v => v.category).sum ≤ Wd) (hd : decode c.code pc = .ok (.invokestatic index, 3))
    (K : ∀ v vm1 T' h' L', Wk p l e R s m args below meth c Z a0 EL n0 own vm1 T' h' L' k' n' ss → Q v vm1 h' → Go p e below P (T'.setTop (mkF m (pc + 3) Ls (v.toList ++ rest)))) : Go p e below P (T.setTop (mkF m pc Ls st)) := by
  subst hk hn ha hst
  obtain ⟨v, vm₁, B, -, X', S', g', ⟨L', ⟨q1, q2, q3⟩, q4, q5, q6, q7⟩, stp⟩ := RoadKit.callSS W.X W.ex W.ho (mvT W.hZ w1) (mvT W.hZ w2) (mvT W.hZ w3) (mvT W.hZ w4) hy (C.back (len := 3) (Wd := Wd) W w4 w3 hss hf hl) (g := mkF m pc Ls (argsL.reverse ++ rest)) rfl hsz (argsL := argsL) (rest := rest) hlen rfl (by show 2 * 0 + _ ≤ _; omega) hd (fun _ _ => ⟨rfl, W.hp, hc, hs⟩)
  exact Go.tr stp (K v _ _ _ _ (W.behind (n1 := 0) X' S' g' q4 q2 q3 q7 q5 q6) q1)
theorem Wk.callI (W : Wk p l e R s m args below meth c Z a0 EL n0 own vm0 T h L k n ss) {index : Nat} {y : MethodName} {bytes : ByteArray} {maxL : Nat} {rm : Room} {as' : Array Value} {Q : Option Value → Vm → Heap → Prop} {Wd : Nat} {st argsL : List Value} {a : Addr} (hy1 : y.name = "<init>") (w1 : (Cond.methodLink own index y).before a0 Z = true) (w2 : (Cond.instanceMethod y).before a0 Z = true) (w3 : (Cond.initialized y.cls).before a0 Z = true) (w4 : (Cond.code y bytes maxL none).before a0 Z = true) (hy : y.cls ≠ "java/lang/invoke/MethodHandle" ∧ y.cls ≠ "java/lang/invoke/VarHandle")
    (C : Ct l Z EL n0 [] y bytes maxL none rm as' ss' h Q) (hss : ∀ x ∈ ss', x ∈ ss) (hf : rm.frames + 1 ≤ R.frames) (hl : Wd + (maxL + 11) + rm.locals ≤ R.locals) (hk : k + rm.cells = k') (hn : n + rm.slots = n') (hc : k' ≤ R.cells) (hs : n' ≤ R.slots) (hsz : Ls.size = c.maxLocals) (ha : (Value.ref a :: argsL).toArray = as') (hlen : ∀ sig, parseMethodDescriptor y.desc = some sig → argsL.length = sig.parameters.length) (hst : st = argsL.reverse ++ .ref a :: rest) (hW : (rest.map fun v => v.category).sum ≤ Wd) (hd : decode c.code pc = .ok (.invokespecial index, 3))
    (K : ∀ v vm1 T' h' L', Wk p l e R s m args below meth c Z a0 EL n0 own vm1 T' h' L' k' n' ss → Q v vm1 h' → Go p e below P (T'.setTop (mkF m (pc + 3) Ls (v.toList ++ rest)))) : Go p e below P (T.setTop (mkF m pc Ls st)) := by
  subst hk hn ha hst
  obtain ⟨v, vm₁, B, -, X', S', g', ⟨L', ⟨q1, q2, q3⟩, q4, q5, q6, q7⟩, stp⟩ := W.X.specialBackS W.ex hy1 W.ho (mvT W.hZ w1) (mvT W.hZ w2) (mvT W.hZ w4) hy (C.back (len := 3) (Wd := Wd) W w4 w3 hss hf hl) (g := mkF m pc Ls (argsL.reverse ++ .ref a :: rest)) rfl hsz (Steps.refl _) (argsL := argsL) (rest := rest) hlen rfl (by show 2 * 0 + _ ≤ _; omega) hd (fun _ _ => ⟨rfl, W.hp, hc, hs⟩)
  exact Go.tr stp (K v _ _ _ _ (W.behind (n1 := 0) X' S' g' q4 q2 q3 q7 q5 q6) q1)
theorem Wk.callV (W : Wk p l e R s m args below meth c Z a0 EL n0 own vm0 T h L k n ss) {D : String} {index : Nat} {y z : MethodName} {bytes : ByteArray} {maxL : Nat} {ret : Option FieldType} {rm : Room} {as' : Array Value} {Q : Option Value → Vm → Heap → Prop} {Wd : Nat} {st argsL : List Value} {a : Addr} (w1 : (Cond.methodLink own index y).before a0 Z = true) (w2 : (Cond.declares y).before a0 Z = true) (w5 : (Cond.selects D y z).before a0 Z = true) (w6 : (Cond.instanceMethod z).before a0 Z = true) (w3 : (Cond.initialized z.cls).before a0 Z = true) (w4 : (Cond.code z bytes maxL ret).before a0 Z = true) (nf : NotFace (s.setVm vm0) y) (hy : y.cls ≠ "java/lang/invoke/MethodHandle" ∧ y.cls ≠ "java/lang/invoke/VarHandle")
    (E : Exa Z h a D) (C : Ct l Z EL n0 [] z bytes maxL ret rm as' ss' h Q) (hss : ∀ x ∈ ss', x ∈ ss) (hf : rm.frames + 1 ≤ R.frames) (hl : Wd + (maxL + 11) + rm.locals ≤ R.locals) (hk : k + rm.cells = k') (hn : n + rm.slots = n') (hc : k' ≤ R.cells) (hs : n' ≤ R.slots) (hsz : Ls.size = c.maxLocals) (ha : (Value.ref a :: argsL).toArray = as') (hlen : ∀ sig, parseMethodDescriptor y.desc = some sig → argsL.length = sig.parameters.length) (hst : st = argsL.reverse ++ .ref a :: rest) (hW : (rest.map fun v => v.category).sum ≤ Wd) (hd : decode c.code pc = .ok (.invokevirtual index, 3))
    (K : ∀ v vm1 T' h' L', Wk p l e R s m args below meth c Z a0 EL n0 own vm1 T' h' L' k' n' ss → Q v vm1 h' → Go p e below P (T'.setTop (mkF m (pc + 3) Ls (v.toList ++ rest)))) : Go p e below P (T.setTop (mkF m pc Ls st)) := by
  subst hk hn ha hst
  obtain ⟨cB, kB, i1, i2, i3⟩ := isOf W.hZ W.hp E
  obtain ⟨v, vm₁, B, -, X', S', g', ⟨L', ⟨q1, q2, q3⟩, q4, q5, q6, q7⟩, stp⟩ := W.X.virtualBackS W.ex W.ho (mvT W.hZ w1) (mvT W.hZ w2) nf (mvT W.hZ w5) (mvT W.hZ w6) hy (C.back (len := 3) (Wd := Wd) W w4 w3 hss hf hl) i1 i3 (g := mkF m pc Ls (argsL.reverse ++ .ref a :: rest)) rfl hsz (Steps.refl _) (argsL := argsL) (rest := rest) hlen rfl (by show 2 * 0 + _ ≤ _; omega) hd (fun _ _ => ⟨rfl, W.hp, hc, hs⟩)
  exact Go.tr stp (K v _ _ _ _ (W.behind (n1 := 0) X' S' g' q4 q2 q3 q7 q5 q6) q1)
theorem Wk.nf (W : Wk p l e R s m args below meth c Z a0 EL n0 own vm0 T h L k n ss) {D : String} {y : MethodName} (w5 : (Cond.selects D y y).before a0 Z = true) : NotFace (s.setVm vm0) y := notFace_of_selects (args := #[]) (mvT W.hZ w5)
/-- a law of the library's pays a call -/
theorem Wk.libI (W : Wk p l e R s m args below meth c Z a0 EL n0 own vm0 T h L k n ss) {index : Nat} {y : MethodName} {bytes : ByteArray} {maxL : Nat} {as' : Array Value} {Q : Option Value → Heap → List Loc → Prop} {ws : List Addr} {Wd ck cn : Nat} {st argsL : List Value} {a : Addr} (hy1 : y.name = "<init>") (w1 : (Cond.methodLink own index y).before a0 Z = true) (w2 : (Cond.instanceMethod y).before a0 Z = true) (w4 : (Cond.code y bytes maxL none).before a0 Z = true) (hy : y.cls ≠ "java/lang/invoke/MethodHandle" ∧ y.cls ≠ "java/lang/invoke/VarHandle")
    (hB : Back l R p e below (s.setVm vm0) args y 3 Wd (fun A a => a = as' ∧ A.U.heap = h ∧ A.cells + ck ≤ R.cells ∧ A.slots + cn ≤ R.slots) (fun A _ v B => ∃ L', Q v B.U.heap L' ∧ B.locs = A.locs ++ L' ∧ B.cells = A.cells + ck ∧ B.slots = A.slots + cn)) (hQ : ∀ v h' L', Q v h' L' → Fr n0 L' ∧ Keep h h' ws) (hws : ∀ x ∈ ws, x ∈ ss) (hwn : ∀ x ∈ ws, n0 ≤ x)
    (hk : k + ck = k') (hn : n + cn = n') (hc : k' ≤ R.cells) (hs : n' ≤ R.slots) (hsz : Ls.size = c.maxLocals) (ha : (Value.ref a :: argsL).toArray = as') (hlen : ∀ sig, parseMethodDescriptor y.desc = some sig → argsL.length = sig.parameters.length) (hst : st = argsL.reverse ++ .ref a :: rest) (hW : (rest.map fun v => v.category).sum ≤ Wd) (hd : decode c.code pc = .ok (.invokespecial index, 3))
    (K : ∀ v T' h' L0 L', Wk p l e R s m args below meth c Z a0 EL n0 own vm0 T' h' L' k' n' ss → Q v h' L0 → Go p e below P (T'.setTop (mkF m (pc + 3) Ls (v.toList ++ rest)))) : Go p e below P (T.setTop (mkF m pc Ls st)) := by
  subst hk hn ha hst
  obtain ⟨v, vm₁, B, -, X', ⟨L', q1, q4, q5, q6⟩, stp⟩ := W.X.specialBack W.ex hy1 W.ho (mvT W.hZ w1) (mvT W.hZ w2) (mvT W.hZ w4) hy hB (g := mkF m pc Ls (argsL.reverse ++ .ref a :: rest)) rfl hsz (Steps.refl _) (argsL := argsL) (rest := rest) hlen rfl (by show 2 * 0 + _ ≤ _; omega) hd (fun _ _ => ⟨rfl, W.hp, hc, hs⟩)
  obtain ⟨r1, r2⟩ := hQ _ _ _ q1
  have e4 : B.locs = L ++ L' := q4
  have e5 : B.cells = k + ck := q5
  have e6 : B.slots = n + cn := q6
  rw [e5, e6] at X'
  exact Go.tr stp (K v _ _ _ _ (W.stepK X' rfl r2 hws hwn (by rw [e4]; exact W.fr.app r1)) q1)
theorem Wk.libV (W : Wk p l e R s m args below meth c Z a0 EL n0 own vm0 T h L k n ss) {D : String} {index : Nat} {y z : MethodName} {as' : Array Value} {Q : Option Value → Heap → List Loc → Prop} {ws : List Addr} {Wd ck cn : Nat} {st argsL : List Value} {a : Addr} (w1 : (Cond.methodLink own index y).before a0 Z = true) (w2 : (Cond.declares y).before a0 Z = true) (w5 : (Cond.selects D y z).before a0 Z = true) (w6 : (Cond.instanceMethod z).before a0 Z = true) (nf : NotFace (s.setVm vm0) y) (hy : y.cls ≠ "java/lang/invoke/MethodHandle" ∧ y.cls ≠ "java/lang/invoke/VarHandle") (E : Exa Z h a D)
    (hB : Back l R p e below (s.setVm vm0) args z 3 Wd (fun A a => a = as' ∧ A.U.heap = h ∧ A.cells + ck ≤ R.cells ∧ A.slots + cn ≤ R.slots) (fun A _ v B => ∃ L', Q v B.U.heap L' ∧ B.locs = A.locs ++ L' ∧ B.cells = A.cells + ck ∧ B.slots = A.slots + cn)) (hQ : ∀ v h' L', Q v h' L' → Fr n0 L' ∧ Keep h h' ws) (hws : ∀ x ∈ ws, x ∈ ss) (hwn : ∀ x ∈ ws, n0 ≤ x)
    (hk : k + ck = k') (hn : n + cn = n') (hc : k' ≤ R.cells) (hs : n' ≤ R.slots) (hsz : Ls.size = c.maxLocals) (ha : (Value.ref a :: argsL).toArray = as') (hlen : ∀ sig, parseMethodDescriptor y.desc = some sig → argsL.length = sig.parameters.length) (hst : st = argsL.reverse ++ .ref a :: rest) (hW : (rest.map fun v => v.category).sum ≤ Wd) (hd : decode c.code pc = .ok (.invokevirtual index, 3))
    (K : ∀ v T' h' L0 L', Wk p l e R s m args below meth c Z a0 EL n0 own vm0 T' h' L' k' n' ss → Q v h' L0 → Go p e below P (T'.setTop (mkF m (pc + 3) Ls (v.toList ++ rest)))) : Go p e below P (T.setTop (mkF m pc Ls st)) := by
  subst hk hn ha hst
  obtain ⟨cB, kB, i1, i2, i3⟩ := isOf W.hZ W.hp E
  obtain ⟨v, vm₁, B, -, X', ⟨L', q1, q4, q5, q6⟩, stp⟩ := W.X.virtualBack W.ex W.ho (mvT W.hZ w1) (mvT W.hZ w2) nf (mvT W.hZ w5) (mvT W.hZ w6) hy hB i1 i3 (g := mkF m pc Ls (argsL.reverse ++ .ref a :: rest)) rfl hsz (Steps.refl _) (argsL := argsL) (rest := rest) hlen rfl (by show 2 * 0 + _ ≤ _; omega) hd (fun _ _ => ⟨rfl, W.hp, hc, hs⟩)
  obtain ⟨r1, r2⟩ := hQ _ _ _ q1
  have e4 : B.locs = L ++ L' := q4
  have e5 : B.cells = k + ck := q5
  have e6 : B.slots = n + cn := q6
  rw [e5, e6] at X'
  exact Go.tr stp (K v _ _ _ _ (W.stepK X' rfl r2 hws hwn (by rw [e4]; exact W.fr.app r1)) q1)
end C
end Jvm.OwnKit
namespace Jvm.OwnKit
open Sem ClassFile Op Lib Bundle Jvm.Stand Jvm.Free Jvm.LawKit Jvm.RoadKit
section St
variable {Z : State} {h h' : Heap} {a t : Addr} {cs : List Int32}
abbrev bsOf (cs : List Int32) : List Value := (cs.map fun c => c.toInt8.toInt32).map Value.int
def Ch8 (cs : List Int32) : Prop := ∀ c ∈ cs, ¬ c < 0 ∧ ¬ (255 : Int32) < c
/-- the object at a is a String whose bytes lie at t and spell cs -/
def StrAt (Z : State) (h : Heap) (a t : Addr) (cs : List Int32) : Prop := Exa Z h a "java/lang/String" ∧ Fld Z h a "java/lang/String" "coder" "B" (.int 0) ∧ Fld Z h a "java/lang/String" "value" "[B" (.ref t) ∧ (∃ kb, Arv Z h t kb .byte (Int32.ofNat cs.length) (bsOf cs) (.int 0)) ∧ Ch8 cs ∧ cs.length ≤ 4000
theorem StrAt.E (S : StrAt Z h a t cs) : Exa Z h a "java/lang/String" := S.1
theorem StrAt.ext (S : StrAt Z h a t cs) (E : Ext h h') : StrAt Z h' a t cs := by
  obtain ⟨s1, s2, s3, ⟨kb, s4⟩, s5⟩ := S
  exact ⟨s1.ext E, s2.ext E, s3.ext E, ⟨kb, s4.ext E⟩, s5⟩
theorem StrAt.keep {ws : List Addr} (S : StrAt Z h a t cs) (K : Keep h h' ws) (q1 : a ∉ ws) (q2 : t ∉ ws) : StrAt Z h' a t cs := by
  obtain ⟨s1, s2, s3, ⟨kb, s4⟩, s5⟩ := S
  exact ⟨s1.keep K, s2.keep K q1, s3.keep K q1, ⟨kb, s4.keep K q2⟩, s5⟩
theorem StrAt.wr {b : Addr} {sl : Nat} {v : Value} (S : StrAt Z h a t cs) (W : Wr h h' b sl v) (q1 : a ≠ b) (q2 : t ≠ b) : StrAt Z h' a t cs := S.keep (Keep.of_wr W) (ninS q1 nin0) (ninS q2 nin0)
theorem StrAt.lt (S : StrAt Z h a t cs) : a < h.size := S.1.lt
theorem StrAt.ltt (S : StrAt Z h a t cs) : t < h.size := by obtain ⟨s1, s2, s3, ⟨kb, s4⟩, s5⟩ := S; exact s4.lt
theorem StrAt.neC {x : Addr} {C : String} (S : StrAt Z h a t cs) (E : Exa Z h x C) (hn : C ≠ "java/lang/String") : a ≠ x := fun q => (Exa.ne E S.1 hn) q.symm
theorem StrAt.neT {x : Addr} {C : String} {n : Nat} {a0 : Array Value} (S : StrAt Z h a t cs) (E : Exa Z h x C) (w : (Cond.instantiable C n).before a0 Z = true) : t ≠ x := by
  obtain ⟨s1, s2, s3, ⟨kb, s4⟩, s5⟩ := S
  exact fun q => (Exa.neArv E s4 w) q.symm
theorem StrAt.kb (S : StrAt Z h a t cs) : ∃ kb, Arv Z h t kb .byte (Int32.ofNat cs.length) (bsOf cs) (.int 0) := S.2.2.2.1
theorem StrAt.ch (S : StrAt Z h a t cs) : Ch8 cs := S.2.2.2.2.1
theorem StrAt.le (S : StrAt Z h a t cs) : cs.length ≤ 4000 := S.2.2.2.2.2
theorem Ch8.nil : Ch8 [] := fun _ q => nomatch q
theorem Ch8.cons {c : Int32} (h1 : ¬ c < 0 ∧ ¬ (255 : Int32) < c) (h2 : Ch8 cs) : Ch8 (c :: cs) := fun x hx => by
  rcases List.mem_cons.mp hx with rfl | hx
  · exact h1
  · exact h2 x hx
theorem Ch8.up (C : Ch8 cs) : ∀ c ∈ cs, ¬ c < 0 ∧ ¬ (65535 : Int32) < c := fun c hc => ⟨(C c hc).1, fun q => (C c hc).2 (by rw [Int32.lt_iff_toInt_lt] at q ⊢; have e1 : (65535 : Int32).toInt = 65535 := rfl; have e2 : (255 : Int32).toInt = 255 := rfl; omega)⟩
theorem Ch8.getD (C : Ch8 cs) (i : Nat) : ¬ cs.getD i 0 < 0 ∧ ¬ (255 : Int32) < cs.getD i 0 := by
  rw [List.getD_eq_getElem?_getD]
  cases h : cs[i]? with
  | none => exact ⟨by decide, by decide⟩
  | some x => exact C x (List.mem_of_getElem? h)
theorem Ch8.set {x : Int32} (C : Ch8 cs) (hx : ¬ x < 0 ∧ ¬ (255 : Int32) < x) (i : Nat) : Ch8 (cs.set i x) := fun c hc => by
  rcases List.mem_or_eq_of_mem_set hc with h | rfl
  · exact C c h
  · exact hx
theorem and255 (x : Int32) : ¬ (x &&& (255 : Int32)) < 0 ∧ ¬ (255 : Int32) < (x &&& (255 : Int32)) := by
  have q := c_and x 255 (by decide)
  have e1 : (255 : Int32).toInt = 255 := rfl
  have e0 : (0 : Int32).toInt = 0 := rfl
  rw [Int32.lt_iff_toInt_lt, Int32.lt_iff_toInt_lt, e0]
  omega
theorem nar_char {c : Int32} (h : ¬ c < 0 ∧ ¬ (255 : Int32) < c) : nar .char c = c := by
  have h1 := h.1
  have h2 := h.2
  rw [Int32.lt_iff_toInt_lt] at h1 h2
  have e1 : (255 : Int32).toInt = 255 := rfl
  have e0 : (0 : Int32).toInt = 0 := rfl
  have q := c_i2c c
  apply Int32.toInt_inj.mp
  show c.toUInt32.toUInt16.toUInt32.toInt32.toInt = c.toInt
  omega
theorem i2c_id {c : Int32} (h : ¬ c < 0 ∧ ¬ (255 : Int32) < c) : c.toUInt32.toUInt16.toUInt32.toInt32 = c := nar_char h
theorem nar_byte (c : Int32) : nar .byte c.toInt8.toInt32 = c.toInt8.toInt32 := by
  show c.toInt8.toInt32.toInt8.toInt32 = c.toInt8.toInt32
  simp
end St
end Jvm.OwnKit
namespace Jvm.OwnKit
open Sem ClassFile Op Lib Bundle Jvm.Stand Jvm.Free Jvm.LawKit Jvm.RoadKit
section En
variable {Z : State} {args : Array Value} {a b : Addr} {u : Term}
/-- the case's words on an array's elements, from place i on: ints -/
def Els (args : Array Value) (Z : State) (t : Term) : Nat → List Int32 → Prop
  | _, [] => True
  | i, x :: r => (Cond.eq (.elem t (.int (Int32.ofNat i))) (.int x)).value args Z none Z [] = some true ∧ Els args Z t (i + 1) r
theorem arrayAt_cell {cl : Cell} (h : Z.arrayAt? a = some cl) : Z.heap[a]? = some cl := by
  simp only [State.arrayAt?, Option.bind_eq_bind, Option.bind_eq_some_iff] at h
  obtain ⟨x, hx, h2⟩ := h
  split at h2
  · obtain ⟨k, -, h3⟩ := h2; cases h3
  · obtain ⟨k, hk, h3⟩ := h2
    split at h3
    · cases h3; exact hx
    · cases h3
theorem els_has {t : Term} {cl : Cell} (ev : t.eval args Z none [] Z = some (.ref b)) (ha : Z.arrayAt? b = some cl) (h31 : cl.slots.size < 2 ^ 31) : ∀ (bs : List Int32) (i : Nat), i + bs.length ≤ cl.slots.size → Els args Z t i bs → HasL cl i (bs.map Value.int)
  | [], _, _, _ => trivial
  | x :: r, i, hi, ⟨h1, h2⟩ => by
    have e1 := eqv_i (Term.int_eval x) h1
    have hlt : i < cl.slots.size := by simp only [List.length_cons] at hi; omega
    rw [SBG.elem_at (ix := .int (Int32.ofNat i)) ev ha hlt h31 rfl] at e1
    exact ⟨e1, els_has ev ha h31 r (i + 1) (by simp only [List.length_cons] at hi; omega) h2⟩
/-- a String that the case's words spell -/
theorem str_start (hf : Fit Z) {z : Int32} {cs : List Int32} (hE : (Cond.exactly u "java/lang/String").value args Z none Z [] = some true) (hC : (Cond.eq (.field u "java/lang/String" "coder" "B") (.int 0)).value args Z none Z [] = some true) (hA : (Cond.arrayOf (.field u "java/lang/String" "value" "[B") .byte).value args Z none Z [] = some true)
    (hL : (Cond.eq (.length (.field u "java/lang/String" "value" "[B")) (.int z)).value args Z none Z [] = some true) (hz : z = Int32.ofNat cs.length) (hle : cs.length ≤ 4000) (hels : Els args Z (.field u "java/lang/String" "value" "[B") 0 (cs.map fun c => c.toInt8.toInt32)) (hch : Ch8 cs) : ∃ a r, u.eval args Z none [] Z = some (.ref a) ∧ StrAt Z Z.heap a r cs := by
  obtain ⟨a, ea⟩ := exa_v hE
  have ec := eqv_i (Term.int_eval 0) hC
  have el := eqv_i (Term.int_eval z) hL
  obtain ⟨r, cl, er, hcl, hsz⟩ := Term.length_spec el
  have h31 := SBG.length_lt er hcl el
  have hc := arrayAt_cell hcl
  have A : Arr Z Z.heap r cl .byte := ⟨hc, Cond.arrayOf_spec (Cond.before_iff.mpr hA) er hc⟩
  have ez : cl.slots.size.toInt32 = z := by simpa using hsz.symm
  have hlen : (Int32.ofNat cs.length).toNatClampNeg = cs.length := by show (Int32.ofNat cs.length).toInt.toNat = _; rw [Int32.toInt_ofNat_small (by omega)]; rfl
  have hn0 : ¬ Int32.ofNat cs.length < 0 := Int32.ofNat_not_neg (show cs.length < 2 ^ 31 by omega)
  have hs : cl.slots.size = cs.length := by
    have q : (cl.slots.size.toInt32).toNatClampNeg = cl.slots.size := by show (Int32.ofNat cl.slots.size).toInt.toNat = _; rw [Int32.toInt_ofNat_small h31]; rfl
    rw [← q, ez, hz, hlen]
  subst hz
  refine ⟨a, r, ea, Exa.start ea hE, Fld.start (by simpa [Term.eval, ea] using ec), Fld.start (by simpa [Term.eval, ea] using er), ⟨cl.cls, ?_⟩, hch, hle⟩
  exact Arv.start hf A h31 ez hn0 (by rw [hlen]; simp) (els_has er hcl h31 _ 0 (by simp [hs]) hels)
/-- a field of an object that the case's words name -/
theorem fld_start {C nm d : String} {v : Value} (ea : u.eval args Z none [] Z = some (.ref a)) (ev : (Term.field u C nm d).eval args Z none [] Z = some v) : Fld Z Z.heap a C nm d v := Fld.start (by simpa [Term.eval, ea] using ev)
theorem eqv_r {X F : Term} {idx : List Nat} (hF : F.eval args Z none idx Z = some (.ref a)) (h : (Cond.eq X F).value args Z none Z idx = some true) : X.eval args Z none idx Z = some (.ref a) := by
  obtain ⟨x, y', e1, e2, k1, k2⟩ := cmp_v (Or.inl h)
  cases hF.symm.trans e2
  rw [e1]
  cases x with
  | ref q => simp only [Cond.value, e1, hF] at h; simpa using h
  | null => simp only [Cond.value, e1, hF] at h; simp at h
  | int q => obtain ⟨z, hz⟩ := k1; cases hz
  | long q => obtain ⟨z, hz⟩ := k1; cases hz
  | float q => obtain ⟨z, hz⟩ := k1; cases hz
  | double q => obtain ⟨z, hz⟩ := k1; cases hz
  | retAddr q => simp [Kin, Value.isRef] at k1
/-- the case's words on an array's elements, from place i on: objects -/
def Elr (args : Array Value) (Z : State) (t : Term) : Nat → List (Term × Addr) → Prop
  | _, [] => True
  | i, x :: r => ((Cond.eq (.elem t (.int (Int32.ofNat i))) x.1).value args Z none Z [] = some true ∧ x.1.eval args Z none [] Z = some (.ref x.2)) ∧ Elr args Z t (i + 1) r
theorem elr_has {t : Term} {cl : Cell} (ev : t.eval args Z none [] Z = some (.ref b)) (ha : Z.arrayAt? b = some cl) (h31 : cl.slots.size < 2 ^ 31) : ∀ (bs : List (Term × Addr)) (i : Nat), i + bs.length ≤ cl.slots.size → Elr args Z t i bs → HasL cl i (bs.map fun x => Value.ref x.2)
  | [], _, _, _ => trivial
  | x :: r, i, hi, ⟨⟨h1, h1'⟩, h2⟩ => by
    have e1 := eqv_r h1' h1
    have hlt : i < cl.slots.size := by simp only [List.length_cons] at hi; omega
    rw [SBG.elem_at (ix := .int (Int32.ofNat i)) ev ha hlt h31 rfl] at e1
    exact ⟨e1, elr_has ev ha h31 r (i + 1) (by simp only [List.length_cons] at hi; omega) h2⟩
/-- an array of objects that the case's words tell -/
theorem arr_start (hf : Fit Z) {z : Int32} {C ad : String} {bs : List (Term × Addr)} (hE : (Cond.exactly u ad).value args Z none Z [] = some true) (hA : (Cond.arrayOf u (.object C)).value args Z none Z [] = some true) (hL : (Cond.eq (.length u) (.int z)).value args Z none Z [] = some true) (hz : z = Int32.ofNat bs.length) (hle : bs.length ≤ 4000) (hels : Elr args Z u 0 bs) :
    ∃ a k, u.eval args Z none [] Z = some (.ref a) ∧ Exa Z Z.heap a ad ∧ Arv Z Z.heap a k (.object C) z (bs.map fun x => Value.ref x.2) .null := by
  have el := eqv_i (Term.int_eval z) hL
  obtain ⟨r, cl, er, hcl, hsz⟩ := Term.length_spec el
  have h31 := SBG.length_lt er hcl el
  have hc := arrayAt_cell hcl
  have A : Arr Z Z.heap r cl (.object C) := ⟨hc, Cond.arrayOf_spec (Cond.before_iff.mpr hA) er hc⟩
  have ez : cl.slots.size.toInt32 = z := by simpa using hsz.symm
  have hlen : (Int32.ofNat bs.length).toNatClampNeg = bs.length := by show (Int32.ofNat bs.length).toInt.toNat = _; rw [Int32.toInt_ofNat_small (by omega)]; rfl
  have hn0 : ¬ Int32.ofNat bs.length < 0 := Int32.ofNat_not_neg (show bs.length < 2 ^ 31 by omega)
  have hs : cl.slots.size = bs.length := by
    have q : (cl.slots.size.toInt32).toNatClampNeg = cl.slots.size := by show (Int32.ofNat cl.slots.size).toInt.toNat = _; rw [Int32.toInt_ofNat_small h31]; rfl
    rw [← q, ez, hz, hlen]
  subst hz
  exact ⟨r, cl.cls, er, Exa.start er hE, Arv.start hf A h31 ez hn0 (by rw [hlen]; simp) (elr_has er hcl h31 _ 0 (by simp [hs]) hels)⟩
end En
end Jvm.OwnKit
namespace Jvm.OwnKit
open Sem ClassFile Op Lib Bundle Jvm.Stand Jvm.Free Jvm.LawKit Jvm.RoadKit
theorem idxn (x n : Int32) (d : Int) (hd : n.toInt = d) (h0 : 0 < d) : ¬ ((x &&& (2147483647 : Int32)) % n) < 0 ∧ ((x &&& (2147483647 : Int32)) % n) < n := by
  have q := c_and x 2147483647 (by decide)
  have r := (c_irem (x &&& 2147483647) n d hd).1 q.1
  rw [Int32.lt_iff_toInt_lt, Int32.lt_iff_toInt_lt, r, hd]
  have e0 : (0 : Int32).toInt = 0 := rfl
  have l1 := Int.emod_nonneg (x &&& 2147483647).toInt (show d ≠ 0 by omega)
  have l2 := Int.emod_lt_of_pos (x &&& 2147483647).toInt h0
  omega
theorem natn {j n : Int32} {d : Nat} (hd : n.toInt = (d : Int)) (h : ¬ j < 0 ∧ j < n) : j.toNatClampNeg < d := by
  have h1 := h.1
  have h2 := h.2
  rw [Int32.lt_iff_toInt_lt] at h1 h2
  have e0 : (0 : Int32).toInt = 0 := rfl
  show j.toInt.toNat < d
  omega
theorem map_getD (cs : List Int32) (i : Nat) : (cs.map Value.int).getD i (.int 0) = .int (cs.getD i 0) := by
  simp only [List.getD_eq_getElem?_getD, List.getElem?_map]
  cases cs[i]? <;> rfl
theorem and3 (x : Int32) : (x &&& 3) = 0 ∨ (x &&& 3) = 1 ∨ (x &&& 3) = 2 ∨ (x &&& 3) = 3 := by
  have q := c_and x 3 (by decide)
  have e3 : (3 : Int32).toInt = 3 := rfl
  rw [e3] at q
  have e : (x &&& 3).toInt = 0 ∨ (x &&& 3).toInt = 1 ∨ (x &&& 3).toInt = 2 ∨ (x &&& 3).toInt = 3 := by omega
  rcases e with e | e | e | e
  · exact Or.inl (Int32.toInt_inj.mp (by rw [e]; rfl))
  · exact Or.inr (Or.inl (Int32.toInt_inj.mp (by rw [e]; rfl)))
  · exact Or.inr (Or.inr (Or.inl (Int32.toInt_inj.mp (by rw [e]; rfl))))
  · exact Or.inr (Or.inr (Or.inr (Int32.toInt_inj.mp (by rw [e]; rfl))))
/-- a small number is one of the first d -/
theorem below_lit {j n : Int32} {d : Nat} (hd : n.toInt = (d : Int)) (h : ¬ j < 0 ∧ j < n) : ∃ i, i < d ∧ j = Int32.ofNat i := by
  refine ⟨j.toNatClampNeg, natn hd h, ?_⟩
  have h1 := h.1
  rw [Int32.lt_iff_toInt_lt] at h1
  have e0 : (0 : Int32).toInt = 0 := rfl
  have hb := j.toInt_lt
  apply Int32.toInt_inj.mp
  show j.toInt = (Int32.ofNat j.toInt.toNat).toInt
  rw [Int32.toInt_ofNat_small (by omega)]
  omega
end Jvm.OwnKit
namespace Jvm.Pilot.@@N@@
open Jvm Jvm.ClassFile Sem Op Lib Jvm.Free Jvm.Stand Jvm.LawKit Jvm.RoadKit Jvm.OwnKit Bundle Jvm.Pilot.@@N@@.Jvm.D
def litV (k : Nat) : List Value := match tables_1[k]? with | some (.stringLink _ _ t) => t.toList.map (fun c => Value.int (Jvm.Lit.byteI c.toNat.toUInt16)) | _ => []
def litC (k : Nat) : List Int32 := match tables_1[k]? with | some (.stringLink _ _ t) => t.toList.map (fun c => Int32.ofNat c.toNat) | _ => []
def Ctx (Z : State) (a0 : Array Value) (n0 : Nat) (g1 : Int32) (e0 e1 e2 va q0 q1 q2 r0 r1 r2 : Addr) (kva : ClassId) (em : Addr) : Prop := (∀ d ∈ tables_1, d.before a0 Z = true) ∧ EW Z a0 consts_1 ∧ Sta Z Z.heap "java/lang/String" "COMPACT_STRINGS" "Z" (.int g1) ∧ ¬ g1 = 0 ∧ (Sta Z Z.heap "com/example/loginconv/loginconv/AuthorizableKind" "USER" "Lcom/example/loginconv/loginconv/AuthorizableKind;" (.ref e0)) ∧ (Sta Z Z.heap "com/example/loginconv/loginconv/AuthorizableKind" "SYSTEM_USER" "Lcom/example/loginconv/loginconv/AuthorizableKind;" (.ref e1)) ∧ (Sta Z Z.heap "com/example/loginconv/loginconv/AuthorizableKind" "GROUP" "Lcom/example/loginconv/loginconv/AuthorizableKind;" (.ref e2)) ∧ (Exa Z Z.heap e0 "com/example/loginconv/loginconv/AuthorizableKind") ∧ (Fld Z Z.heap e0 "com/example/loginconv/loginconv/AuthorizableKind" "primaryType" "Ljava/lang/String;" (.ref q0)) ∧ (StrAt Z Z.heap q0 r0 (litC 5)) ∧ (Exa Z Z.heap e1 "com/example/loginconv/loginconv/AuthorizableKind") ∧ (Fld Z Z.heap e1 "com/example/loginconv/loginconv/AuthorizableKind" "primaryType" "Ljava/lang/String;" (.ref q1)) ∧ (StrAt Z Z.heap q1 r1 (litC 90)) ∧ (Exa Z Z.heap e2 "com/example/loginconv/loginconv/AuthorizableKind") ∧ (Fld Z Z.heap e2 "com/example/loginconv/loginconv/AuthorizableKind" "primaryType" "Ljava/lang/String;" (.ref q2)) ∧ (StrAt Z Z.heap q2 r2 (litC 111)) ∧ (Sta Z Z.heap "com/example/loginconv/loginconv/AuthorizableKind" "$VALUES" "[Lcom/example/loginconv/loginconv/AuthorizableKind;" (.ref va)) ∧ (Exa Z Z.heap va "[Lcom/example/loginconv/loginconv/AuthorizableKind;") ∧ (Arv Z Z.heap va kva (.object "com/example/loginconv/loginconv/AuthorizableKind") 3 [.ref e0, .ref e1, .ref e2] .null) ∧ (Sta Z Z.heap "java/util/Optional" "EMPTY" "Ljava/util/Optional;" (.ref em)) ∧ (Exa Z Z.heap em "java/util/Optional") ∧ (Fld Z Z.heap em "java/util/Optional" "value" "Ljava/lang/Object;" .null) ∧ True
theorem Ctx.words {Z : State} {a0 : Array Value} {n0 : Nat} {g1 : Int32} {e0 e1 e2 va q0 q1 q2 r0 r1 r2 : Addr} {kva : ClassId} {em : Addr} (cx : Ctx Z a0 n0 g1 e0 e1 e2 va q0 q1 q2 r0 r1 r2 kva em) : (∀ d ∈ tables_1, d.before a0 Z = true) := cx.1
theorem Ctx.ew {Z : State} {a0 : Array Value} {n0 : Nat} {g1 : Int32} {e0 e1 e2 va q0 q1 q2 r0 r1 r2 : Addr} {kva : ClassId} {em : Addr} (cx : Ctx Z a0 n0 g1 e0 e1 e2 va q0 q1 q2 r0 r1 r2 kva em) : EW Z a0 consts_1 := cx.2.1
theorem Ctx.cmp {Z : State} {a0 : Array Value} {n0 : Nat} {g1 : Int32} {e0 e1 e2 va q0 q1 q2 r0 r1 r2 : Addr} {kva : ClassId} {em : Addr} (cx : Ctx Z a0 n0 g1 e0 e1 e2 va q0 q1 q2 r0 r1 r2 kva em) : Sta Z Z.heap "java/lang/String" "COMPACT_STRINGS" "Z" (.int g1) := cx.2.2.1
theorem Ctx.g1 {Z : State} {a0 : Array Value} {n0 : Nat} {g1 : Int32} {e0 e1 e2 va q0 q1 q2 r0 r1 r2 : Addr} {kva : ClassId} {em : Addr} (cx : Ctx Z a0 n0 g1 e0 e1 e2 va q0 q1 q2 r0 r1 r2 kva em) : ¬ g1 = 0 := cx.2.2.2.1
theorem Ctx.st0 {Z : State} {a0 : Array Value} {n0 : Nat} {g1 : Int32} {e0 e1 e2 va q0 q1 q2 r0 r1 r2 : Addr} {kva : ClassId} {em : Addr} (cx : Ctx Z a0 n0 g1 e0 e1 e2 va q0 q1 q2 r0 r1 r2 kva em) : (Sta Z Z.heap "com/example/loginconv/loginconv/AuthorizableKind" "USER" "Lcom/example/loginconv/loginconv/AuthorizableKind;" (.ref e0)) := cx.2.2.2.2.1
theorem Ctx.st1 {Z : State} {a0 : Array Value} {n0 : Nat} {g1 : Int32} {e0 e1 e2 va q0 q1 q2 r0 r1 r2 : Addr} {kva : ClassId} {em : Addr} (cx : Ctx Z a0 n0 g1 e0 e1 e2 va q0 q1 q2 r0 r1 r2 kva em) : (Sta Z Z.heap "com/example/loginconv/loginconv/AuthorizableKind" "SYSTEM_USER" "Lcom/example/loginconv/loginconv/AuthorizableKind;" (.ref e1)) := cx.2.2.2.2.2.1
theorem Ctx.st2 {Z : State} {a0 : Array Value} {n0 : Nat} {g1 : Int32} {e0 e1 e2 va q0 q1 q2 r0 r1 r2 : Addr} {kva : ClassId} {em : Addr} (cx : Ctx Z a0 n0 g1 e0 e1 e2 va q0 q1 q2 r0 r1 r2 kva em) : (Sta Z Z.heap "com/example/loginconv/loginconv/AuthorizableKind" "GROUP" "Lcom/example/loginconv/loginconv/AuthorizableKind;" (.ref e2)) := cx.2.2.2.2.2.2.1
theorem Ctx.ex0 {Z : State} {a0 : Array Value} {n0 : Nat} {g1 : Int32} {e0 e1 e2 va q0 q1 q2 r0 r1 r2 : Addr} {kva : ClassId} {em : Addr} (cx : Ctx Z a0 n0 g1 e0 e1 e2 va q0 q1 q2 r0 r1 r2 kva em) : (Exa Z Z.heap e0 "com/example/loginconv/loginconv/AuthorizableKind") := cx.2.2.2.2.2.2.2.1
theorem Ctx.fe0 {Z : State} {a0 : Array Value} {n0 : Nat} {g1 : Int32} {e0 e1 e2 va q0 q1 q2 r0 r1 r2 : Addr} {kva : ClassId} {em : Addr} (cx : Ctx Z a0 n0 g1 e0 e1 e2 va q0 q1 q2 r0 r1 r2 kva em) : (Fld Z Z.heap e0 "com/example/loginconv/loginconv/AuthorizableKind" "primaryType" "Ljava/lang/String;" (.ref q0)) := cx.2.2.2.2.2.2.2.2.1
theorem Ctx.sq0 {Z : State} {a0 : Array Value} {n0 : Nat} {g1 : Int32} {e0 e1 e2 va q0 q1 q2 r0 r1 r2 : Addr} {kva : ClassId} {em : Addr} (cx : Ctx Z a0 n0 g1 e0 e1 e2 va q0 q1 q2 r0 r1 r2 kva em) : (StrAt Z Z.heap q0 r0 (litC 5)) := cx.2.2.2.2.2.2.2.2.2.1
theorem Ctx.ex1 {Z : State} {a0 : Array Value} {n0 : Nat} {g1 : Int32} {e0 e1 e2 va q0 q1 q2 r0 r1 r2 : Addr} {kva : ClassId} {em : Addr} (cx : Ctx Z a0 n0 g1 e0 e1 e2 va q0 q1 q2 r0 r1 r2 kva em) : (Exa Z Z.heap e1 "com/example/loginconv/loginconv/AuthorizableKind") := cx.2.2.2.2.2.2.2.2.2.2.1
theorem Ctx.fe1 {Z : State} {a0 : Array Value} {n0 : Nat} {g1 : Int32} {e0 e1 e2 va q0 q1 q2 r0 r1 r2 : Addr} {kva : ClassId} {em : Addr} (cx : Ctx Z a0 n0 g1 e0 e1 e2 va q0 q1 q2 r0 r1 r2 kva em) : (Fld Z Z.heap e1 "com/example/loginconv/loginconv/AuthorizableKind" "primaryType" "Ljava/lang/String;" (.ref q1)) := cx.2.2.2.2.2.2.2.2.2.2.2.1
theorem Ctx.sq1 {Z : State} {a0 : Array Value} {n0 : Nat} {g1 : Int32} {e0 e1 e2 va q0 q1 q2 r0 r1 r2 : Addr} {kva : ClassId} {em : Addr} (cx : Ctx Z a0 n0 g1 e0 e1 e2 va q0 q1 q2 r0 r1 r2 kva em) : (StrAt Z Z.heap q1 r1 (litC 90)) := cx.2.2.2.2.2.2.2.2.2.2.2.2.1
theorem Ctx.ex2 {Z : State} {a0 : Array Value} {n0 : Nat} {g1 : Int32} {e0 e1 e2 va q0 q1 q2 r0 r1 r2 : Addr} {kva : ClassId} {em : Addr} (cx : Ctx Z a0 n0 g1 e0 e1 e2 va q0 q1 q2 r0 r1 r2 kva em) : (Exa Z Z.heap e2 "com/example/loginconv/loginconv/AuthorizableKind") := cx.2.2.2.2.2.2.2.2.2.2.2.2.2.1
theorem Ctx.fe2 {Z : State} {a0 : Array Value} {n0 : Nat} {g1 : Int32} {e0 e1 e2 va q0 q1 q2 r0 r1 r2 : Addr} {kva : ClassId} {em : Addr} (cx : Ctx Z a0 n0 g1 e0 e1 e2 va q0 q1 q2 r0 r1 r2 kva em) : (Fld Z Z.heap e2 "com/example/loginconv/loginconv/AuthorizableKind" "primaryType" "Ljava/lang/String;" (.ref q2)) := cx.2.2.2.2.2.2.2.2.2.2.2.2.2.2.1
theorem Ctx.sq2 {Z : State} {a0 : Array Value} {n0 : Nat} {g1 : Int32} {e0 e1 e2 va q0 q1 q2 r0 r1 r2 : Addr} {kva : ClassId} {em : Addr} (cx : Ctx Z a0 n0 g1 e0 e1 e2 va q0 q1 q2 r0 r1 r2 kva em) : (StrAt Z Z.heap q2 r2 (litC 111)) := cx.2.2.2.2.2.2.2.2.2.2.2.2.2.2.2.1
theorem Ctx.stv {Z : State} {a0 : Array Value} {n0 : Nat} {g1 : Int32} {e0 e1 e2 va q0 q1 q2 r0 r1 r2 : Addr} {kva : ClassId} {em : Addr} (cx : Ctx Z a0 n0 g1 e0 e1 e2 va q0 q1 q2 r0 r1 r2 kva em) : (Sta Z Z.heap "com/example/loginconv/loginconv/AuthorizableKind" "$VALUES" "[Lcom/example/loginconv/loginconv/AuthorizableKind;" (.ref va)) := cx.2.2.2.2.2.2.2.2.2.2.2.2.2.2.2.2.1
theorem Ctx.exv {Z : State} {a0 : Array Value} {n0 : Nat} {g1 : Int32} {e0 e1 e2 va q0 q1 q2 r0 r1 r2 : Addr} {kva : ClassId} {em : Addr} (cx : Ctx Z a0 n0 g1 e0 e1 e2 va q0 q1 q2 r0 r1 r2 kva em) : (Exa Z Z.heap va "[Lcom/example/loginconv/loginconv/AuthorizableKind;") := cx.2.2.2.2.2.2.2.2.2.2.2.2.2.2.2.2.2.1
theorem Ctx.vv {Z : State} {a0 : Array Value} {n0 : Nat} {g1 : Int32} {e0 e1 e2 va q0 q1 q2 r0 r1 r2 : Addr} {kva : ClassId} {em : Addr} (cx : Ctx Z a0 n0 g1 e0 e1 e2 va q0 q1 q2 r0 r1 r2 kva em) : (Arv Z Z.heap va kva (.object "com/example/loginconv/loginconv/AuthorizableKind") 3 [.ref e0, .ref e1, .ref e2] .null) := cx.2.2.2.2.2.2.2.2.2.2.2.2.2.2.2.2.2.2.1
theorem Ctx.stem {Z : State} {a0 : Array Value} {n0 : Nat} {g1 : Int32} {e0 e1 e2 va q0 q1 q2 r0 r1 r2 : Addr} {kva : ClassId} {em : Addr} (cx : Ctx Z a0 n0 g1 e0 e1 e2 va q0 q1 q2 r0 r1 r2 kva em) : (Sta Z Z.heap "java/util/Optional" "EMPTY" "Ljava/util/Optional;" (.ref em)) := cx.2.2.2.2.2.2.2.2.2.2.2.2.2.2.2.2.2.2.2.1
theorem Ctx.exem {Z : State} {a0 : Array Value} {n0 : Nat} {g1 : Int32} {e0 e1 e2 va q0 q1 q2 r0 r1 r2 : Addr} {kva : ClassId} {em : Addr} (cx : Ctx Z a0 n0 g1 e0 e1 e2 va q0 q1 q2 r0 r1 r2 kva em) : (Exa Z Z.heap em "java/util/Optional") := cx.2.2.2.2.2.2.2.2.2.2.2.2.2.2.2.2.2.2.2.2.1
theorem Ctx.fem {Z : State} {a0 : Array Value} {n0 : Nat} {g1 : Int32} {e0 e1 e2 va q0 q1 q2 r0 r1 r2 : Addr} {kva : ClassId} {em : Addr} (cx : Ctx Z a0 n0 g1 e0 e1 e2 va q0 q1 q2 r0 r1 r2 kva em) : (Fld Z Z.heap em "java/util/Optional" "value" "Ljava/lang/Object;" .null) := cx.2.2.2.2.2.2.2.2.2.2.2.2.2.2.2.2.2.2.2.2.2.1
theorem Ctx.w {Z : State} {a0 : Array Value} {n0 : Nat} {g1 : Int32} {e0 e1 e2 va q0 q1 q2 r0 r1 r2 : Addr} {kva : ClassId} {em : Addr} (cx : Ctx Z a0 n0 g1 e0 e1 e2 va q0 q1 q2 r0 r1 r2 kva em) (k : Nat) {d : Jvm.Cond} (hd : tables_1[k]? = some d) : d.before a0 Z = true := cx.1 _ (List.mem_of_getElem? hd)
theorem Ctx.str {Z : State} {a0 : Array Value} {n0 : Nat} {g1 : Int32} {e0 e1 e2 va q0 q1 q2 r0 r1 r2 : Addr} {kva : ClassId} {em : Addr} (cx : Ctx Z a0 n0 g1 e0 e1 e2 va q0 q1 q2 r0 r1 r2 kva em) : ∀ a ∈ Bundle.stringAtoms, a.before a0 Z = true := fun d hd => cx.1 d ((by decide +kernel : ∀ d ∈ Bundle.stringAtoms, d ∈ tables_1) d hd)
theorem Ctx.vw {Z : State} {a0 : Array Value} {n0 : Nat} {g1 : Int32} {e0 e1 e2 va q0 q1 q2 r0 r1 r2 : Addr} {kva : ClassId} {em : Addr} (cx : Ctx Z a0 n0 g1 e0 e1 e2 va q0 q1 q2 r0 r1 r2 kva em) : ∀ d ∈ StrChars.Road.words, d.before a0 Z = true := fun d hd => cx.1 d ((by decide +kernel : ∀ d ∈ StrChars.Road.words, d ∈ tables_1) d hd)
theorem Ctx.qw {Z : State} {a0 : Array Value} {n0 : Nat} {g1 : Int32} {e0 e1 e2 va q0 q1 q2 r0 r1 r2 : Addr} {kva : ClassId} {em : Addr} (cx : Ctx Z a0 n0 g1 e0 e1 e2 va q0 q1 q2 r0 r1 r2 kva em) : ∀ d ∈ StrChars.Road.wordsEq, d.before a0 Z = true := fun d hd => cx.1 d ((by decide +kernel : ∀ d ∈ StrChars.Road.wordsEq, d ∈ tables_1) d hd)
def K3 (cs : List Int32) (e0 e1 e2 : Addr) : Value := if cs = (litC 5) then .ref e0 else if cs = (litC 90) then .ref e1 else if cs = (litC 111) then .ref e2 else .null
theorem k3_cases (cs : List Int32) (e0 e1 e2 : Addr) : (K3 cs e0 e1 e2 = .ref e0 ∧ cs = (litC 5)) ∨ (K3 cs e0 e1 e2 = .ref e1 ∧ cs = (litC 90)) ∨ (K3 cs e0 e1 e2 = .ref e2 ∧ cs = (litC 111)) ∨ K3 cs e0 e1 e2 = .null := by
  unfold K3
  by_cases h0 : cs = (litC 5)
  · exact Or.inl ⟨if_pos h0, h0⟩
  · by_cases h1 : cs = (litC 90)
    · exact Or.inr (Or.inl ⟨by rw [if_neg h0, if_pos h1], h1⟩)
    · by_cases h2 : cs = (litC 111)
      · exact Or.inr (Or.inr (Or.inl ⟨by rw [if_neg h0, if_neg h1, if_pos h2], h2⟩))
      · exact Or.inr (Or.inr (Or.inr (by rw [if_neg h0, if_neg h1, if_neg h2])))
theorem lt12 {i : Nat} (h : i < 12) : i = 0 ∨ i = 1 ∨ i = 2 ∨ i = 3 ∨ i = 4 ∨ i = 5 ∨ i = 6 ∨ i = 7 ∨ i = 8 ∨ i = 9 ∨ i = 10 ∨ i = 11 := by omega
theorem d1_0 : decode method_4_code 0 = .ok (.iload_n 1, 1) := by decide +kernel
theorem d1_1 : decode method_4_code 1 = .ok (.ldc 59, 2) := by decide +kernel
theorem d1_3 : decode method_4_code 3 = .ok (.iand, 1) := by decide +kernel
theorem d1_4 : decode method_4_code 4 = .ok (.iconst 3, 1) := by decide +kernel
theorem d1_5 : decode method_4_code 5 = .ok (.irem, 1) := by decide +kernel
theorem d1_6 : decode method_4_code 6 = .ok (.istore 6, 2) := by decide +kernel
theorem d1_8 : decode method_4_code 8 = .ok (.iload_n 2, 1) := by decide +kernel
theorem d1_9 : decode method_4_code 9 = .ok (.ldc 59, 2) := by decide +kernel
theorem d1_11 : decode method_4_code 11 = .ok (.iand, 1) := by decide +kernel
theorem d1_12 : decode method_4_code 12 = .ok (.istore 7, 2) := by decide +kernel
theorem d1_14 : decode method_4_code 14 = .ok (.iload_n 3, 1) := by decide +kernel
theorem d1_15 : decode method_4_code 15 = .ok (.sipush 255, 3) := by decide +kernel
theorem d1_18 : decode method_4_code 18 = .ok (.iand, 1) := by decide +kernel
theorem d1_19 : decode method_4_code 19 = .ok (.i2c, 1) := by decide +kernel
theorem d1_20 : decode method_4_code 20 = .ok (.istore 8, 2) := by decide +kernel
theorem d1_22 : decode method_4_code 22 = .ok (.iload 4, 2) := by decide +kernel
theorem d1_24 : decode method_4_code 24 = .ok (.sipush 255, 3) := by decide +kernel
theorem d1_27 : decode method_4_code 27 = .ok (.iand, 1) := by decide +kernel
theorem d1_28 : decode method_4_code 28 = .ok (.i2c, 1) := by decide +kernel
theorem d1_29 : decode method_4_code 29 = .ok (.istore 9, 2) := by decide +kernel
theorem d1_31 : decode method_4_code 31 = .ok (.iload 5, 2) := by decide +kernel
theorem d1_33 : decode method_4_code 33 = .ok (.sipush 255, 3) := by decide +kernel
theorem d1_36 : decode method_4_code 36 = .ok (.iand, 1) := by decide +kernel
theorem d1_37 : decode method_4_code 37 = .ok (.i2c, 1) := by decide +kernel
theorem d1_38 : decode method_4_code 38 = .ok (.istore 10, 2) := by decide +kernel
theorem d1_40 : decode method_4_code 40 = .ok (.iload_n 0, 1) := by decide +kernel
theorem d1_41 : decode method_4_code 41 = .ok (.ifCond .ne 23, 3) := by decide +kernel
theorem d1_44 : decode method_4_code 44 = .ok (.iload 6, 2) := by decide +kernel
theorem d1_46 : decode method_4_code 46 = .ok (.ifCond .ne 6, 3) := by decide +kernel
theorem d1_49 : decode method_4_code 49 = .ok (.ldc 43, 2) := by decide +kernel
theorem d1_51 : decode method_4_code 51 = .ok (.areturn, 1) := by decide +kernel
theorem d1_52 : decode method_4_code 52 = .ok (.iload 6, 2) := by decide +kernel
theorem d1_54 : decode method_4_code 54 = .ok (.iconst 1, 1) := by decide +kernel
theorem d1_55 : decode method_4_code 55 = .ok (.if_icmp .ne 6, 3) := by decide +kernel
theorem d1_58 : decode method_4_code 58 = .ok (.ldc 49, 2) := by decide +kernel
theorem d1_60 : decode method_4_code 60 = .ok (.areturn, 1) := by decide +kernel
theorem d1_61 : decode method_4_code 61 = .ok (.ldc 54, 2) := by decide +kernel
theorem d1_63 : decode method_4_code 63 = .ok (.areturn, 1) := by decide +kernel
theorem d1_64 : decode method_4_code 64 = .ok (.iload_n 0, 1) := by decide +kernel
theorem d1_65 : decode method_4_code 65 = .ok (.iconst 1, 1) := by decide +kernel
theorem d1_66 : decode method_4_code 66 = .ok (.if_icmp .ne 260, 3) := by decide +kernel
theorem d1_69 : decode method_4_code 69 = .ok (.iload 6, 2) := by decide +kernel
theorem d1_71 : decode method_4_code 71 = .ok (.ifCond .ne 71, 3) := by decide +kernel
theorem d1_74 : decode method_4_code 74 = .ok (.bipush 8, 2) := by decide +kernel
theorem d1_76 : decode method_4_code 76 = .ok (.newarray .char, 2) := by decide +kernel
theorem d1_78 : decode method_4_code 78 = .ok (.dup, 1) := by decide +kernel
theorem d1_79 : decode method_4_code 79 = .ok (.iconst 0, 1) := by decide +kernel
theorem d1_80 : decode method_4_code 80 = .ok (.bipush 114, 2) := by decide +kernel
theorem d1_82 : decode method_4_code 82 = .ok (.castore, 1) := by decide +kernel
theorem d1_83 : decode method_4_code 83 = .ok (.dup, 1) := by decide +kernel
theorem d1_84 : decode method_4_code 84 = .ok (.iconst 1, 1) := by decide +kernel
theorem d1_85 : decode method_4_code 85 = .ok (.bipush 101, 2) := by decide +kernel
theorem d1_87 : decode method_4_code 87 = .ok (.castore, 1) := by decide +kernel
theorem d1_88 : decode method_4_code 88 = .ok (.dup, 1) := by decide +kernel
theorem d1_89 : decode method_4_code 89 = .ok (.iconst 2, 1) := by decide +kernel
theorem d1_90 : decode method_4_code 90 = .ok (.bipush 112, 2) := by decide +kernel
theorem d1_92 : decode method_4_code 92 = .ok (.castore, 1) := by decide +kernel
theorem d1_93 : decode method_4_code 93 = .ok (.dup, 1) := by decide +kernel
theorem d1_94 : decode method_4_code 94 = .ok (.iconst 3, 1) := by decide +kernel
theorem d1_95 : decode method_4_code 95 = .ok (.bipush 58, 2) := by decide +kernel
theorem d1_97 : decode method_4_code 97 = .ok (.castore, 1) := by decide +kernel
theorem d1_98 : decode method_4_code 98 = .ok (.dup, 1) := by decide +kernel
theorem d1_99 : decode method_4_code 99 = .ok (.iconst 4, 1) := by decide +kernel
theorem d1_100 : decode method_4_code 100 = .ok (.bipush 85, 2) := by decide +kernel
theorem d1_102 : decode method_4_code 102 = .ok (.castore, 1) := by decide +kernel
theorem d1_103 : decode method_4_code 103 = .ok (.dup, 1) := by decide +kernel
theorem d1_104 : decode method_4_code 104 = .ok (.iconst 5, 1) := by decide +kernel
theorem d1_105 : decode method_4_code 105 = .ok (.bipush 115, 2) := by decide +kernel
theorem d1_107 : decode method_4_code 107 = .ok (.castore, 1) := by decide +kernel
theorem d1_108 : decode method_4_code 108 = .ok (.dup, 1) := by decide +kernel
theorem d1_109 : decode method_4_code 109 = .ok (.bipush 6, 2) := by decide +kernel
theorem d1_111 : decode method_4_code 111 = .ok (.bipush 101, 2) := by decide +kernel
theorem d1_113 : decode method_4_code 113 = .ok (.castore, 1) := by decide +kernel
theorem d1_114 : decode method_4_code 114 = .ok (.dup, 1) := by decide +kernel
theorem d1_115 : decode method_4_code 115 = .ok (.bipush 7, 2) := by decide +kernel
theorem d1_117 : decode method_4_code 117 = .ok (.bipush 114, 2) := by decide +kernel
theorem d1_119 : decode method_4_code 119 = .ok (.castore, 1) := by decide +kernel
theorem d1_120 : decode method_4_code 120 = .ok (.astore 11, 2) := by decide +kernel
theorem d1_122 : decode method_4_code 122 = .ok (.aload 11, 2) := by decide +kernel
theorem d1_124 : decode method_4_code 124 = .ok (.iload 7, 2) := by decide +kernel
theorem d1_126 : decode method_4_code 126 = .ok (.bipush 8, 2) := by decide +kernel
theorem d1_128 : decode method_4_code 128 = .ok (.irem, 1) := by decide +kernel
theorem d1_129 : decode method_4_code 129 = .ok (.iload 8, 2) := by decide +kernel
theorem d1_131 : decode method_4_code 131 = .ok (.castore, 1) := by decide +kernel
theorem d1_132 : decode method_4_code 132 = .ok (.new 38, 3) := by decide +kernel
theorem d1_135 : decode method_4_code 135 = .ok (.dup, 1) := by decide +kernel
theorem d1_136 : decode method_4_code 136 = .ok (.aload 11, 2) := by decide +kernel
theorem d1_138 : decode method_4_code 138 = .ok (.invokespecial 60, 3) := by decide +kernel
theorem d1_141 : decode method_4_code 141 = .ok (.areturn, 1) := by decide +kernel
theorem d1_142 : decode method_4_code 142 = .ok (.iload 6, 2) := by decide +kernel
theorem d1_144 : decode method_4_code 144 = .ok (.iconst 1, 1) := by decide +kernel
theorem d1_145 : decode method_4_code 145 = .ok (.if_icmp .ne 107, 3) := by decide +kernel
theorem d1_148 : decode method_4_code 148 = .ok (.bipush 14, 2) := by decide +kernel
theorem d1_150 : decode method_4_code 150 = .ok (.newarray .char, 2) := by decide +kernel
theorem d1_152 : decode method_4_code 152 = .ok (.dup, 1) := by decide +kernel
theorem d1_153 : decode method_4_code 153 = .ok (.iconst 0, 1) := by decide +kernel
theorem d1_154 : decode method_4_code 154 = .ok (.bipush 114, 2) := by decide +kernel
theorem d1_156 : decode method_4_code 156 = .ok (.castore, 1) := by decide +kernel
theorem d1_157 : decode method_4_code 157 = .ok (.dup, 1) := by decide +kernel
theorem d1_158 : decode method_4_code 158 = .ok (.iconst 1, 1) := by decide +kernel
theorem d1_159 : decode method_4_code 159 = .ok (.bipush 101, 2) := by decide +kernel
theorem d1_161 : decode method_4_code 161 = .ok (.castore, 1) := by decide +kernel
theorem d1_162 : decode method_4_code 162 = .ok (.dup, 1) := by decide +kernel
theorem d1_163 : decode method_4_code 163 = .ok (.iconst 2, 1) := by decide +kernel
theorem d1_164 : decode method_4_code 164 = .ok (.bipush 112, 2) := by decide +kernel
theorem d1_166 : decode method_4_code 166 = .ok (.castore, 1) := by decide +kernel
theorem d1_167 : decode method_4_code 167 = .ok (.dup, 1) := by decide +kernel
theorem d1_168 : decode method_4_code 168 = .ok (.iconst 3, 1) := by decide +kernel
theorem d1_169 : decode method_4_code 169 = .ok (.bipush 58, 2) := by decide +kernel
theorem d1_171 : decode method_4_code 171 = .ok (.castore, 1) := by decide +kernel
theorem d1_172 : decode method_4_code 172 = .ok (.dup, 1) := by decide +kernel
theorem d1_173 : decode method_4_code 173 = .ok (.iconst 4, 1) := by decide +kernel
theorem d1_174 : decode method_4_code 174 = .ok (.bipush 83, 2) := by decide +kernel
theorem d1_176 : decode method_4_code 176 = .ok (.castore, 1) := by decide +kernel
theorem d1_177 : decode method_4_code 177 = .ok (.dup, 1) := by decide +kernel
theorem d1_178 : decode method_4_code 178 = .ok (.iconst 5, 1) := by decide +kernel
theorem d1_179 : decode method_4_code 179 = .ok (.bipush 121, 2) := by decide +kernel
theorem d1_181 : decode method_4_code 181 = .ok (.castore, 1) := by decide +kernel
theorem d1_182 : decode method_4_code 182 = .ok (.dup, 1) := by decide +kernel
theorem d1_183 : decode method_4_code 183 = .ok (.bipush 6, 2) := by decide +kernel
theorem d1_185 : decode method_4_code 185 = .ok (.bipush 115, 2) := by decide +kernel
theorem d1_187 : decode method_4_code 187 = .ok (.castore, 1) := by decide +kernel
theorem d1_188 : decode method_4_code 188 = .ok (.dup, 1) := by decide +kernel
theorem d1_189 : decode method_4_code 189 = .ok (.bipush 7, 2) := by decide +kernel
theorem d1_191 : decode method_4_code 191 = .ok (.bipush 116, 2) := by decide +kernel
theorem d1_193 : decode method_4_code 193 = .ok (.castore, 1) := by decide +kernel
theorem d1_194 : decode method_4_code 194 = .ok (.dup, 1) := by decide +kernel
theorem d1_195 : decode method_4_code 195 = .ok (.bipush 8, 2) := by decide +kernel
theorem d1_197 : decode method_4_code 197 = .ok (.bipush 101, 2) := by decide +kernel
theorem d1_199 : decode method_4_code 199 = .ok (.castore, 1) := by decide +kernel
theorem d1_200 : decode method_4_code 200 = .ok (.dup, 1) := by decide +kernel
theorem d1_201 : decode method_4_code 201 = .ok (.bipush 9, 2) := by decide +kernel
theorem d1_203 : decode method_4_code 203 = .ok (.bipush 109, 2) := by decide +kernel
theorem d1_205 : decode method_4_code 205 = .ok (.castore, 1) := by decide +kernel
theorem d1_206 : decode method_4_code 206 = .ok (.dup, 1) := by decide +kernel
theorem d1_207 : decode method_4_code 207 = .ok (.bipush 10, 2) := by decide +kernel
theorem d1_209 : decode method_4_code 209 = .ok (.bipush 85, 2) := by decide +kernel
theorem d1_211 : decode method_4_code 211 = .ok (.castore, 1) := by decide +kernel
theorem d1_212 : decode method_4_code 212 = .ok (.dup, 1) := by decide +kernel
theorem d1_213 : decode method_4_code 213 = .ok (.bipush 11, 2) := by decide +kernel
theorem d1_215 : decode method_4_code 215 = .ok (.bipush 115, 2) := by decide +kernel
theorem d1_217 : decode method_4_code 217 = .ok (.castore, 1) := by decide +kernel
theorem d1_218 : decode method_4_code 218 = .ok (.dup, 1) := by decide +kernel
theorem d1_219 : decode method_4_code 219 = .ok (.bipush 12, 2) := by decide +kernel
theorem d1_221 : decode method_4_code 221 = .ok (.bipush 101, 2) := by decide +kernel
theorem d1_223 : decode method_4_code 223 = .ok (.castore, 1) := by decide +kernel
theorem d1_224 : decode method_4_code 224 = .ok (.dup, 1) := by decide +kernel
theorem d1_225 : decode method_4_code 225 = .ok (.bipush 13, 2) := by decide +kernel
theorem d1_227 : decode method_4_code 227 = .ok (.bipush 114, 2) := by decide +kernel
theorem d1_229 : decode method_4_code 229 = .ok (.castore, 1) := by decide +kernel
theorem d1_230 : decode method_4_code 230 = .ok (.astore 11, 2) := by decide +kernel
theorem d1_232 : decode method_4_code 232 = .ok (.aload 11, 2) := by decide +kernel
theorem d1_234 : decode method_4_code 234 = .ok (.iload 7, 2) := by decide +kernel
theorem d1_236 : decode method_4_code 236 = .ok (.bipush 14, 2) := by decide +kernel
theorem d1_238 : decode method_4_code 238 = .ok (.irem, 1) := by decide +kernel
theorem d1_239 : decode method_4_code 239 = .ok (.iload 8, 2) := by decide +kernel
theorem d1_241 : decode method_4_code 241 = .ok (.castore, 1) := by decide +kernel
theorem d1_242 : decode method_4_code 242 = .ok (.new 38, 3) := by decide +kernel
theorem d1_245 : decode method_4_code 245 = .ok (.dup, 1) := by decide +kernel
theorem d1_246 : decode method_4_code 246 = .ok (.aload 11, 2) := by decide +kernel
theorem d1_248 : decode method_4_code 248 = .ok (.invokespecial 60, 3) := by decide +kernel
theorem d1_251 : decode method_4_code 251 = .ok (.areturn, 1) := by decide +kernel
theorem d1_252 : decode method_4_code 252 = .ok (.bipush 9, 2) := by decide +kernel
theorem d1_254 : decode method_4_code 254 = .ok (.newarray .char, 2) := by decide +kernel
theorem d1_256 : decode method_4_code 256 = .ok (.dup, 1) := by decide +kernel
theorem d1_257 : decode method_4_code 257 = .ok (.iconst 0, 1) := by decide +kernel
theorem d1_258 : decode method_4_code 258 = .ok (.bipush 114, 2) := by decide +kernel
theorem d1_260 : decode method_4_code 260 = .ok (.castore, 1) := by decide +kernel
theorem d1_261 : decode method_4_code 261 = .ok (.dup, 1) := by decide +kernel
theorem d1_262 : decode method_4_code 262 = .ok (.iconst 1, 1) := by decide +kernel
theorem d1_263 : decode method_4_code 263 = .ok (.bipush 101, 2) := by decide +kernel
theorem d1_265 : decode method_4_code 265 = .ok (.castore, 1) := by decide +kernel
theorem d1_266 : decode method_4_code 266 = .ok (.dup, 1) := by decide +kernel
theorem d1_267 : decode method_4_code 267 = .ok (.iconst 2, 1) := by decide +kernel
theorem d1_268 : decode method_4_code 268 = .ok (.bipush 112, 2) := by decide +kernel
theorem d1_270 : decode method_4_code 270 = .ok (.castore, 1) := by decide +kernel
theorem d1_271 : decode method_4_code 271 = .ok (.dup, 1) := by decide +kernel
theorem d1_272 : decode method_4_code 272 = .ok (.iconst 3, 1) := by decide +kernel
theorem d1_273 : decode method_4_code 273 = .ok (.bipush 58, 2) := by decide +kernel
theorem d1_275 : decode method_4_code 275 = .ok (.castore, 1) := by decide +kernel
theorem d1_276 : decode method_4_code 276 = .ok (.dup, 1) := by decide +kernel
theorem d1_277 : decode method_4_code 277 = .ok (.iconst 4, 1) := by decide +kernel
theorem d1_278 : decode method_4_code 278 = .ok (.bipush 71, 2) := by decide +kernel
theorem d1_280 : decode method_4_code 280 = .ok (.castore, 1) := by decide +kernel
theorem d1_281 : decode method_4_code 281 = .ok (.dup, 1) := by decide +kernel
theorem d1_282 : decode method_4_code 282 = .ok (.iconst 5, 1) := by decide +kernel
theorem d1_283 : decode method_4_code 283 = .ok (.bipush 114, 2) := by decide +kernel
theorem d1_285 : decode method_4_code 285 = .ok (.castore, 1) := by decide +kernel
theorem d1_286 : decode method_4_code 286 = .ok (.dup, 1) := by decide +kernel
theorem d1_287 : decode method_4_code 287 = .ok (.bipush 6, 2) := by decide +kernel
theorem d1_289 : decode method_4_code 289 = .ok (.bipush 111, 2) := by decide +kernel
theorem d1_291 : decode method_4_code 291 = .ok (.castore, 1) := by decide +kernel
theorem d1_292 : decode method_4_code 292 = .ok (.dup, 1) := by decide +kernel
theorem d1_293 : decode method_4_code 293 = .ok (.bipush 7, 2) := by decide +kernel
theorem d1_295 : decode method_4_code 295 = .ok (.bipush 117, 2) := by decide +kernel
theorem d1_297 : decode method_4_code 297 = .ok (.castore, 1) := by decide +kernel
theorem d1_298 : decode method_4_code 298 = .ok (.dup, 1) := by decide +kernel
theorem d1_299 : decode method_4_code 299 = .ok (.bipush 8, 2) := by decide +kernel
theorem d1_301 : decode method_4_code 301 = .ok (.bipush 112, 2) := by decide +kernel
theorem d1_303 : decode method_4_code 303 = .ok (.castore, 1) := by decide +kernel
theorem d1_304 : decode method_4_code 304 = .ok (.astore 11, 2) := by decide +kernel
theorem d1_306 : decode method_4_code 306 = .ok (.aload 11, 2) := by decide +kernel
theorem d1_308 : decode method_4_code 308 = .ok (.iload 7, 2) := by decide +kernel
theorem d1_310 : decode method_4_code 310 = .ok (.bipush 9, 2) := by decide +kernel
theorem d1_312 : decode method_4_code 312 = .ok (.irem, 1) := by decide +kernel
theorem d1_313 : decode method_4_code 313 = .ok (.iload 8, 2) := by decide +kernel
theorem d1_315 : decode method_4_code 315 = .ok (.castore, 1) := by decide +kernel
theorem d1_316 : decode method_4_code 316 = .ok (.new 38, 3) := by decide +kernel
theorem d1_319 : decode method_4_code 319 = .ok (.dup, 1) := by decide +kernel
theorem d1_320 : decode method_4_code 320 = .ok (.aload 11, 2) := by decide +kernel
theorem d1_322 : decode method_4_code 322 = .ok (.invokespecial 60, 3) := by decide +kernel
theorem d1_325 : decode method_4_code 325 = .ok (.areturn, 1) := by decide +kernel
theorem d1_326 : decode method_4_code 326 = .ok (.iload_n 0, 1) := by decide +kernel
theorem d1_327 : decode method_4_code 327 = .ok (.iconst 2, 1) := by decide +kernel
theorem d1_328 : decode method_4_code 328 = .ok (.if_icmp .ne 107, 3) := by decide +kernel
theorem d1_331 : decode method_4_code 331 = .ok (.iload_n 1, 1) := by decide +kernel
theorem d1_332 : decode method_4_code 332 = .ok (.ldc 59, 2) := by decide +kernel
theorem d1_334 : decode method_4_code 334 = .ok (.iand, 1) := by decide +kernel
theorem d1_335 : decode method_4_code 335 = .ok (.bipush 12, 2) := by decide +kernel
theorem d1_337 : decode method_4_code 337 = .ok (.irem, 1) := by decide +kernel
theorem d1_338 : decode method_4_code 338 = .ok (.istore 11, 2) := by decide +kernel
theorem d1_340 : decode method_4_code 340 = .ok (.iload 11, 2) := by decide +kernel
theorem d1_342 : decode method_4_code 342 = .ok (.tableswitch 91 0 10 #[58, 61, 64, 67, 70, 73, 76, 79, 82, 85, 88], 58) := by decide +kernel
theorem d1_400 : decode method_4_code 400 = .ok (.ldc 63, 2) := by decide +kernel
theorem d1_402 : decode method_4_code 402 = .ok (.areturn, 1) := by decide +kernel
theorem d1_403 : decode method_4_code 403 = .ok (.ldc 65, 2) := by decide +kernel
theorem d1_405 : decode method_4_code 405 = .ok (.areturn, 1) := by decide +kernel
theorem d1_406 : decode method_4_code 406 = .ok (.ldc 67, 2) := by decide +kernel
theorem d1_408 : decode method_4_code 408 = .ok (.areturn, 1) := by decide +kernel
theorem d1_409 : decode method_4_code 409 = .ok (.ldc 69, 2) := by decide +kernel
theorem d1_411 : decode method_4_code 411 = .ok (.areturn, 1) := by decide +kernel
theorem d1_412 : decode method_4_code 412 = .ok (.ldc 71, 2) := by decide +kernel
theorem d1_414 : decode method_4_code 414 = .ok (.areturn, 1) := by decide +kernel
theorem d1_415 : decode method_4_code 415 = .ok (.ldc 73, 2) := by decide +kernel
theorem d1_417 : decode method_4_code 417 = .ok (.areturn, 1) := by decide +kernel
theorem d1_418 : decode method_4_code 418 = .ok (.ldc 75, 2) := by decide +kernel
theorem d1_420 : decode method_4_code 420 = .ok (.areturn, 1) := by decide +kernel
theorem d1_421 : decode method_4_code 421 = .ok (.ldc 77, 2) := by decide +kernel
theorem d1_423 : decode method_4_code 423 = .ok (.areturn, 1) := by decide +kernel
theorem d1_424 : decode method_4_code 424 = .ok (.ldc 79, 2) := by decide +kernel
theorem d1_426 : decode method_4_code 426 = .ok (.areturn, 1) := by decide +kernel
theorem d1_427 : decode method_4_code 427 = .ok (.ldc 81, 2) := by decide +kernel
theorem d1_429 : decode method_4_code 429 = .ok (.areturn, 1) := by decide +kernel
theorem d1_430 : decode method_4_code 430 = .ok (.ldc 83, 2) := by decide +kernel
theorem d1_432 : decode method_4_code 432 = .ok (.areturn, 1) := by decide +kernel
theorem d1_433 : decode method_4_code 433 = .ok (.aconst_null, 1) := by decide +kernel
theorem d1_434 : decode method_4_code 434 = .ok (.areturn, 1) := by decide +kernel
theorem d1_435 : decode method_4_code 435 = .ok (.iload_n 1, 1) := by decide +kernel
theorem d1_436 : decode method_4_code 436 = .ok (.iconst 3, 1) := by decide +kernel
theorem d1_437 : decode method_4_code 437 = .ok (.iand, 1) := by decide +kernel
theorem d1_438 : decode method_4_code 438 = .ok (.istore 11, 2) := by decide +kernel
theorem d1_440 : decode method_4_code 440 = .ok (.iload 11, 2) := by decide +kernel
theorem d1_442 : decode method_4_code 442 = .ok (.ifCond .ne 14, 3) := by decide +kernel
theorem d1_445 : decode method_4_code 445 = .ok (.new 38, 3) := by decide +kernel
theorem d1_448 : decode method_4_code 448 = .ok (.dup, 1) := by decide +kernel
theorem d1_449 : decode method_4_code 449 = .ok (.iconst 0, 1) := by decide +kernel
theorem d1_450 : decode method_4_code 450 = .ok (.newarray .char, 2) := by decide +kernel
theorem d1_452 : decode method_4_code 452 = .ok (.invokespecial 60, 3) := by decide +kernel
theorem d1_455 : decode method_4_code 455 = .ok (.areturn, 1) := by decide +kernel
theorem d1_456 : decode method_4_code 456 = .ok (.iload 11, 2) := by decide +kernel
theorem d1_458 : decode method_4_code 458 = .ok (.iconst 1, 1) := by decide +kernel
theorem d1_459 : decode method_4_code 459 = .ok (.if_icmp .ne 9, 3) := by decide +kernel
theorem d1_462 : decode method_4_code 462 = .ok (.iload 8, 2) := by decide +kernel
theorem d1_464 : decode method_4_code 464 = .ok (.invokestatic 85, 3) := by decide +kernel
theorem d1_467 : decode method_4_code 467 = .ok (.areturn, 1) := by decide +kernel
theorem d1_468 : decode method_4_code 468 = .ok (.iload 11, 2) := by decide +kernel
theorem d1_470 : decode method_4_code 470 = .ok (.iconst 2, 1) := by decide +kernel
theorem d1_471 : decode method_4_code 471 = .ok (.if_icmp .ne 24, 3) := by decide +kernel
theorem d1_474 : decode method_4_code 474 = .ok (.new 38, 3) := by decide +kernel
theorem d1_477 : decode method_4_code 477 = .ok (.dup, 1) := by decide +kernel
theorem d1_478 : decode method_4_code 478 = .ok (.iconst 2, 1) := by decide +kernel
theorem d1_479 : decode method_4_code 479 = .ok (.newarray .char, 2) := by decide +kernel
theorem d1_481 : decode method_4_code 481 = .ok (.dup, 1) := by decide +kernel
theorem d1_482 : decode method_4_code 482 = .ok (.iconst 0, 1) := by decide +kernel
theorem d1_483 : decode method_4_code 483 = .ok (.iload 8, 2) := by decide +kernel
theorem d1_485 : decode method_4_code 485 = .ok (.castore, 1) := by decide +kernel
theorem d1_486 : decode method_4_code 486 = .ok (.dup, 1) := by decide +kernel
theorem d1_487 : decode method_4_code 487 = .ok (.iconst 1, 1) := by decide +kernel
theorem d1_488 : decode method_4_code 488 = .ok (.iload 9, 2) := by decide +kernel
theorem d1_490 : decode method_4_code 490 = .ok (.castore, 1) := by decide +kernel
theorem d1_491 : decode method_4_code 491 = .ok (.invokespecial 60, 3) := by decide +kernel
theorem d1_494 : decode method_4_code 494 = .ok (.areturn, 1) := by decide +kernel
theorem d1_495 : decode method_4_code 495 = .ok (.new 38, 3) := by decide +kernel
theorem d1_498 : decode method_4_code 498 = .ok (.dup, 1) := by decide +kernel
theorem d1_499 : decode method_4_code 499 = .ok (.iconst 3, 1) := by decide +kernel
theorem d1_500 : decode method_4_code 500 = .ok (.newarray .char, 2) := by decide +kernel
theorem d1_502 : decode method_4_code 502 = .ok (.dup, 1) := by decide +kernel
theorem d1_503 : decode method_4_code 503 = .ok (.iconst 0, 1) := by decide +kernel
theorem d1_504 : decode method_4_code 504 = .ok (.iload 8, 2) := by decide +kernel
theorem d1_506 : decode method_4_code 506 = .ok (.castore, 1) := by decide +kernel
theorem d1_507 : decode method_4_code 507 = .ok (.dup, 1) := by decide +kernel
theorem d1_508 : decode method_4_code 508 = .ok (.iconst 1, 1) := by decide +kernel
theorem d1_509 : decode method_4_code 509 = .ok (.iload 9, 2) := by decide +kernel
theorem d1_511 : decode method_4_code 511 = .ok (.castore, 1) := by decide +kernel
theorem d1_512 : decode method_4_code 512 = .ok (.dup, 1) := by decide +kernel
theorem d1_513 : decode method_4_code 513 = .ok (.iconst 2, 1) := by decide +kernel
theorem d1_514 : decode method_4_code 514 = .ok (.iload 10, 2) := by decide +kernel
theorem d1_516 : decode method_4_code 516 = .ok (.castore, 1) := by decide +kernel
theorem d1_517 : decode method_4_code 517 = .ok (.invokespecial 60, 3) := by decide +kernel
theorem d1_520 : decode method_4_code 520 = .ok (.areturn, 1) := by decide +kernel
theorem d2_0 : decode method_3_code 0 = .ok (.ldc 43, 2) := by decide +kernel
theorem d2_2 : decode method_3_code 2 = .ok (.aload_n 0, 1) := by decide +kernel
theorem d2_3 : decode method_3_code 3 = .ok (.invokevirtual 37, 3) := by decide +kernel
theorem d2_6 : decode method_3_code 6 = .ok (.ifCond .eq 7, 3) := by decide +kernel
theorem d2_9 : decode method_3_code 9 = .ok (.getstatic 45, 3) := by decide +kernel
theorem d2_12 : decode method_3_code 12 = .ok (.areturn, 1) := by decide +kernel
theorem d2_13 : decode method_3_code 13 = .ok (.ldc 49, 2) := by decide +kernel
theorem d2_15 : decode method_3_code 15 = .ok (.aload_n 0, 1) := by decide +kernel
theorem d2_16 : decode method_3_code 16 = .ok (.invokevirtual 37, 3) := by decide +kernel
theorem d2_19 : decode method_3_code 19 = .ok (.ifCond .eq 7, 3) := by decide +kernel
theorem d2_22 : decode method_3_code 22 = .ok (.getstatic 51, 3) := by decide +kernel
theorem d2_25 : decode method_3_code 25 = .ok (.areturn, 1) := by decide +kernel
theorem d2_26 : decode method_3_code 26 = .ok (.ldc 54, 2) := by decide +kernel
theorem d2_28 : decode method_3_code 28 = .ok (.aload_n 0, 1) := by decide +kernel
theorem d2_29 : decode method_3_code 29 = .ok (.invokevirtual 37, 3) := by decide +kernel
theorem d2_32 : decode method_3_code 32 = .ok (.ifCond .eq 7, 3) := by decide +kernel
theorem d2_35 : decode method_3_code 35 = .ok (.getstatic 56, 3) := by decide +kernel
theorem d2_38 : decode method_3_code 38 = .ok (.areturn, 1) := by decide +kernel
theorem d2_39 : decode method_3_code 39 = .ok (.aconst_null, 1) := by decide +kernel
theorem d2_40 : decode method_3_code 40 = .ok (.areturn, 1) := by decide +kernel
theorem d3_0 : decode jdk_42_method_66_code 0 = .ok (.aload_n 0, 1) := by decide +kernel
theorem d3_1 : decode jdk_42_method_66_code 1 = .ok (.aload_n 1, 1) := by decide +kernel
theorem d3_2 : decode jdk_42_method_66_code 2 = .ok (.if_acmp .ne 5, 3) := by decide +kernel
theorem d3_7 : decode jdk_42_method_66_code 7 = .ok (.aload_n 1, 1) := by decide +kernel
theorem d3_8 : decode jdk_42_method_66_code 8 = .ok (.instanceof 10, 3) := by decide +kernel
theorem d3_11 : decode jdk_42_method_66_code 11 = .ok (.ifCond .eq 43, 3) := by decide +kernel
theorem d3_54 : decode jdk_42_method_66_code 54 = .ok (.iconst 0, 1) := by decide +kernel
theorem d3_55 : decode jdk_42_method_66_code 55 = .ok (.ireturn, 1) := by decide +kernel
theorem d4_0 : decode prog_1_method_6_code 0 = .ok (.invokestatic 39, 3) := by decide +kernel
theorem d4_3 : decode prog_1_method_6_code 3 = .ok (.astore_n 1, 1) := by decide +kernel
theorem d4_4 : decode prog_1_method_6_code 4 = .ok (.aload_n 1, 1) := by decide +kernel
theorem d4_5 : decode prog_1_method_6_code 5 = .ok (.arraylength, 1) := by decide +kernel
theorem d4_6 : decode prog_1_method_6_code 6 = .ok (.istore_n 2, 1) := by decide +kernel
theorem d4_7 : decode prog_1_method_6_code 7 = .ok (.iconst 0, 1) := by decide +kernel
theorem d4_8 : decode prog_1_method_6_code 8 = .ok (.istore_n 3, 1) := by decide +kernel
theorem d4_9 : decode prog_1_method_6_code 9 = .ok (.iload_n 3, 1) := by decide +kernel
theorem d4_10 : decode prog_1_method_6_code 10 = .ok (.iload_n 2, 1) := by decide +kernel
theorem d4_11 : decode prog_1_method_6_code 11 = .ok (.if_icmp .ge 32, 3) := by decide +kernel
theorem d4_14 : decode prog_1_method_6_code 14 = .ok (.aload_n 1, 1) := by decide +kernel
theorem d4_15 : decode prog_1_method_6_code 15 = .ok (.iload_n 3, 1) := by decide +kernel
theorem d4_16 : decode prog_1_method_6_code 16 = .ok (.aaload, 1) := by decide +kernel
theorem d4_17 : decode prog_1_method_6_code 17 = .ok (.astore 4, 2) := by decide +kernel
theorem d4_19 : decode prog_1_method_6_code 19 = .ok (.aload 4, 2) := by decide +kernel
theorem d4_21 : decode prog_1_method_6_code 21 = .ok (.getfield 36, 3) := by decide +kernel
theorem d4_24 : decode prog_1_method_6_code 24 = .ok (.aload_n 0, 1) := by decide +kernel
theorem d4_25 : decode prog_1_method_6_code 25 = .ok (.invokevirtual 43, 3) := by decide +kernel
theorem d4_28 : decode prog_1_method_6_code 28 = .ok (.ifCond .eq 9, 3) := by decide +kernel
theorem d4_31 : decode prog_1_method_6_code 31 = .ok (.aload 4, 2) := by decide +kernel
theorem d4_33 : decode prog_1_method_6_code 33 = .ok (.invokestatic 49, 3) := by decide +kernel
theorem d4_36 : decode prog_1_method_6_code 36 = .ok (.areturn, 1) := by decide +kernel
theorem d4_37 : decode prog_1_method_6_code 37 = .ok (.iinc 3 1, 3) := by decide +kernel
theorem d4_40 : decode prog_1_method_6_code 40 = .ok (.goto (-31), 3) := by decide +kernel
theorem d4_43 : decode prog_1_method_6_code 43 = .ok (.invokestatic 55, 3) := by decide +kernel
theorem d4_46 : decode prog_1_method_6_code 46 = .ok (.areturn, 1) := by decide +kernel
theorem d5_0 : decode prog_1_method_1_code 0 = .ok (.getstatic 13, 3) := by decide +kernel
theorem d5_3 : decode prog_1_method_1_code 3 = .ok (.invokevirtual 17, 3) := by decide +kernel
theorem d5_6 : decode prog_1_method_1_code 6 = .ok (.checkcast 18, 3) := by decide +kernel
theorem d5_9 : decode prog_1_method_1_code 9 = .ok (.areturn, 1) := by decide +kernel
theorem d7_0 : decode jdk_32_method_3_code 0 = .ok (.new 2, 3) := by decide +kernel
theorem d7_3 : decode jdk_32_method_3_code 3 = .ok (.dup, 1) := by decide +kernel
theorem d7_4 : decode jdk_32_method_3_code 4 = .ok (.aload_n 0, 1) := by decide +kernel
theorem d7_5 : decode jdk_32_method_3_code 5 = .ok (.invokestatic 17, 3) := by decide +kernel
theorem d7_8 : decode jdk_32_method_3_code 8 = .ok (.invokespecial 23, 3) := by decide +kernel
theorem d7_11 : decode jdk_32_method_3_code 11 = .ok (.areturn, 1) := by decide +kernel
theorem d8_0 : decode jdk_31_method_10_code 0 = .ok (.aload_n 0, 1) := by decide +kernel
theorem d8_1 : decode jdk_31_method_10_code 1 = .ok (.ifnonnull 11, 3) := by decide +kernel
theorem d8_12 : decode jdk_31_method_10_code 12 = .ok (.aload_n 0, 1) := by decide +kernel
theorem d8_13 : decode jdk_31_method_10_code 13 = .ok (.areturn, 1) := by decide +kernel
theorem d9_0 : decode jdk_32_method_2_code 0 = .ok (.aload_n 0, 1) := by decide +kernel
theorem d9_1 : decode jdk_32_method_2_code 1 = .ok (.invokespecial 7, 3) := by decide +kernel
theorem d9_4 : decode jdk_32_method_2_code 4 = .ok (.aload_n 0, 1) := by decide +kernel
theorem d9_5 : decode jdk_32_method_2_code 5 = .ok (.aload_n 1, 1) := by decide +kernel
theorem d9_6 : decode jdk_32_method_2_code 6 = .ok (.putfield 13, 3) := by decide +kernel
theorem d9_9 : decode jdk_32_method_2_code 9 = .ok (.return_, 1) := by decide +kernel
theorem d11_0 : decode jdk_32_method_6_code 0 = .ok (.aload_n 0, 1) := by decide +kernel
theorem d11_1 : decode jdk_32_method_6_code 1 = .ok (.getfield 13, 3) := by decide +kernel
theorem d11_4 : decode jdk_32_method_6_code 4 = .ok (.ifnull 7, 3) := by decide +kernel
theorem d11_7 : decode jdk_32_method_6_code 7 = .ok (.iconst 1, 1) := by decide +kernel
theorem d11_8 : decode jdk_32_method_6_code 8 = .ok (.goto 4, 3) := by decide +kernel
theorem d11_11 : decode jdk_32_method_6_code 11 = .ok (.iconst 0, 1) := by decide +kernel
theorem d11_12 : decode jdk_32_method_6_code 12 = .ok (.ireturn, 1) := by decide +kernel
theorem d12_0 : decode jdk_32_method_5_code 0 = .ok (.aload_n 0, 1) := by decide +kernel
theorem d12_1 : decode jdk_32_method_5_code 1 = .ok (.getfield 13, 3) := by decide +kernel
theorem d12_4 : decode jdk_32_method_5_code 4 = .ok (.ifnonnull 13, 3) := by decide +kernel
theorem d12_17 : decode jdk_32_method_5_code 17 = .ok (.aload_n 0, 1) := by decide +kernel
theorem d12_18 : decode jdk_32_method_5_code 18 = .ok (.getfield 13, 3) := by decide +kernel
theorem d12_21 : decode jdk_32_method_5_code 21 = .ok (.areturn, 1) := by decide +kernel
theorem d13_0 : decode prog_1_method_5_code 0 = .ok (.aload_n 0, 1) := by decide +kernel
theorem d13_1 : decode prog_1_method_5_code 1 = .ok (.getfield 36, 3) := by decide +kernel
theorem d13_4 : decode prog_1_method_5_code 4 = .ok (.areturn, 1) := by decide +kernel
theorem d14_0 : decode jdk_42_method_3_code 0 = .ok (.aload_n 0, 1) := by decide +kernel
theorem d14_1 : decode jdk_42_method_3_code 1 = .ok (.aload_n 1, 1) := by decide +kernel
theorem d14_2 : decode jdk_42_method_3_code 2 = .ok (.iconst 0, 1) := by decide +kernel
theorem d14_3 : decode jdk_42_method_3_code 3 = .ok (.aload_n 1, 1) := by decide +kernel
theorem d14_4 : decode jdk_42_method_3_code 4 = .ok (.arraylength, 1) := by decide +kernel
theorem d14_5 : decode jdk_42_method_3_code 5 = .ok (.aconst_null, 1) := by decide +kernel
theorem d14_6 : decode jdk_42_method_3_code 6 = .ok (.invokespecial 27, 3) := by decide +kernel
theorem d14_9 : decode jdk_42_method_3_code 9 = .ok (.return_, 1) := by decide +kernel
theorem d15_0 : decode jdk_42_method_149_code 0 = .ok (.aload_n 0, 1) := by decide +kernel
theorem d15_1 : decode jdk_42_method_149_code 1 = .ok (.invokespecial 1, 3) := by decide +kernel
theorem d15_4 : decode jdk_42_method_149_code 4 = .ok (.iload_n 3, 1) := by decide +kernel
theorem d15_5 : decode jdk_42_method_149_code 5 = .ok (.ifCond .ne 22, 3) := by decide +kernel
theorem d15_8 : decode jdk_42_method_149_code 8 = .ok (.aload_n 0, 1) := by decide +kernel
theorem d15_9 : decode jdk_42_method_149_code 9 = .ok (.ldc 7, 2) := by decide +kernel
theorem d15_11 : decode jdk_42_method_149_code 11 = .ok (.getfield 9, 3) := by decide +kernel
theorem d15_14 : decode jdk_42_method_149_code 14 = .ok (.putfield 9, 3) := by decide +kernel
theorem d15_17 : decode jdk_42_method_149_code 17 = .ok (.aload_n 0, 1) := by decide +kernel
theorem d15_18 : decode jdk_42_method_149_code 18 = .ok (.ldc 7, 2) := by decide +kernel
theorem d15_20 : decode jdk_42_method_149_code 20 = .ok (.getfield 15, 3) := by decide +kernel
theorem d15_23 : decode jdk_42_method_149_code 23 = .ok (.putfield 15, 3) := by decide +kernel
theorem d15_26 : decode jdk_42_method_149_code 26 = .ok (.return_, 1) := by decide +kernel
theorem d19_0 : decode jdk_32_method_1_code 0 = .ok (.getstatic 1, 3) := by decide +kernel
theorem d19_3 : decode jdk_32_method_1_code 3 = .ok (.astore_n 0, 1) := by decide +kernel
theorem d19_4 : decode jdk_32_method_1_code 4 = .ok (.aload_n 0, 1) := by decide +kernel
theorem d19_5 : decode jdk_32_method_1_code 5 = .ok (.areturn, 1) := by decide +kernel
theorem d20_0 : decode jdk_42_method_139_code 0 = .ok (.getstatic 38, 3) := by decide +kernel
theorem d20_3 : decode jdk_42_method_139_code 3 = .ok (.ifCond .eq 23, 3) := by decide +kernel
theorem d20_6 : decode jdk_42_method_139_code 6 = .ok (.iload_n 0, 1) := by decide +kernel
theorem d20_7 : decode jdk_42_method_139_code 7 = .ok (.invokestatic 1015, 3) := by decide +kernel
theorem d20_10 : decode jdk_42_method_139_code 10 = .ok (.ifCond .eq 16, 3) := by decide +kernel
theorem d20_13 : decode jdk_42_method_139_code 13 = .ok (.new 10, 3) := by decide +kernel
theorem d20_16 : decode jdk_42_method_139_code 16 = .ok (.dup, 1) := by decide +kernel
theorem d20_17 : decode jdk_42_method_139_code 17 = .ok (.iload_n 0, 1) := by decide +kernel
theorem d20_18 : decode jdk_42_method_139_code 18 = .ok (.invokestatic 1018, 3) := by decide +kernel
theorem d20_21 : decode jdk_42_method_139_code 21 = .ok (.iconst 0, 1) := by decide +kernel
theorem d20_22 : decode jdk_42_method_139_code 22 = .ok (.invokespecial 209, 3) := by decide +kernel
theorem d20_25 : decode jdk_42_method_139_code 25 = .ok (.areturn, 1) := by decide +kernel
theorem d21_0 : decode jdk_43_method_3_code 0 = .ok (.iload_n 0, 1) := by decide +kernel
theorem d21_1 : decode jdk_43_method_3_code 1 = .ok (.sipush 255, 3) := by decide +kernel
theorem d21_4 : decode jdk_43_method_3_code 4 = .ok (.if_icmp .gt 7, 3) := by decide +kernel
theorem d21_7 : decode jdk_43_method_3_code 7 = .ok (.iconst 1, 1) := by decide +kernel
theorem d21_8 : decode jdk_43_method_3_code 8 = .ok (.goto 4, 3) := by decide +kernel
theorem d21_12 : decode jdk_43_method_3_code 12 = .ok (.ireturn, 1) := by decide +kernel
theorem d22_0 : decode jdk_43_method_46_code 0 = .ok (.iconst 1, 1) := by decide +kernel
theorem d22_1 : decode jdk_43_method_46_code 1 = .ok (.newarray .byte, 2) := by decide +kernel
theorem d22_3 : decode jdk_43_method_46_code 3 = .ok (.dup, 1) := by decide +kernel
theorem d22_4 : decode jdk_43_method_46_code 4 = .ok (.iconst 0, 1) := by decide +kernel
theorem d22_5 : decode jdk_43_method_46_code 5 = .ok (.iload_n 0, 1) := by decide +kernel
theorem d22_6 : decode jdk_43_method_46_code 6 = .ok (.i2b, 1) := by decide +kernel
theorem d22_7 : decode jdk_43_method_46_code 7 = .ok (.bastore, 1) := by decide +kernel
theorem d22_8 : decode jdk_43_method_46_code 8 = .ok (.areturn, 1) := by decide +kernel
theorem d23_0 : decode jdk_42_method_151_code 0 = .ok (.aload_n 0, 1) := by decide +kernel
theorem d23_1 : decode jdk_42_method_151_code 1 = .ok (.invokespecial 1, 3) := by decide +kernel
theorem d23_4 : decode jdk_42_method_151_code 4 = .ok (.aload_n 0, 1) := by decide +kernel
theorem d23_5 : decode jdk_42_method_151_code 5 = .ok (.aload_n 1, 1) := by decide +kernel
theorem d23_6 : decode jdk_42_method_151_code 6 = .ok (.putfield 9, 3) := by decide +kernel
theorem d23_9 : decode jdk_42_method_151_code 9 = .ok (.aload_n 0, 1) := by decide +kernel
theorem d23_10 : decode jdk_42_method_151_code 10 = .ok (.iload_n 2, 1) := by decide +kernel
theorem d23_11 : decode jdk_42_method_151_code 11 = .ok (.putfield 15, 3) := by decide +kernel
theorem d23_14 : decode jdk_42_method_151_code 14 = .ok (.return_, 1) := by decide +kernel
theorem pn0 : plainName "java/lang/String" = true := by first | (simp [plainName, overriddenIn]; done) | decide +kernel
theorem pn1 : plainName "java/lang/StringLatin1" = true := by first | (simp [plainName, overriddenIn]; done) | decide +kernel
theorem pn2 : plainName "java/util/Objects" = true := by first | (simp [plainName, overriddenIn]; done) | decide +kernel
theorem pn3 : plainName "java/util/Optional" = true := by first | (simp [plainName, overriddenIn]; done) | decide +kernel
theorem pn4 : plainName "com/example/loginconv/loginconv/AuthorizableKind" = true := by first | (simp [plainName, overriddenIn]; done) | decide +kernel
theorem pn5 : plainName "com/example/loginconv/loginconv/AuthorizableKindOfPrimaryTypePinLaw" = true := by first | (simp [plainName, overriddenIn]; done) | decide +kernel
theorem pd0 : parseMethodDescriptor "([CIILjava/lang/Void;)V" = some ⟨[(.array .char), .int, .int, (.object "java/lang/Void")], none⟩ := by decide +kernel
theorem pd1 : parseMethodDescriptor "(C)Z" = some ⟨[.char], some .boolean⟩ := by decide +kernel
theorem pd2 : parseMethodDescriptor "(C)[B" = some ⟨[.char], some (.array .byte)⟩ := by decide +kernel
theorem pd3 : parseMethodDescriptor "([BB)V" = some ⟨[(.array .byte), .byte], none⟩ := by decide +kernel
theorem pd4 : parseMethodDescriptor "(Ljava/lang/Object;)Ljava/lang/Object;" = some ⟨[(.object "java/lang/Object")], some (.object "java/lang/Object")⟩ := by decide +kernel
theorem pd5 : parseMethodDescriptor "(Ljava/lang/Object;)V" = some ⟨[(.object "java/lang/Object")], none⟩ := by decide +kernel
theorem pd6 : parseMethodDescriptor "([C)V" = some ⟨[(.array .char)], none⟩ := by decide +kernel
theorem pd7 : parseMethodDescriptor "(C)Ljava/lang/String;" = some ⟨[.char], some (.object "java/lang/String")⟩ := by decide +kernel
theorem pd8 : parseMethodDescriptor "(Ljava/lang/Object;)Z" = some ⟨[(.object "java/lang/Object")], some .boolean⟩ := by decide +kernel
theorem pd9 : parseMethodDescriptor "()[Lcom/example/loginconv/loginconv/AuthorizableKind;" = some ⟨[], some (.array (.object "com/example/loginconv/loginconv/AuthorizableKind"))⟩ := by decide +kernel
theorem pd10 : parseMethodDescriptor "()Ljava/util/Optional;" = some ⟨[], some (.object "java/util/Optional")⟩ := by decide +kernel
theorem pd11 : parseMethodDescriptor "(Ljava/lang/Object;)Ljava/util/Optional;" = some ⟨[(.object "java/lang/Object")], some (.object "java/util/Optional")⟩ := by decide +kernel
theorem pd12 : parseMethodDescriptor "(IIIIII)Ljava/lang/String;" = some ⟨[.int, .int, .int, .int, .int, .int], some (.object "java/lang/String")⟩ := by decide +kernel
theorem pd13 : parseMethodDescriptor "(Ljava/lang/String;)Lcom/example/loginconv/loginconv/AuthorizableKind;" = some ⟨[(.object "java/lang/String")], some (.object "com/example/loginconv/loginconv/AuthorizableKind")⟩ := by decide +kernel
theorem pd14 : parseMethodDescriptor "(Ljava/lang/String;)Ljava/util/Optional;" = some ⟨[(.object "java/lang/String")], some (.object "java/util/Optional")⟩ := by decide +kernel
theorem pd15 : parseMethodDescriptor "()Z" = some ⟨[], some .boolean⟩ := by decide +kernel
theorem pd16 : parseMethodDescriptor "()Ljava/lang/Object;" = some ⟨[], some (.object "java/lang/Object")⟩ := by decide +kernel
theorem pd17 : parseMethodDescriptor "()Ljava/lang/String;" = some ⟨[], some (.object "java/lang/String")⟩ := by decide +kernel
set_option maxRecDepth 65536 in
set_option maxHeartbeats 40000000 in
theorem ct_i4e {l : Launch} {Z : State} {a0 : Array Value} {n0 : Nat} {g1 : Int32} {e0 e1 e2 va q0 q1 q2 r0 r1 r2 : Addr} {kva : ClassId} {em : Addr} (cx : Ctx Z a0 n0 g1 e0 e1 e2 va q0 q1 q2 r0 r1 r2 kva em) {h : Heap} (O : Old Z n0 h) (a b : Addr) (E_a : Exa Z h a "java/lang/String") (F_value_a : Fld Z h a "java/lang/String" "value" "[B" .null) (F_coder_a : Fld Z h a "java/lang/String" "coder" "B" (.int 0)) (g_a : n0 ≤ a) :
    Ct l Z consts_1 n0 [] (⟨"java/lang/String", "<init>", "([CIILjava/lang/Void;)V"⟩ : MethodName) jdk_42_method_149_code 6 none ({ frames := 1, cells := 4, slots := 8, locals := 12 } : Room) #[(.ref a), (.ref b), (.int (0 : Int32)), (.int (0 : Int32)), .null] [a] h (fun v _ h' => v = none ∧ Keep h h' [a] ∧ ∃ t, StrAt Z h' a t []) := by
  refine Ct.intro (plainFor_of_name pn0) O cx.ew ?_
  intro p_ e_ s_ m_ bl_ mt_ c_ T0 W0 hby hml hret hnm
  refine Go.st (fun t_ k_ => castTop (g' := mkF m_ 0 #[.val (.ref a), .val (.ref b), .val (.int (0 : Int32)), .val (.int (0 : Int32)), .val .null, .unset] []) (by first | (simp [entryFrame, mkF, argsToLocals, Value.category]; done) | rfl) k_) ?_
  show Go p_ e_ bl_ _ (T0.setTop (mkF m_ 0 #[.val (.ref a), .val (.ref b), .val (.int (0 : Int32)), .val (.int (0 : Int32)), .val .null, .unset] []))
  have K0 : Keep h h [a] := Keep.refl _ _
  refine Go.st (fun _ => XS.aloadN W0.here W0.ex rfl (hb hby d15_0) rfl rfl) ?_
  show Go p_ e_ bl_ _ (T0.setTop (mkF m_ 1 #[.val (.ref a), .val (.ref b), .val (.int (0 : Int32)), .val (.int (0 : Int32)), .val .null, .unset] [(.ref a)]))
  refine W0.initO (cx.w 100 rfl) (cx.w 71 rfl) (cx.w 72 rfl) (by rw [hml]; rfl) (hb hby d15_1) (by decide) (Wd := 0) (Nat.le_of_eq rfl) (by decide) ?_
  intro T1 W1
  show Go p_ e_ bl_ _ (T1.setTop (mkF m_ 4 #[.val (.ref a), .val (.ref b), .val (.int (0 : Int32)), .val (.int (0 : Int32)), .val .null, .unset] []))
  refine Go.st (fun _ => XS.iloadN W1.here W1.ex rfl (hb hby d15_4) rfl) ?_
  show Go p_ e_ bl_ _ (T1.setTop (mkF m_ 5 #[.val (.ref a), .val (.ref b), .val (.int (0 : Int32)), .val (.int (0 : Int32)), .val .null, .unset] [(.int (0 : Int32))]))
  refine Go.st (fun _ => XS.ifNo W1.here W1.ex rfl (hb hby d15_5) rfl ((if0 _ _).trans (teq (rfl : (0 : Int32) = (0 : Int32))).2)) ?_
  show Go p_ e_ bl_ _ (T1.setTop (mkF m_ 8 #[.val (.ref a), .val (.ref b), .val (.int (0 : Int32)), .val (.int (0 : Int32)), .val .null, .unset] []))
  refine Go.st (fun _ => XS.aloadN W1.here W1.ex rfl (hb hby d15_8) rfl rfl) ?_
  show Go p_ e_ bl_ _ (T1.setTop (mkF m_ 9 #[.val (.ref a), .val (.ref b), .val (.int (0 : Int32)), .val (.int (0 : Int32)), .val .null, .unset] [(.ref a)]))
  refine W1.ldc (cx.w 120 rfl) cx.str (EL := consts_1) (List.mem_of_getElem? (i := 14) rfl) (vs := []) (z := 0) ⟨by decide, rfl⟩ (by decide) rfl (hb hby d15_9) (j := 0) (by decide) (by decide) (k' := 2) (n' := 4) rfl rfl (by decide) (by decide) ?_
  intro vm2 T2 h2 a2 d2 kA_d2 W2 E2 E_a2 F_coder_a2 F_value_a2 V_d2 nl2
  replace E_a := E_a.ext E2
  replace F_value_a := F_value_a.ext E2
  replace F_coder_a := F_coder_a.ext E2
  replace K0 := K0.ext E2
  show Go p_ e_ bl_ _ (T2.setTop (mkF m_ 11 #[.val (.ref a), .val (.ref b), .val (.int (0 : Int32)), .val (.int (0 : Int32)), .val .null, .unset] [(.ref a2), (.ref a)]))
  refine W2.getF (cx.w 51 rfl) Via.refl F_value_a2 (hb hby d15_11) ?_
  intro T3 W3
  show Go p_ e_ bl_ _ (T3.setTop (mkF m_ 14 #[.val (.ref a), .val (.ref b), .val (.int (0 : Int32)), .val (.int (0 : Int32)), .val .null, .unset] [(.ref d2), (.ref a)]))
  refine W3.putF (cx.w 51 rfl) Via.refl F_value_a E_a (Or.inr ⟨(cx.w 9 rfl), rfl, hnm⟩) (cx.w 7 rfl) (ty := (.array .byte)) (by decide) rfl rfl (List.mem_of_getElem? (i := 0) rfl) g_a (hb hby d15_14) ?_
  intro T4 h4 L4 W4 w4
  replace E_a := E_a.wr w4
  replace F_value_a := F_value_a.same w4
  replace F_coder_a := F_coder_a.other w4 (Or.inr (slot_ne (Or.inr (cx.w 10 rfl)) (Or.inr (cx.w 9 rfl)) (by decide) (t := .byte) (t' := (.array .byte)) (by decide) (by decide)))
  replace E_a2 := E_a2.wr w4
  replace F_coder_a2 := F_coder_a2.other w4 (Or.inl (Ne.symm (nl2 a (List.mem_of_getElem? (i := 0) rfl)).1))
  replace F_value_a2 := F_value_a2.other w4 (Or.inl (Ne.symm (nl2 a (List.mem_of_getElem? (i := 0) rfl)).1))
  replace V_d2 := V_d2.other w4 (Ne.symm (nl2 a (List.mem_of_getElem? (i := 0) rfl)).2)
  replace K0 := K0.wr w4 (Or.inl (List.mem_of_getElem? (i := 0) rfl))
  show Go p_ e_ bl_ _ (T4.setTop (mkF m_ 17 #[.val (.ref a), .val (.ref b), .val (.int (0 : Int32)), .val (.int (0 : Int32)), .val .null, .unset] []))
  refine Go.st (fun _ => XS.aloadN W4.here W4.ex rfl (hb hby d15_17) rfl rfl) ?_
  show Go p_ e_ bl_ _ (T4.setTop (mkF m_ 18 #[.val (.ref a), .val (.ref b), .val (.int (0 : Int32)), .val (.int (0 : Int32)), .val .null, .unset] [(.ref a)]))
  refine W4.ldc (cx.w 120 rfl) cx.str (EL := consts_1) (List.mem_of_getElem? (i := 14) rfl) (vs := []) (z := 0) ⟨by decide, rfl⟩ (by decide) rfl (hb hby d15_18) (j := 0) (by decide) (by decide) (k' := 4) (n' := 8) rfl rfl (by decide) (by decide) ?_
  intro vm5 T5 h5 a5 d5 kA_d5 W5 E5 E_a5 F_coder_a5 F_value_a5 V_d5 nl5
  replace E_a := E_a.ext E5
  replace F_value_a := F_value_a.ext E5
  replace F_coder_a := F_coder_a.ext E5
  replace E_a2 := E_a2.ext E5
  replace F_coder_a2 := F_coder_a2.ext E5
  replace F_value_a2 := F_value_a2.ext E5
  replace V_d2 := V_d2.ext E5
  replace K0 := K0.ext E5
  show Go p_ e_ bl_ _ (T5.setTop (mkF m_ 20 #[.val (.ref a), .val (.ref b), .val (.int (0 : Int32)), .val (.int (0 : Int32)), .val .null, .unset] [(.ref a5), (.ref a)]))
  refine W5.getF (cx.w 50 rfl) Via.refl F_coder_a5 (hb hby d15_20) ?_
  intro T6 W6
  show Go p_ e_ bl_ _ (T6.setTop (mkF m_ 23 #[.val (.ref a), .val (.ref b), .val (.int (0 : Int32)), .val (.int (0 : Int32)), .val .null, .unset] [(.int (0 : Int32)), (.ref a)]))
  refine W6.putF (cx.w 50 rfl) Via.refl F_coder_a E_a (Or.inr ⟨(cx.w 10 rfl), rfl, hnm⟩) (cx.w 7 rfl) (ty := .byte) (by decide) rfl rfl (List.mem_of_getElem? (i := 0) rfl) g_a (hb hby d15_23) ?_
  intro T7 h7 L7 W7 w7
  replace E_a := E_a.wr w7
  replace F_value_a := F_value_a.other w7 (Or.inr (slot_ne (Or.inr (cx.w 9 rfl)) (Or.inr (cx.w 10 rfl)) (by decide) (t := (.array .byte)) (t' := .byte) (by decide) (by decide)))
  replace F_coder_a := F_coder_a.same w7
  replace E_a2 := E_a2.wr w7
  replace F_coder_a2 := F_coder_a2.other w7 (Or.inl (Ne.symm (nl2 a (List.mem_of_getElem? (i := 0) rfl)).1))
  replace F_value_a2 := F_value_a2.other w7 (Or.inl (Ne.symm (nl2 a (List.mem_of_getElem? (i := 0) rfl)).1))
  replace V_d2 := V_d2.other w7 (Ne.symm (nl2 a (List.mem_of_getElem? (i := 0) rfl)).2)
  replace E_a5 := E_a5.wr w7
  replace F_coder_a5 := F_coder_a5.other w7 (Or.inl (Ne.symm (nl5 a (List.mem_of_getElem? (i := 0) rfl)).1))
  replace F_value_a5 := F_value_a5.other w7 (Or.inl (Ne.symm (nl5 a (List.mem_of_getElem? (i := 0) rfl)).1))
  replace V_d5 := V_d5.other w7 (Ne.symm (nl5 a (List.mem_of_getElem? (i := 0) rfl)).2)
  replace K0 := K0.wr w7 (Or.inl (List.mem_of_getElem? (i := 0) rfl))
  show Go p_ e_ bl_ _ (T7.setTop (mkF m_ 26 #[.val (.ref a), .val (.ref b), .val (.int (0 : Int32)), .val (.int (0 : Int32)), .val .null, .unset] []))
  exact W7.retV hret (hb hby d15_26) (by decide) (by decide) fun _ _ => ⟨rfl, K0, _, E_a, F_coder_a, F_value_a, ⟨_, V_d2⟩, Ch8.nil, Nat.zero_le _⟩
set_option maxRecDepth 65536 in
set_option maxHeartbeats 40000000 in
theorem ct_i1e {l : Launch} {Z : State} {a0 : Array Value} {n0 : Nat} {g1 : Int32} {e0 e1 e2 va q0 q1 q2 r0 r1 r2 : Addr} {kva : ClassId} {em : Addr} (cx : Ctx Z a0 n0 g1 e0 e1 e2 va q0 q1 q2 r0 r1 r2 kva em) {h : Heap} (O : Old Z n0 h) (a b : Addr) {kb : ClassId} (E_a : Exa Z h a "java/lang/String") (F_value_a : Fld Z h a "java/lang/String" "value" "[B" .null) (F_coder_a : Fld Z h a "java/lang/String" "coder" "B" (.int 0)) (g_a : n0 ≤ a) (V_b : Arv Z h b kb .char 0 [] (.int 0)) :
    Ct l Z consts_1 n0 [] (⟨"java/lang/String", "<init>", "([C)V"⟩ : MethodName) jdk_42_method_3_code 2 none ({ frames := 2, cells := 4, slots := 8, locals := 29 } : Room) #[(.ref a), (.ref b)] [a] h (fun v _ h' => v = none ∧ Keep h h' [a] ∧ ∃ t, StrAt Z h' a t []) := by
  refine Ct.intro (plainFor_of_name pn0) O cx.ew ?_
  intro p_ e_ s_ m_ bl_ mt_ c_ T0 W0 hby hml hret hnm
  refine Go.st (fun t_ k_ => castTop (g' := mkF m_ 0 #[.val (.ref a), .val (.ref b)] []) (by first | (simp [entryFrame, mkF, argsToLocals, Value.category]; done) | rfl) k_) ?_
  show Go p_ e_ bl_ _ (T0.setTop (mkF m_ 0 #[.val (.ref a), .val (.ref b)] []))
  refine Go.st (fun _ => XS.aloadN W0.here W0.ex rfl (hb hby d14_0) rfl rfl) ?_
  show Go p_ e_ bl_ _ (T0.setTop (mkF m_ 1 #[.val (.ref a), .val (.ref b)] [(.ref a)]))
  refine Go.st (fun _ => XS.aloadN W0.here W0.ex rfl (hb hby d14_1) rfl rfl) ?_
  show Go p_ e_ bl_ _ (T0.setTop (mkF m_ 2 #[.val (.ref a), .val (.ref b)] [(.ref b), (.ref a)]))
  refine Go.st (fun _ => XS.iconst W0.here W0.ex rfl (hb hby d14_2)) ?_
  show Go p_ e_ bl_ _ (T0.setTop (mkF m_ 3 #[.val (.ref a), .val (.ref b)] [(.int (0 : Int32)), (.ref b), (.ref a)]))
  refine Go.st (fun _ => XS.aloadN W0.here W0.ex rfl (hb hby d14_3) rfl rfl) ?_
  show Go p_ e_ bl_ _ (T0.setTop (mkF m_ 4 #[.val (.ref a), .val (.ref b)] [(.ref b), (.int (0 : Int32)), (.ref b), (.ref a)]))
  refine W0.alen V_b (hb hby d14_4) ?_
  show Go p_ e_ bl_ _ (T0.setTop (mkF m_ 5 #[.val (.ref a), .val (.ref b)] [(.int (0 : Int32)), (.int (0 : Int32)), (.ref b), (.ref a)]))
  refine Go.st (fun _ => XS.aconstNull W0.here W0.ex rfl (hb hby d14_5)) ?_
  show Go p_ e_ bl_ _ (T0.setTop (mkF m_ 6 #[.val (.ref a), .val (.ref b)] [.null, (.int (0 : Int32)), (.int (0 : Int32)), (.ref b), (.ref a)]))
  refine W0.callI (y := (⟨"java/lang/String", "<init>", "([CIILjava/lang/Void;)V"⟩ : MethodName)) rfl (cx.w 97 rfl) (cx.w 98 rfl) (cx.w 6 rfl) (cx.w 99 rfl) (by decide) (ct_i4e cx W0.old a b E_a F_value_a F_coder_a g_a) (allS (List.mem_of_getElem? (i := 0) rfl) all0) (by decide) (Wd := 0) (by decide) (k' := 4) (n' := 8) rfl rfl (by decide) (by decide) (by rw [hml]; rfl) (a := a) (argsL := [(.ref b), (.int (0 : Int32)), (.int (0 : Int32)), .null]) (rest := []) rfl (lenOf pd0 rfl) rfl (Nat.le_of_eq rfl) (hb hby d14_6) ?_
  intro v1 vm1 T1 h1 L1 W1 q1
  obtain ⟨rfl, K1, t1, S1⟩ := q1
  show Go p_ e_ bl_ _ (T1.setTop (mkF m_ 9 #[.val (.ref a), .val (.ref b)] []))
  exact W1.retV hret (hb hby d14_9) (by decide) (by decide) fun _ _ => ⟨rfl, K1, t1, S1⟩
set_option maxRecDepth 65536 in
set_option maxHeartbeats 40000000 in
theorem ct_canEnc {l : Launch} {Z : State} {a0 : Array Value} {n0 : Nat} {g1 : Int32} {e0 e1 e2 va q0 q1 q2 r0 r1 r2 : Addr} {kva : ClassId} {em : Addr} (cx : Ctx Z a0 n0 g1 e0 e1 e2 va q0 q1 q2 r0 r1 r2 kva em) {h : Heap} (O : Old Z n0 h) (c : Int32) (hc : ¬ c < 0 ∧ ¬ (255 : Int32) < c) :
    Ct l Z consts_1 n0 [] (⟨"java/lang/StringLatin1", "canEncode", "(C)Z"⟩ : MethodName) jdk_43_method_3_code 1 (some .boolean) ({ frames := 0, cells := 0, slots := 0, locals := 0 } : Room) #[(.int c)] [] h (fun v _ h' => v = some (.int 1) ∧ h' = h) := by
  refine Ct.intro (plainFor_of_name pn1) O cx.ew ?_
  intro p_ e_ s_ m_ bl_ mt_ c_ T0 W0 hby hml hret hnm
  refine Go.st (fun t_ k_ => castTop (g' := mkF m_ 0 #[.val (.int c)] []) (by first | (simp [entryFrame, mkF, argsToLocals, Value.category]; done) | rfl) k_) ?_
  show Go p_ e_ bl_ _ (T0.setTop (mkF m_ 0 #[.val (.int c)] []))
  refine Go.st (fun _ => XS.iloadN W0.here W0.ex rfl (hb hby d21_0) rfl) ?_
  show Go p_ e_ bl_ _ (T0.setTop (mkF m_ 1 #[.val (.int c)] [(.int c)]))
  refine Go.st (fun _ => XS.sipush W0.here W0.ex rfl (hb hby d21_1)) ?_
  show Go p_ e_ bl_ _ (T0.setTop (mkF m_ 4 #[.val (.int c)] [(.int (255 : Int32)), (.int c)]))
  refine Go.st (fun _ => XS.icmpNo W0.here W0.ex rfl (hb hby d21_4) rfl (flt (hc.2 : ¬ ((255 : Int32) < c))).2.2.1) ?_
  show Go p_ e_ bl_ _ (T0.setTop (mkF m_ 7 #[.val (.int c)] []))
  refine Go.st (fun _ => XS.iconst W0.here W0.ex rfl (hb hby d21_7)) ?_
  show Go p_ e_ bl_ _ (T0.setTop (mkF m_ 8 #[.val (.int c)] [(.int (1 : Int32))]))
  refine Go.st (fun _ => XS.goto W0.here W0.ex rfl (pc0 := 8) (pc' := 12) rfl (hb hby d21_8) (by decide) (by decide)) ?_
  show Go p_ e_ bl_ _ (T0.setTop (mkF m_ 12 #[.val (.int c)] [(.int (1 : Int32))]))
  exact W0.retN hret (by simp) (hb hby d21_12) (by decide) (by decide) fun _ _ => ⟨rfl, rfl⟩
set_option maxRecDepth 65536 in
set_option maxHeartbeats 40000000 in
theorem ct_toBytes {l : Launch} {Z : State} {a0 : Array Value} {n0 : Nat} {g1 : Int32} {e0 e1 e2 va q0 q1 q2 r0 r1 r2 : Addr} {kva : ClassId} {em : Addr} (cx : Ctx Z a0 n0 g1 e0 e1 e2 va q0 q1 q2 r0 r1 r2 kva em) {h : Heap} (O : Old Z n0 h) (c : Int32)  :
    Ct l Z consts_1 n0 [] (⟨"java/lang/StringLatin1", "toBytes", "(C)[B"⟩ : MethodName) jdk_43_method_46_code 1 (some (.array .byte)) ({ frames := 0, cells := 1, slots := 1, locals := 0 } : Room) #[(.int c)] [] h (fun v _ h' => ∃ (t : Addr) (kb : ClassId), v = some (.ref t) ∧ h.size ≤ t ∧ n0 ≤ t ∧ Keep h h' [] ∧ Arv Z h' t kb .byte 1 [.int c.toInt8.toInt32] (.int 0)) := by
  refine Ct.intro (plainFor_of_name pn1) O cx.ew ?_
  intro p_ e_ s_ m_ bl_ mt_ c_ T0 W0 hby hml hret hnm
  refine Go.st (fun t_ k_ => castTop (g' := mkF m_ 0 #[.val (.int c)] []) (by first | (simp [entryFrame, mkF, argsToLocals, Value.category]; done) | rfl) k_) ?_
  show Go p_ e_ bl_ _ (T0.setTop (mkF m_ 0 #[.val (.int c)] []))
  have K0 : Keep h h [] := Keep.refl _ _
  refine Go.st (fun _ => XS.iconst W0.here W0.ex rfl (hb hby d22_0)) ?_
  show Go p_ e_ bl_ _ (T0.setTop (mkF m_ 1 #[.val (.int c)] [(.int (1 : Int32))]))
  refine W0.newP (ty := .byte) (dv := .int 0) rfl rfl (cx.w 8 rfl) (hb hby d22_1) (z := (1 : Int32)) (by decide) (cap := 1) (by decide) (by decide) (k' := 1) (n' := 1) rfl rfl (by decide) (by decide) ?_
  intro T1 h1 b1 kA_b1 hb1 g_b1 W1 E1 V_b1
  have sz_b1 : h.size ≤ b1 := Nat.le_trans K0.1 (Nat.le_of_eq hb1.symm)
  replace K0 := K0.ext E1
  replace V_b1 : Arv Z h1 b1 kA_b1 .byte (1 : Int32) [(.int 0)] (.int 0) := V_b1
  show Go p_ e_ bl_ _ (T1.setTop (mkF m_ 3 #[.val (.int c)] [(.ref b1)]))
  refine Go.st (fun _ => XS.dup W1.here W1.ex rfl (hb hby d22_3) rfl rfl) ?_
  show Go p_ e_ bl_ _ (T1.setTop (mkF m_ 4 #[.val (.int c)] [(.ref b1), (.ref b1)]))
  refine Go.st (fun _ => XS.iconst W1.here W1.ex rfl (hb hby d22_4)) ?_
  show Go p_ e_ bl_ _ (T1.setTop (mkF m_ 5 #[.val (.int c)] [(.int (0 : Int32)), (.ref b1), (.ref b1)]))
  refine Go.st (fun _ => XS.iloadN W1.here W1.ex rfl (hb hby d22_5) rfl) ?_
  show Go p_ e_ bl_ _ (T1.setTop (mkF m_ 6 #[.val (.int c)] [(.int c), (.int (0 : Int32)), (.ref b1), (.ref b1)]))
  refine Go.st (fun _ => XS.i2b W1.here W1.ex rfl (hb hby d22_6) rfl) ?_
  show Go p_ e_ bl_ _ (T1.setTop (mkF m_ 7 #[.val (.int c)] [(.int (c.toInt8.toInt32)), (.int (0 : Int32)), (.ref b1), (.ref b1)]))
  refine W1.stB V_b1 (j := (0 : Int32)) (x := (c.toInt8.toInt32)) ⟨by decide, by decide⟩ 0 rfl (Nat.le_of_ble_eq_true rfl) (List.mem_of_getElem? (i := 0) rfl) g_b1 (hb hby d22_7) ?_
  intro T2 h2 L2 W2 w2 V_new
  replace K0 := K0.wr w2 (Or.inr sz_b1)
  replace V_b1 : Arv Z h2 b1 kA_b1 .byte (1 : Int32) [(.int (nar .byte (c.toInt8.toInt32)))] (.int 0) := V_new
  clear V_new
  show Go p_ e_ bl_ _ (T2.setTop (mkF m_ 8 #[.val (.int c)] [(.ref b1)]))
  rw [nar_byte] at V_b1
  exact W2.retA hret rfl rfl (hb hby d22_8) (by decide) (by decide) fun _ _ => ⟨b1, kA_b1, rfl, sz_b1, g_b1, K0, V_b1⟩
set_option maxRecDepth 65536 in
set_option maxHeartbeats 40000000 in
theorem ct_iBB {l : Launch} {Z : State} {a0 : Array Value} {n0 : Nat} {g1 : Int32} {e0 e1 e2 va q0 q1 q2 r0 r1 r2 : Addr} {kva : ClassId} {em : Addr} (cx : Ctx Z a0 n0 g1 e0 e1 e2 va q0 q1 q2 r0 r1 r2 kva em) {h : Heap} (O : Old Z n0 h) (a t : Addr) (E_a : Exa Z h a "java/lang/String") (F_value_a : Fld Z h a "java/lang/String" "value" "[B" .null) (F_coder_a : Fld Z h a "java/lang/String" "coder" "B" (.int 0)) (g_a : n0 ≤ a) :
    Ct l Z consts_1 n0 [] (⟨"java/lang/String", "<init>", "([BB)V"⟩ : MethodName) jdk_42_method_151_code 3 none ({ frames := 1, cells := 0, slots := 0, locals := 12 } : Room) #[(.ref a), (.ref t), (.int (0 : Int32))] [a] h (fun v _ h' => v = none ∧ Keep h h' [a] ∧ Exa Z h' a "java/lang/String" ∧ Fld Z h' a "java/lang/String" "coder" "B" (.int 0) ∧ Fld Z h' a "java/lang/String" "value" "[B" (.ref t)) := by
  refine Ct.intro (plainFor_of_name pn0) O cx.ew ?_
  intro p_ e_ s_ m_ bl_ mt_ c_ T0 W0 hby hml hret hnm
  refine Go.st (fun t_ k_ => castTop (g' := mkF m_ 0 #[.val (.ref a), .val (.ref t), .val (.int (0 : Int32))] []) (by first | (simp [entryFrame, mkF, argsToLocals, Value.category]; done) | rfl) k_) ?_
  show Go p_ e_ bl_ _ (T0.setTop (mkF m_ 0 #[.val (.ref a), .val (.ref t), .val (.int (0 : Int32))] []))
  have K0 : Keep h h [a] := Keep.refl _ _
  refine Go.st (fun _ => XS.aloadN W0.here W0.ex rfl (hb hby d23_0) rfl rfl) ?_
  show Go p_ e_ bl_ _ (T0.setTop (mkF m_ 1 #[.val (.ref a), .val (.ref t), .val (.int (0 : Int32))] [(.ref a)]))
  refine W0.initO (cx.w 100 rfl) (cx.w 71 rfl) (cx.w 72 rfl) (by rw [hml]; rfl) (hb hby d23_1) (by decide) (Wd := 0) (Nat.le_of_eq rfl) (by decide) ?_
  intro T1 W1
  show Go p_ e_ bl_ _ (T1.setTop (mkF m_ 4 #[.val (.ref a), .val (.ref t), .val (.int (0 : Int32))] []))
  refine Go.st (fun _ => XS.aloadN W1.here W1.ex rfl (hb hby d23_4) rfl rfl) ?_
  show Go p_ e_ bl_ _ (T1.setTop (mkF m_ 5 #[.val (.ref a), .val (.ref t), .val (.int (0 : Int32))] [(.ref a)]))
  refine Go.st (fun _ => XS.aloadN W1.here W1.ex rfl (hb hby d23_5) rfl rfl) ?_
  show Go p_ e_ bl_ _ (T1.setTop (mkF m_ 6 #[.val (.ref a), .val (.ref t), .val (.int (0 : Int32))] [(.ref t), (.ref a)]))
  refine W1.putF (cx.w 51 rfl) Via.refl F_value_a E_a (Or.inr ⟨(cx.w 9 rfl), rfl, hnm⟩) (cx.w 7 rfl) (ty := (.array .byte)) (by decide) rfl rfl (List.mem_of_getElem? (i := 0) rfl) g_a (hb hby d23_6) ?_
  intro T2 h2 L2 W2 w2
  replace E_a := E_a.wr w2
  replace F_value_a := F_value_a.same w2
  replace F_coder_a := F_coder_a.other w2 (Or.inr (slot_ne (Or.inr (cx.w 10 rfl)) (Or.inr (cx.w 9 rfl)) (by decide) (t := .byte) (t' := (.array .byte)) (by decide) (by decide)))
  replace K0 := K0.wr w2 (Or.inl (List.mem_of_getElem? (i := 0) rfl))
  show Go p_ e_ bl_ _ (T2.setTop (mkF m_ 9 #[.val (.ref a), .val (.ref t), .val (.int (0 : Int32))] []))
  refine Go.st (fun _ => XS.aloadN W2.here W2.ex rfl (hb hby d23_9) rfl rfl) ?_
  show Go p_ e_ bl_ _ (T2.setTop (mkF m_ 10 #[.val (.ref a), .val (.ref t), .val (.int (0 : Int32))] [(.ref a)]))
  refine Go.st (fun _ => XS.iloadN W2.here W2.ex rfl (hb hby d23_10) rfl) ?_
  show Go p_ e_ bl_ _ (T2.setTop (mkF m_ 11 #[.val (.ref a), .val (.ref t), .val (.int (0 : Int32))] [(.int (0 : Int32)), (.ref a)]))
  refine W2.putF (cx.w 50 rfl) Via.refl F_coder_a E_a (Or.inr ⟨(cx.w 10 rfl), rfl, hnm⟩) (cx.w 7 rfl) (ty := .byte) (by decide) rfl rfl (List.mem_of_getElem? (i := 0) rfl) g_a (hb hby d23_11) ?_
  intro T3 h3 L3 W3 w3
  replace E_a := E_a.wr w3
  replace F_value_a := F_value_a.other w3 (Or.inr (slot_ne (Or.inr (cx.w 9 rfl)) (Or.inr (cx.w 10 rfl)) (by decide) (t := (.array .byte)) (t' := .byte) (by decide) (by decide)))
  replace F_coder_a := F_coder_a.same w3
  replace K0 := K0.wr w3 (Or.inl (List.mem_of_getElem? (i := 0) rfl))
  show Go p_ e_ bl_ _ (T3.setTop (mkF m_ 14 #[.val (.ref a), .val (.ref t), .val (.int (0 : Int32))] []))
  exact W3.retV hret (hb hby d23_14) (by decide) (by decide) fun _ _ => ⟨rfl, K0, E_a, F_coder_a, F_value_a⟩
set_option maxRecDepth 65536 in
set_option maxHeartbeats 40000000 in
theorem ct_valueOf {l : Launch} {Z : State} {a0 : Array Value} {n0 : Nat} {g1 : Int32} {e0 e1 e2 va q0 q1 q2 r0 r1 r2 : Addr} {kva : ClassId} {em : Addr} (cx : Ctx Z a0 n0 g1 e0 e1 e2 va q0 q1 q2 r0 r1 r2 kva em) {h : Heap} (O : Old Z n0 h) (c : Int32) (hc : ¬ c < 0 ∧ ¬ (255 : Int32) < c) :
    Ct l Z consts_1 n0 [] (⟨"java/lang/String", "valueOf", "(C)Ljava/lang/String;"⟩ : MethodName) jdk_42_method_139_code 1 (some (.object "java/lang/String")) ({ frames := 2, cells := 2, slots := 5, locals := 27 } : Room) #[(.int c)] [] h (fun v _ h' => ∃ (a t : Addr), v = some (.ref a) ∧ h.size ≤ a ∧ n0 ≤ a ∧ Keep h h' [] ∧ StrAt Z h' a t [c]) := by
  refine Ct.intro (plainFor_of_name pn0) O cx.ew ?_
  intro p_ e_ s_ m_ bl_ mt_ c_ T0 W0 hby hml hret hnm
  refine Go.st (fun t_ k_ => castTop (g' := mkF m_ 0 #[.val (.int c)] []) (by first | (simp [entryFrame, mkF, argsToLocals, Value.category]; done) | rfl) k_) ?_
  show Go p_ e_ bl_ _ (T0.setTop (mkF m_ 0 #[.val (.int c)] []))
  have K0 : Keep h h [] := Keep.refl _ _
  refine W0.getS (cx.w 49 rfl) Via.refl (cx.cmp.ext W0.e0) (hb hby d20_0) ?_
  intro T1 W1
  show Go p_ e_ bl_ _ (T1.setTop (mkF m_ 3 #[.val (.int c)] [(.int g1)]))
  refine Go.st (fun _ => XS.ifNo W1.here W1.ex rfl (hb hby d20_3) rfl ((if0 _ _).trans (feq (cx.g1 : ¬ (g1 = (0 : Int32)))).1)) ?_
  show Go p_ e_ bl_ _ (T1.setTop (mkF m_ 6 #[.val (.int c)] []))
  refine Go.st (fun _ => XS.iloadN W1.here W1.ex rfl (hb hby d20_6) rfl) ?_
  show Go p_ e_ bl_ _ (T1.setTop (mkF m_ 7 #[.val (.int c)] [(.int c)]))
  refine W1.callS (y := (⟨"java/lang/StringLatin1", "canEncode", "(C)Z"⟩ : MethodName)) (cx.w 127 rfl) (cx.w 128 rfl) (cx.w 54 rfl) (cx.w 129 rfl) (by decide) (ct_canEnc cx W1.old c hc) all0 (by decide) (Wd := 0) (by decide) (k' := 0) (n' := 0) rfl rfl (by decide) (by decide) (by rw [hml]; rfl) (argsL := [(.int c)]) (rest := []) rfl (lenOf pd1 rfl) rfl (Nat.le_of_eq rfl) (hb hby d20_7) ?_
  intro v2 vm2 T2 h2 L2 W2 q2
  obtain ⟨rfl, eh_⟩ := q2
  subst h2
  show Go p_ e_ bl_ _ (T2.setTop (mkF m_ 10 #[.val (.int c)] [(.int (1 : Int32))]))
  refine Go.st (fun _ => XS.ifNo W2.here W2.ex rfl (hb hby d20_10) rfl ((if0 _ _).trans (feq ((by decide) : ¬ ((1 : Int32) = (0 : Int32)))).1)) ?_
  show Go p_ e_ bl_ _ (T2.setTop (mkF m_ 13 #[.val (.int c)] []))
  refine W2.newO (cx.w 47 rfl) (cx.w 7 rfl) (cx.w 6 rfl) (hb hby d20_13) (k' := 1) (n' := 4) rfl rfl (by decide) (by decide) ?_
  intro T3 h3 b3 hb3 g_b3 W3 E3 E_b3 D3
  have sz_b3 : h.size ≤ b3 := Nat.le_trans K0.1 (Nat.le_of_eq hb3.symm)
  replace K0 := K0.ext E3
  have F_value_b3 : Fld Z h3 b3 "java/lang/String" "value" "[B" .null := D3 (Or.inr (cx.w 9 rfl)) (ty := (.array .byte)) (by decide)
  have F_coder_b3 : Fld Z h3 b3 "java/lang/String" "coder" "B" (.int (0 : Int32)) := D3 (Or.inr (cx.w 10 rfl)) (ty := .byte) (by decide)
  show Go p_ e_ bl_ _ (T3.setTop (mkF m_ 16 #[.val (.int c)] [(.ref b3)]))
  refine Go.st (fun _ => XS.dup W3.here W3.ex rfl (hb hby d20_16) rfl rfl) ?_
  show Go p_ e_ bl_ _ (T3.setTop (mkF m_ 17 #[.val (.int c)] [(.ref b3), (.ref b3)]))
  refine Go.st (fun _ => XS.iloadN W3.here W3.ex rfl (hb hby d20_17) rfl) ?_
  show Go p_ e_ bl_ _ (T3.setTop (mkF m_ 18 #[.val (.int c)] [(.int c), (.ref b3), (.ref b3)]))
  refine W3.callS (y := (⟨"java/lang/StringLatin1", "toBytes", "(C)[B"⟩ : MethodName)) (cx.w 130 rfl) (cx.w 131 rfl) (cx.w 54 rfl) (cx.w 132 rfl) (by decide) (ct_toBytes cx W3.old c) all0 (by decide) (Wd := 2) (by decide) (k' := 2) (n' := 5) rfl rfl (by decide) (by decide) (by rw [hml]; rfl) (argsL := [(.int c)]) (rest := [(.ref b3), (.ref b3)]) rfl (lenOf pd2 rfl) rfl (Nat.le_of_eq rfl) (hb hby d20_18) ?_
  intro v4 vm4 T4 h4 L4 W4 q4
  obtain ⟨t, kt, rfl, hz1, gt, K1, V_t⟩ := q4
  have ne_b3_t : b3 ≠ t := Nat.ne_of_lt (Nat.lt_of_lt_of_le E_b3.lt hz1)
  have sz_t : h.size ≤ t := Nat.le_trans K0.1 hz1
  replace E_b3 := E_b3.keep K1
  replace F_value_b3 := F_value_b3.keep K1 nin0
  replace F_coder_b3 := F_coder_b3.keep K1 nin0
  replace K0 := K0.trans K1 all0
  show Go p_ e_ bl_ _ (T4.setTop (mkF m_ 21 #[.val (.int c)] [(.ref t), (.ref b3), (.ref b3)]))
  refine Go.st (fun _ => XS.iconst W4.here W4.ex rfl (hb hby d20_21)) ?_
  show Go p_ e_ bl_ _ (T4.setTop (mkF m_ 22 #[.val (.int c)] [(.int (0 : Int32)), (.ref t), (.ref b3), (.ref b3)]))
  refine W4.callI (y := (⟨"java/lang/String", "<init>", "([BB)V"⟩ : MethodName)) rfl (cx.w 133 rfl) (cx.w 134 rfl) (cx.w 6 rfl) (cx.w 135 rfl) (by decide) (ct_iBB cx W4.old b3 t E_b3 F_value_b3 F_coder_b3 g_b3) (allS (List.mem_of_getElem? (i := 0) rfl) all0) (by decide) (Wd := 1) (by decide) (k' := 2) (n' := 5) rfl rfl (by decide) (by decide) (by rw [hml]; rfl) (a := b3) (argsL := [(.ref t), (.int (0 : Int32))]) (rest := [(.ref b3)]) rfl (lenOf pd3 rfl) rfl (Nat.le_of_eq rfl) (hb hby d20_22) ?_
  intro v5 vm5 T5 h5 L5 W5 q5
  obtain ⟨rfl, K2, E_n, F_cn, F_vn⟩ := q5
  replace E_b3 := E_b3.keep K2
  replace V_t := V_t.keep K2 (ninS (Ne.symm ne_b3_t) nin0)
  replace K0 := K0.trans K2 (allS (Or.inr sz_b3) all0)
  show Go p_ e_ bl_ _ (T5.setTop (mkF m_ 25 #[.val (.int c)] [(.ref b3)]))
  exact W5.retA hret rfl rfl (hb hby d20_25) (by decide) (by decide) fun _ _ => ⟨b3, t, rfl, sz_b3, g_b3, K0, E_n, F_cn, F_vn, ⟨_, V_t⟩, Ch8.cons hc Ch8.nil, by show 1 ≤ 4000; decide⟩
set_option maxRecDepth 65536 in
set_option maxHeartbeats 40000000 in
theorem ct_rnn1 {l : Launch} {Z : State} {a0 : Array Value} {n0 : Nat} {g1 : Int32} {e0 e1 e2 va q0 q1 q2 r0 r1 r2 : Addr} {kva : ClassId} {em : Addr} (cx : Ctx Z a0 n0 g1 e0 e1 e2 va q0 q1 q2 r0 r1 r2 kva em) {h : Heap} (O : Old Z n0 h) (a : Addr)  :
    Ct l Z consts_1 n0 [] (⟨"java/util/Objects", "requireNonNull", "(Ljava/lang/Object;)Ljava/lang/Object;"⟩ : MethodName) jdk_31_method_10_code 1 (some (.object "java/lang/Object")) ({ frames := 0, cells := 0, slots := 0, locals := 0 } : Room) #[(.ref a)] [] h (fun v _ h' => v = some (.ref a) ∧ h' = h) := by
  refine Ct.intro (plainFor_of_name pn2) O cx.ew ?_
  intro p_ e_ s_ m_ bl_ mt_ c_ T0 W0 hby hml hret hnm
  refine Go.st (fun t_ k_ => castTop (g' := mkF m_ 0 #[.val (.ref a)] []) (by first | (simp [entryFrame, mkF, argsToLocals, Value.category]; done) | rfl) k_) ?_
  show Go p_ e_ bl_ _ (T0.setTop (mkF m_ 0 #[.val (.ref a)] []))
  refine Go.st (fun _ => XS.aloadN W0.here W0.ex rfl (hb hby d8_0) rfl rfl) ?_
  show Go p_ e_ bl_ _ (T0.setTop (mkF m_ 1 #[.val (.ref a)] [(.ref a)]))
  refine Go.st (fun _ => XS.ifnonnullYes W0.here W0.ex rfl (pc0 := 1) (pc' := 12) rfl (hb hby d8_1) rfl (by decide) (by decide)) ?_
  show Go p_ e_ bl_ _ (T0.setTop (mkF m_ 12 #[.val (.ref a)] []))
  refine Go.st (fun _ => XS.aloadN W0.here W0.ex rfl (hb hby d8_12) rfl rfl) ?_
  show Go p_ e_ bl_ _ (T0.setTop (mkF m_ 13 #[.val (.ref a)] [(.ref a)]))
  exact W0.retA hret rfl rfl (hb hby d8_13) (by decide) (by decide) fun _ _ => ⟨rfl, rfl⟩
set_option maxRecDepth 65536 in
set_option maxHeartbeats 40000000 in
theorem ct_optI {l : Launch} {Z : State} {a0 : Array Value} {n0 : Nat} {g1 : Int32} {e0 e1 e2 va q0 q1 q2 r0 r1 r2 : Addr} {kva : ClassId} {em : Addr} (cx : Ctx Z a0 n0 g1 e0 e1 e2 va q0 q1 q2 r0 r1 r2 kva em) {h : Heap} (O : Old Z n0 h) (a x : Addr) (E_a : Exa Z h a "java/util/Optional") (F_a : Fld Z h a "java/util/Optional" "value" "Ljava/lang/Object;" .null) (g_a : n0 ≤ a) :
    Ct l Z consts_1 n0 [] (⟨"java/util/Optional", "<init>", "(Ljava/lang/Object;)V"⟩ : MethodName) jdk_32_method_2_code 2 none ({ frames := 1, cells := 0, slots := 0, locals := 12 } : Room) #[(.ref a), (.ref x)] [a] h (fun v _ h' => v = none ∧ Keep h h' [a] ∧ Exa Z h' a "java/util/Optional" ∧ Fld Z h' a "java/util/Optional" "value" "Ljava/lang/Object;" (.ref x)) := by
  refine Ct.intro (plainFor_of_name pn3) O cx.ew ?_
  intro p_ e_ s_ m_ bl_ mt_ c_ T0 W0 hby hml hret hnm
  refine Go.st (fun t_ k_ => castTop (g' := mkF m_ 0 #[.val (.ref a), .val (.ref x)] []) (by first | (simp [entryFrame, mkF, argsToLocals, Value.category]; done) | rfl) k_) ?_
  show Go p_ e_ bl_ _ (T0.setTop (mkF m_ 0 #[.val (.ref a), .val (.ref x)] []))
  have K0 : Keep h h [a] := Keep.refl _ _
  refine Go.st (fun _ => XS.aloadN W0.here W0.ex rfl (hb hby d9_0) rfl rfl) ?_
  show Go p_ e_ bl_ _ (T0.setTop (mkF m_ 1 #[.val (.ref a), .val (.ref x)] [(.ref a)]))
  refine W0.initO (cx.w 70 rfl) (cx.w 71 rfl) (cx.w 72 rfl) (by rw [hml]; rfl) (hb hby d9_1) (by decide) (Wd := 0) (Nat.le_of_eq rfl) (by decide) ?_
  intro T1 W1
  show Go p_ e_ bl_ _ (T1.setTop (mkF m_ 4 #[.val (.ref a), .val (.ref x)] []))
  refine Go.st (fun _ => XS.aloadN W1.here W1.ex rfl (hb hby d9_4) rfl rfl) ?_
  show Go p_ e_ bl_ _ (T1.setTop (mkF m_ 5 #[.val (.ref a), .val (.ref x)] [(.ref a)]))
  refine Go.st (fun _ => XS.aloadN W1.here W1.ex rfl (hb hby d9_5) rfl rfl) ?_
  show Go p_ e_ bl_ _ (T1.setTop (mkF m_ 6 #[.val (.ref a), .val (.ref x)] [(.ref x), (.ref a)]))
  refine W1.putF (cx.w 73 rfl) Via.refl F_a E_a (Or.inr ⟨(cx.w 74 rfl), rfl, hnm⟩) (cx.w 61 rfl) (ty := (.object "java/lang/Object")) (by decide) rfl rfl (List.mem_of_getElem? (i := 0) rfl) g_a (hb hby d9_6) ?_
  intro T2 h2 L2 W2 w2
  replace E_a := E_a.wr w2
  replace F_a := F_a.same w2
  replace K0 := K0.wr w2 (Or.inl (List.mem_of_getElem? (i := 0) rfl))
  show Go p_ e_ bl_ _ (T2.setTop (mkF m_ 9 #[.val (.ref a), .val (.ref x)] []))
  exact W2.retV hret (hb hby d9_9) (by decide) (by decide) fun _ _ => ⟨rfl, K0, E_a, F_a⟩
set_option maxRecDepth 65536 in
set_option maxHeartbeats 40000000 in
theorem ct_optOf {l : Launch} {Z : State} {a0 : Array Value} {n0 : Nat} {g1 : Int32} {e0 e1 e2 va q0 q1 q2 r0 r1 r2 : Addr} {kva : ClassId} {em : Addr} (cx : Ctx Z a0 n0 g1 e0 e1 e2 va q0 q1 q2 r0 r1 r2 kva em) {h : Heap} (O : Old Z n0 h) (x : Addr)  :
    Ct l Z consts_1 n0 [] (⟨"java/util/Optional", "of", "(Ljava/lang/Object;)Ljava/util/Optional;"⟩ : MethodName) jdk_32_method_3_code 1 (some (.object "java/util/Optional")) ({ frames := 2, cells := 1, slots := 1, locals := 26 } : Room) #[(.ref x)] [] h (fun v _ h' => ∃ o : Addr, v = some (.ref o) ∧ h.size ≤ o ∧ Keep h h' [] ∧ Exa Z h' o "java/util/Optional" ∧ Fld Z h' o "java/util/Optional" "value" "Ljava/lang/Object;" (.ref x)) := by
  refine Ct.intro (plainFor_of_name pn3) O cx.ew ?_
  intro p_ e_ s_ m_ bl_ mt_ c_ T0 W0 hby hml hret hnm
  refine Go.st (fun t_ k_ => castTop (g' := mkF m_ 0 #[.val (.ref x)] []) (by first | (simp [entryFrame, mkF, argsToLocals, Value.category]; done) | rfl) k_) ?_
  show Go p_ e_ bl_ _ (T0.setTop (mkF m_ 0 #[.val (.ref x)] []))
  have K0 : Keep h h [] := Keep.refl _ _
  refine W0.newO (cx.w 60 rfl) (cx.w 61 rfl) (cx.w 58 rfl) (hb hby d7_0) (k' := 1) (n' := 1) rfl rfl (by decide) (by decide) ?_
  intro T1 h1 b1 hb1 g_b1 W1 E1 E_b1 D1
  have sz_b1 : h.size ≤ b1 := Nat.le_trans K0.1 (Nat.le_of_eq hb1.symm)
  replace K0 := K0.ext E1
  have F_value_b1 : Fld Z h1 b1 "java/util/Optional" "value" "Ljava/lang/Object;" .null := D1 (Or.inr (cx.w 74 rfl)) (ty := (.object "java/lang/Object")) (by decide)
  show Go p_ e_ bl_ _ (T1.setTop (mkF m_ 3 #[.val (.ref x)] [(.ref b1)]))
  refine Go.st (fun _ => XS.dup W1.here W1.ex rfl (hb hby d7_3) rfl rfl) ?_
  show Go p_ e_ bl_ _ (T1.setTop (mkF m_ 4 #[.val (.ref x)] [(.ref b1), (.ref b1)]))
  refine Go.st (fun _ => XS.aloadN W1.here W1.ex rfl (hb hby d7_4) rfl rfl) ?_
  show Go p_ e_ bl_ _ (T1.setTop (mkF m_ 5 #[.val (.ref x)] [(.ref x), (.ref b1), (.ref b1)]))
  refine W1.callS (y := (⟨"java/util/Objects", "requireNonNull", "(Ljava/lang/Object;)Ljava/lang/Object;"⟩ : MethodName)) (cx.w 62 rfl) (cx.w 63 rfl) (cx.w 64 rfl) (cx.w 65 rfl) (by decide) (ct_rnn1 cx W1.old x) all0 (by decide) (Wd := 2) (by decide) (k' := 1) (n' := 1) rfl rfl (by decide) (by decide) (by rw [hml]; rfl) (argsL := [(.ref x)]) (rest := [(.ref b1), (.ref b1)]) rfl (lenOf pd4 rfl) rfl (Nat.le_of_eq rfl) (hb hby d7_5) ?_
  intro v2 vm2 T2 h2 L2 W2 q2
  obtain ⟨rfl, eh_⟩ := q2
  subst h2
  show Go p_ e_ bl_ _ (T2.setTop (mkF m_ 8 #[.val (.ref x)] [(.ref x), (.ref b1), (.ref b1)]))
  refine W2.callI (y := (⟨"java/util/Optional", "<init>", "(Ljava/lang/Object;)V"⟩ : MethodName)) rfl (cx.w 66 rfl) (cx.w 67 rfl) (cx.w 58 rfl) (cx.w 69 rfl) (by decide) (ct_optI cx W2.old b1 x E_b1 F_value_b1 g_b1) (allS (List.mem_of_getElem? (i := 0) rfl) all0) (by decide) (Wd := 1) (by decide) (k' := 1) (n' := 1) rfl rfl (by decide) (by decide) (by rw [hml]; rfl) (a := b1) (argsL := [(.ref x)]) (rest := [(.ref b1)]) rfl (lenOf pd5 rfl) rfl (Nat.le_of_eq rfl) (hb hby d7_8) ?_
  intro v3 vm3 T3 h3 L3 W3 q3
  obtain ⟨rfl, K1, E_n, F_n⟩ := q3
  replace E_b1 := E_b1.keep K1
  replace K0 := K0.trans K1 (allS (Or.inr sz_b1) all0)
  show Go p_ e_ bl_ _ (T3.setTop (mkF m_ 11 #[.val (.ref x)] [(.ref b1)]))
  exact W3.retA hret rfl rfl (hb hby d7_11) (by decide) (by decide) fun _ _ => ⟨b1, rfl, sz_b1, K0, E_n, F_n⟩
set_option maxRecDepth 65536 in
set_option maxHeartbeats 40000000 in
theorem ct_optE {l : Launch} {Z : State} {a0 : Array Value} {n0 : Nat} {g1 : Int32} {e0 e1 e2 va q0 q1 q2 r0 r1 r2 : Addr} {kva : ClassId} {em : Addr} (cx : Ctx Z a0 n0 g1 e0 e1 e2 va q0 q1 q2 r0 r1 r2 kva em) {h : Heap} (O : Old Z n0 h)   :
    Ct l Z consts_1 n0 [] (⟨"java/util/Optional", "empty", "()Ljava/util/Optional;"⟩ : MethodName) jdk_32_method_1_code 1 (some (.object "java/util/Optional")) ({ frames := 0, cells := 0, slots := 0, locals := 0 } : Room) #[] [] h (fun v _ h' => v = some (.ref em) ∧ h' = h) := by
  refine Ct.intro (plainFor_of_name pn3) O cx.ew ?_
  intro p_ e_ s_ m_ bl_ mt_ c_ T0 W0 hby hml hret hnm
  refine Go.st (fun t_ k_ => castTop (g' := mkF m_ 0 #[.unset] []) (by first | (simp [entryFrame, mkF, argsToLocals, Value.category]; done) | rfl) k_) ?_
  show Go p_ e_ bl_ _ (T0.setTop (mkF m_ 0 #[.unset] []))
  refine W0.getS (cx.w 115 rfl) Via.refl (cx.stem.ext W0.e0) (hb hby d19_0) ?_
  intro T1 W1
  show Go p_ e_ bl_ _ (T1.setTop (mkF m_ 3 #[.unset] [(.ref em)]))
  refine Go.st (fun _ => XS.astoreN W1.here W1.ex rfl (hb hby d19_3) rfl rfl (l' := #[.val (.ref em)]) rfl) ?_
  show Go p_ e_ bl_ _ (T1.setTop (mkF m_ 4 #[.val (.ref em)] []))
  refine Go.st (fun _ => XS.aloadN W1.here W1.ex rfl (hb hby d19_4) rfl rfl) ?_
  show Go p_ e_ bl_ _ (T1.setTop (mkF m_ 5 #[.val (.ref em)] [(.ref em)]))
  exact W1.retA hret rfl rfl (hb hby d19_5) (by decide) (by decide) fun _ _ => ⟨rfl, rfl⟩
set_option maxRecDepth 65536 in
set_option maxHeartbeats 40000000 in
theorem ct_presN {l : Launch} {Z : State} {a0 : Array Value} {n0 : Nat} {g1 : Int32} {e0 e1 e2 va q0 q1 q2 r0 r1 r2 : Addr} {kva : ClassId} {em : Addr} (cx : Ctx Z a0 n0 g1 e0 e1 e2 va q0 q1 q2 r0 r1 r2 kva em) {h : Heap} (O : Old Z n0 h) (a x : Addr) (F_a : Fld Z h a "java/util/Optional" "value" "Ljava/lang/Object;" .null) :
    Ct l Z consts_1 n0 [] (⟨"java/util/Optional", "isPresent", "()Z"⟩ : MethodName) jdk_32_method_6_code 1 (some .boolean) ({ frames := 0, cells := 0, slots := 0, locals := 0 } : Room) #[(.ref a)] [] h (fun v _ h' => v = some (.int 0) ∧ h' = h) := by
  refine Ct.intro (plainFor_of_name pn3) O cx.ew ?_
  intro p_ e_ s_ m_ bl_ mt_ c_ T0 W0 hby hml hret hnm
  refine Go.st (fun t_ k_ => castTop (g' := mkF m_ 0 #[.val (.ref a)] []) (by first | (simp [entryFrame, mkF, argsToLocals, Value.category]; done) | rfl) k_) ?_
  show Go p_ e_ bl_ _ (T0.setTop (mkF m_ 0 #[.val (.ref a)] []))
  refine Go.st (fun _ => XS.aloadN W0.here W0.ex rfl (hb hby d11_0) rfl rfl) ?_
  show Go p_ e_ bl_ _ (T0.setTop (mkF m_ 1 #[.val (.ref a)] [(.ref a)]))
  refine W0.getF (cx.w 73 rfl) Via.refl F_a (hb hby d11_1) ?_
  intro T1 W1
  show Go p_ e_ bl_ _ (T1.setTop (mkF m_ 4 #[.val (.ref a)] [.null]))
  refine Go.st (fun _ => XS.ifnullYes W1.here W1.ex rfl (pc0 := 4) (pc' := 11) rfl (hb hby d11_4) rfl (by decide) (by decide)) ?_
  show Go p_ e_ bl_ _ (T1.setTop (mkF m_ 11 #[.val (.ref a)] []))
  refine Go.st (fun _ => XS.iconst W1.here W1.ex rfl (hb hby d11_11)) ?_
  show Go p_ e_ bl_ _ (T1.setTop (mkF m_ 12 #[.val (.ref a)] [(.int (0 : Int32))]))
  exact W1.retN hret (by simp) (hb hby d11_12) (by decide) (by decide) fun _ _ => ⟨rfl, rfl⟩
set_option maxRecDepth 65536 in
set_option maxHeartbeats 40000000 in
theorem ct_presY {l : Launch} {Z : State} {a0 : Array Value} {n0 : Nat} {g1 : Int32} {e0 e1 e2 va q0 q1 q2 r0 r1 r2 : Addr} {kva : ClassId} {em : Addr} (cx : Ctx Z a0 n0 g1 e0 e1 e2 va q0 q1 q2 r0 r1 r2 kva em) {h : Heap} (O : Old Z n0 h) (a x : Addr) (F_a : Fld Z h a "java/util/Optional" "value" "Ljava/lang/Object;" (.ref x)) :
    Ct l Z consts_1 n0 [] (⟨"java/util/Optional", "isPresent", "()Z"⟩ : MethodName) jdk_32_method_6_code 1 (some .boolean) ({ frames := 0, cells := 0, slots := 0, locals := 0 } : Room) #[(.ref a)] [] h (fun v _ h' => v = some (.int 1) ∧ h' = h) := by
  refine Ct.intro (plainFor_of_name pn3) O cx.ew ?_
  intro p_ e_ s_ m_ bl_ mt_ c_ T0 W0 hby hml hret hnm
  refine Go.st (fun t_ k_ => castTop (g' := mkF m_ 0 #[.val (.ref a)] []) (by first | (simp [entryFrame, mkF, argsToLocals, Value.category]; done) | rfl) k_) ?_
  show Go p_ e_ bl_ _ (T0.setTop (mkF m_ 0 #[.val (.ref a)] []))
  refine Go.st (fun _ => XS.aloadN W0.here W0.ex rfl (hb hby d11_0) rfl rfl) ?_
  show Go p_ e_ bl_ _ (T0.setTop (mkF m_ 1 #[.val (.ref a)] [(.ref a)]))
  refine W0.getF (cx.w 73 rfl) Via.refl F_a (hb hby d11_1) ?_
  intro T1 W1
  show Go p_ e_ bl_ _ (T1.setTop (mkF m_ 4 #[.val (.ref a)] [(.ref x)]))
  refine Go.st (fun _ => XS.ifnullNo W1.here W1.ex rfl (hb hby d11_4) rfl) ?_
  show Go p_ e_ bl_ _ (T1.setTop (mkF m_ 7 #[.val (.ref a)] []))
  refine Go.st (fun _ => XS.iconst W1.here W1.ex rfl (hb hby d11_7)) ?_
  show Go p_ e_ bl_ _ (T1.setTop (mkF m_ 8 #[.val (.ref a)] [(.int (1 : Int32))]))
  refine Go.st (fun _ => XS.goto W1.here W1.ex rfl (pc0 := 8) (pc' := 12) rfl (hb hby d11_8) (by decide) (by decide)) ?_
  show Go p_ e_ bl_ _ (T1.setTop (mkF m_ 12 #[.val (.ref a)] [(.int (1 : Int32))]))
  exact W1.retN hret (by simp) (hb hby d11_12) (by decide) (by decide) fun _ _ => ⟨rfl, rfl⟩
set_option maxRecDepth 65536 in
set_option maxHeartbeats 40000000 in
theorem ct_get {l : Launch} {Z : State} {a0 : Array Value} {n0 : Nat} {g1 : Int32} {e0 e1 e2 va q0 q1 q2 r0 r1 r2 : Addr} {kva : ClassId} {em : Addr} (cx : Ctx Z a0 n0 g1 e0 e1 e2 va q0 q1 q2 r0 r1 r2 kva em) {h : Heap} (O : Old Z n0 h) (a x : Addr) (F_a : Fld Z h a "java/util/Optional" "value" "Ljava/lang/Object;" (.ref x)) :
    Ct l Z consts_1 n0 [] (⟨"java/util/Optional", "get", "()Ljava/lang/Object;"⟩ : MethodName) jdk_32_method_5_code 1 (some (.object "java/lang/Object")) ({ frames := 0, cells := 0, slots := 0, locals := 0 } : Room) #[(.ref a)] [] h (fun v _ h' => v = some (.ref x) ∧ h' = h) := by
  refine Ct.intro (plainFor_of_name pn3) O cx.ew ?_
  intro p_ e_ s_ m_ bl_ mt_ c_ T0 W0 hby hml hret hnm
  refine Go.st (fun t_ k_ => castTop (g' := mkF m_ 0 #[.val (.ref a)] []) (by first | (simp [entryFrame, mkF, argsToLocals, Value.category]; done) | rfl) k_) ?_
  show Go p_ e_ bl_ _ (T0.setTop (mkF m_ 0 #[.val (.ref a)] []))
  refine Go.st (fun _ => XS.aloadN W0.here W0.ex rfl (hb hby d12_0) rfl rfl) ?_
  show Go p_ e_ bl_ _ (T0.setTop (mkF m_ 1 #[.val (.ref a)] [(.ref a)]))
  refine W0.getF (cx.w 73 rfl) Via.refl F_a (hb hby d12_1) ?_
  intro T1 W1
  show Go p_ e_ bl_ _ (T1.setTop (mkF m_ 4 #[.val (.ref a)] [(.ref x)]))
  refine Go.st (fun _ => XS.ifnonnullYes W1.here W1.ex rfl (pc0 := 4) (pc' := 17) rfl (hb hby d12_4) rfl (by decide) (by decide)) ?_
  show Go p_ e_ bl_ _ (T1.setTop (mkF m_ 17 #[.val (.ref a)] []))
  refine Go.st (fun _ => XS.aloadN W1.here W1.ex rfl (hb hby d12_17) rfl rfl) ?_
  show Go p_ e_ bl_ _ (T1.setTop (mkF m_ 18 #[.val (.ref a)] [(.ref a)]))
  refine W1.getF (cx.w 73 rfl) Via.refl F_a (hb hby d12_18) ?_
  intro T2 W2
  show Go p_ e_ bl_ _ (T2.setTop (mkF m_ 21 #[.val (.ref a)] [(.ref x)]))
  exact W2.retA hret rfl rfl (hb hby d12_21) (by decide) (by decide) fun _ _ => ⟨rfl, rfl⟩
set_option maxRecDepth 65536 in
set_option maxHeartbeats 40000000 in
theorem ct_values {l : Launch} {Z : State} {a0 : Array Value} {n0 : Nat} {g1 : Int32} {e0 e1 e2 va q0 q1 q2 r0 r1 r2 : Addr} {kva : ClassId} {em : Addr} (cx : Ctx Z a0 n0 g1 e0 e1 e2 va q0 q1 q2 r0 r1 r2 kva em) {h : Heap} (O : Old Z n0 h)   :
    Ct l Z consts_1 n0 [] (⟨"com/example/loginconv/loginconv/AuthorizableKind", "values", "()[Lcom/example/loginconv/loginconv/AuthorizableKind;"⟩ : MethodName) prog_1_method_1_code 0 (some (.array (.object "com/example/loginconv/loginconv/AuthorizableKind"))) ({ frames := 1, cells := 1, slots := 3, locals := 14 } : Room) #[] [] h (fun v _ h' => ∃ b : Addr, v = some (.ref b) ∧ h.size ≤ b ∧ Keep h h' [] ∧ Arv Z h' b kva (.object "com/example/loginconv/loginconv/AuthorizableKind") 3 [.ref e0, .ref e1, .ref e2] .null) := by
  refine Ct.intro (plainFor_of_name pn4) O cx.ew ?_
  intro p_ e_ s_ m_ bl_ mt_ c_ T0 W0 hby hml hret hnm
  refine Go.st (fun t_ k_ => castTop (g' := mkF m_ 0 #[] []) (by first | (simp [entryFrame, mkF, argsToLocals, Value.category]; done) | rfl) k_) ?_
  show Go p_ e_ bl_ _ (T0.setTop (mkF m_ 0 #[] []))
  have K0 : Keep h h [] := Keep.refl _ _
  have E_va := cx.exv.ext W0.e0
  have V_va := cx.vv.ext W0.e0
  refine W0.getS (cx.w 30 rfl) Via.refl (cx.stv.ext W0.e0) (hb hby d5_0) ?_
  intro T1 W1
  show Go p_ e_ bl_ _ (T1.setTop (mkF m_ 3 #[] [(.ref va)]))
  refine W1.clone (cx.w 32 rfl) (cx.w 33 rfl) (cx.w 37 rfl) (cx.w 35 rfl) (cx.w 36 rfl) (cx.w 38 rfl) V_va E_va (by rw [hml]; rfl) (hb hby d5_3) (by decide) (Wd := 0) (cap := 3) (Nat.le_of_eq rfl) (by decide) (by decide) (k' := 1) (n' := 3) rfl rfl (by decide) (by decide) ?_
  intro T2 h2 b2 hb2 g_b2 W2 E2 V_b2 E_b2
  have ne_va_b2 : va ≠ b2 := Nat.ne_of_lt (Nat.lt_of_lt_of_le E_va.lt (Nat.le_of_eq hb2.symm))
  have sz_b2 : h.size ≤ b2 := Nat.le_trans K0.1 (Nat.le_of_eq hb2.symm)
  replace E_va := E_va.ext E2
  replace V_va := V_va.ext E2
  replace K0 := K0.ext E2
  show Go p_ e_ bl_ _ (T2.setTop (mkF m_ 6 #[] [(.ref b2)]))
  refine W2.castY (cx.w 42 rfl) (Ins.self E_b2) (hb hby d5_6) ?_
  intro T3 W3
  show Go p_ e_ bl_ _ (T3.setTop (mkF m_ 9 #[] [(.ref b2)]))
  exact W3.retA hret rfl rfl (hb hby d5_9) (by decide) (by decide) fun _ _ => ⟨b2, rfl, sz_b2, K0, V_b2⟩
set_option maxRecDepth 65536 in
set_option maxHeartbeats 40000000 in
theorem ct_eqNull {l : Launch} {Z : State} {a0 : Array Value} {n0 : Nat} {g1 : Int32} {e0 e1 e2 va q0 q1 q2 r0 r1 r2 : Addr} {kva : ClassId} {em : Addr} (cx : Ctx Z a0 n0 g1 e0 e1 e2 va q0 q1 q2 r0 r1 r2 kva em) {h : Heap} (O : Old Z n0 h) (a : Addr)  :
    Ct l Z consts_1 n0 [] (⟨"java/lang/String", "equals", "(Ljava/lang/Object;)Z"⟩ : MethodName) jdk_42_method_66_code 3 (some .boolean) ({ frames := 0, cells := 0, slots := 0, locals := 0 } : Room) #[(.ref a), .null] [] h (fun v _ h' => v = some (.int 0) ∧ h' = h) := by
  refine Ct.intro (plainFor_of_name pn0) O cx.ew ?_
  intro p_ e_ s_ m_ bl_ mt_ c_ T0 W0 hby hml hret hnm
  refine Go.st (fun t_ k_ => castTop (g' := mkF m_ 0 #[.val (.ref a), .val .null, .unset] []) (by first | (simp [entryFrame, mkF, argsToLocals, Value.category]; done) | rfl) k_) ?_
  show Go p_ e_ bl_ _ (T0.setTop (mkF m_ 0 #[.val (.ref a), .val .null, .unset] []))
  refine Go.st (fun _ => XS.aloadN W0.here W0.ex rfl (hb hby d3_0) rfl rfl) ?_
  show Go p_ e_ bl_ _ (T0.setTop (mkF m_ 1 #[.val (.ref a), .val .null, .unset] [(.ref a)]))
  refine Go.st (fun _ => XS.aloadN W0.here W0.ex rfl (hb hby d3_1) rfl rfl) ?_
  show Go p_ e_ bl_ _ (T0.setTop (mkF m_ 2 #[.val (.ref a), .val .null, .unset] [.null, (.ref a)]))
  refine Go.st (fun _ => Jvm.RoadKit.acmp (g := (mkF m_ 2 #[.val (.ref a), .val .null, .unset] [.null, (.ref a)])) W0.X W0.ex rfl rfl rfl (pc0 := 2) (pc' := 7) (same := false) rfl (hb hby d3_2) rfl (decide_eq_false nofun) (by decide) (by decide)) ?_
  show Go p_ e_ bl_ _ (T0.setTop (mkF m_ 7 #[.val (.ref a), .val .null, .unset] []))
  refine Go.st (fun _ => XS.aloadN W0.here W0.ex rfl (hb hby d3_7) rfl rfl) ?_
  show Go p_ e_ bl_ _ (T0.setTop (mkF m_ 8 #[.val (.ref a), .val .null, .unset] [.null]))
  refine Go.st (fun _ => W0.X.instanceofNull W0.ex (g := (mkF m_ 8 #[.val (.ref a), .val .null, .unset] [.null])) rfl rfl (hb hby d3_8) _) ?_
  show Go p_ e_ bl_ _ (T0.setTop (mkF m_ 11 #[.val (.ref a), .val .null, .unset] [(.int (0 : Int32))]))
  refine Go.st (fun _ => XS.ifYes W0.here W0.ex rfl (pc0 := 11) (pc' := 54) rfl (hb hby d3_11) rfl ((if0 _ _).trans (teq (rfl : (0 : Int32) = (0 : Int32))).1) (by decide) (by decide)) ?_
  show Go p_ e_ bl_ _ (T0.setTop (mkF m_ 54 #[.val (.ref a), .val .null, .unset] []))
  refine Go.st (fun _ => XS.iconst W0.here W0.ex rfl (hb hby d3_54)) ?_
  show Go p_ e_ bl_ _ (T0.setTop (mkF m_ 55 #[.val (.ref a), .val .null, .unset] [(.int (0 : Int32))]))
  exact W0.retN hret (by simp) (hb hby d3_55) (by decide) (by decide) fun _ _ => ⟨rfl, rfl⟩
set_option maxRecDepth 65536 in
set_option maxHeartbeats 40000000 in
theorem ct_input {l : Launch} {Z : State} {a0 : Array Value} {n0 : Nat} {g1 : Int32} {e0 e1 e2 va q0 q1 q2 r0 r1 r2 : Addr} {kva : ClassId} {em : Addr} (cx : Ctx Z a0 n0 g1 e0 e1 e2 va q0 q1 q2 r0 r1 r2 kva em) {h : Heap} (O : Old Z n0 h) (mode pick pos c1 c2 c3 : Int32)  :
    Ct l Z consts_1 n0 [] (⟨"com/example/loginconv/loginconv/AuthorizableKindOfPrimaryTypePinLaw", "input", "(IIIIII)Ljava/lang/String;"⟩ : MethodName) method_4_code 12 (some (.object "java/lang/String")) ({ frames := 4, cells := 6, slots := 64, locals := 66 } : Room) #[(.int mode), (.int pick), (.int pos), (.int c1), (.int c2), (.int c3)] [] h (fun v _ h' => Keep h h' [] ∧ (v = some .null ∨ ∃ (a t : Addr) (cs : List Int32), v = some (.ref a) ∧ StrAt Z h' a t cs)) := by
  refine Ct.intro (plainFor_of_name pn5) O cx.ew ?_
  intro p_ e_ s_ m_ bl_ mt_ c_ T0 W0 hby hml hret hnm
  refine Go.st (fun t_ k_ => castTop (g' := mkF m_ 0 #[.val (.int mode), .val (.int pick), .val (.int pos), .val (.int c1), .val (.int c2), .val (.int c3), .unset, .unset, .unset, .unset, .unset, .unset] []) (by first | (simp [entryFrame, mkF, argsToLocals, Value.category]; done) | rfl) k_) ?_
  show Go p_ e_ bl_ _ (T0.setTop (mkF m_ 0 #[.val (.int mode), .val (.int pick), .val (.int pos), .val (.int c1), .val (.int c2), .val (.int c3), .unset, .unset, .unset, .unset, .unset, .unset] []))
  have K0 : Keep h h [] := Keep.refl _ _
  refine Go.st (fun _ => XS.iloadN W0.here W0.ex rfl (hb hby d1_0) rfl) ?_
  show Go p_ e_ bl_ _ (T0.setTop (mkF m_ 1 #[.val (.int mode), .val (.int pick), .val (.int pos), .val (.int c1), .val (.int c2), .val (.int c3), .unset, .unset, .unset, .unset, .unset, .unset] [(.int pick)]))
  refine Go.st (fun _ => W0.X.ldcInt W0.ex W0.ho (mvT W0.hZ (cx.w 4 rfl)) (g := (mkF m_ 1 #[.val (.int mode), .val (.int pick), .val (.int pos), .val (.int c1), .val (.int c2), .val (.int c3), .unset, .unset, .unset, .unset, .unset, .unset] [(.int pick)])) rfl (hb hby d1_1) _) ?_
  show Go p_ e_ bl_ _ (T0.setTop (mkF m_ 3 #[.val (.int mode), .val (.int pick), .val (.int pos), .val (.int c1), .val (.int c2), .val (.int c3), .unset, .unset, .unset, .unset, .unset, .unset] [(.int (2147483647 : Int32)), (.int pick)]))
  refine Go.st (fun _ => XS.iand W0.here W0.ex rfl (hb hby d1_3) rfl) ?_
  show Go p_ e_ bl_ _ (T0.setTop (mkF m_ 4 #[.val (.int mode), .val (.int pick), .val (.int pos), .val (.int c1), .val (.int c2), .val (.int c3), .unset, .unset, .unset, .unset, .unset, .unset] [(.int (pick &&& (2147483647 : Int32)))]))
  refine Go.st (fun _ => XS.iconst W0.here W0.ex rfl (hb hby d1_4)) ?_
  show Go p_ e_ bl_ _ (T0.setTop (mkF m_ 5 #[.val (.int mode), .val (.int pick), .val (.int pos), .val (.int c1), .val (.int c2), .val (.int c3), .unset, .unset, .unset, .unset, .unset, .unset] [(.int (3 : Int32)), (.int (pick &&& (2147483647 : Int32)))]))
  refine Go.st (fun _ => iremM W0.X W0.ex rfl (hb hby d1_5) rfl (by decide)) ?_
  show Go p_ e_ bl_ _ (T0.setTop (mkF m_ 6 #[.val (.int mode), .val (.int pick), .val (.int pos), .val (.int c1), .val (.int c2), .val (.int c3), .unset, .unset, .unset, .unset, .unset, .unset] [(.int ((pick &&& (2147483647 : Int32)) % (3 : Int32)))]))
  refine Go.st (fun _ => XS.istore W0.here W0.ex rfl (hb hby d1_6) rfl (l' := #[.val (.int mode), .val (.int pick), .val (.int pos), .val (.int c1), .val (.int c2), .val (.int c3), .val (.int ((pick &&& (2147483647 : Int32)) % (3 : Int32))), .unset, .unset, .unset, .unset, .unset]) rfl) ?_
  show Go p_ e_ bl_ _ (T0.setTop (mkF m_ 8 #[.val (.int mode), .val (.int pick), .val (.int pos), .val (.int c1), .val (.int c2), .val (.int c3), .val (.int ((pick &&& (2147483647 : Int32)) % (3 : Int32))), .unset, .unset, .unset, .unset, .unset] []))
  refine Go.st (fun _ => XS.iloadN W0.here W0.ex rfl (hb hby d1_8) rfl) ?_
  show Go p_ e_ bl_ _ (T0.setTop (mkF m_ 9 #[.val (.int mode), .val (.int pick), .val (.int pos), .val (.int c1), .val (.int c2), .val (.int c3), .val (.int ((pick &&& (2147483647 : Int32)) % (3 : Int32))), .unset, .unset, .unset, .unset, .unset] [(.int pos)]))
  refine Go.st (fun _ => W0.X.ldcInt W0.ex W0.ho (mvT W0.hZ (cx.w 4 rfl)) (g := (mkF m_ 9 #[.val (.int mode), .val (.int pick), .val (.int pos), .val (.int c1), .val (.int c2), .val (.int c3), .val (.int ((pick &&& (2147483647 : Int32)) % (3 : Int32))), .unset, .unset, .unset, .unset, .unset] [(.int pos)])) rfl (hb hby d1_9) _) ?_
  show Go p_ e_ bl_ _ (T0.setTop (mkF m_ 11 #[.val (.int mode), .val (.int pick), .val (.int pos), .val (.int c1), .val (.int c2), .val (.int c3), .val (.int ((pick &&& (2147483647 : Int32)) % (3 : Int32))), .unset, .unset, .unset, .unset, .unset] [(.int (2147483647 : Int32)), (.int pos)]))
  refine Go.st (fun _ => XS.iand W0.here W0.ex rfl (hb hby d1_11) rfl) ?_
  show Go p_ e_ bl_ _ (T0.setTop (mkF m_ 12 #[.val (.int mode), .val (.int pick), .val (.int pos), .val (.int c1), .val (.int c2), .val (.int c3), .val (.int ((pick &&& (2147483647 : Int32)) % (3 : Int32))), .unset, .unset, .unset, .unset, .unset] [(.int (pos &&& (2147483647 : Int32)))]))
  refine Go.st (fun _ => XS.istore W0.here W0.ex rfl (hb hby d1_12) rfl (l' := #[.val (.int mode), .val (.int pick), .val (.int pos), .val (.int c1), .val (.int c2), .val (.int c3), .val (.int ((pick &&& (2147483647 : Int32)) % (3 : Int32))), .val (.int (pos &&& (2147483647 : Int32))), .unset, .unset, .unset, .unset]) rfl) ?_
  show Go p_ e_ bl_ _ (T0.setTop (mkF m_ 14 #[.val (.int mode), .val (.int pick), .val (.int pos), .val (.int c1), .val (.int c2), .val (.int c3), .val (.int ((pick &&& (2147483647 : Int32)) % (3 : Int32))), .val (.int (pos &&& (2147483647 : Int32))), .unset, .unset, .unset, .unset] []))
  refine Go.st (fun _ => XS.iloadN W0.here W0.ex rfl (hb hby d1_14) rfl) ?_
  show Go p_ e_ bl_ _ (T0.setTop (mkF m_ 15 #[.val (.int mode), .val (.int pick), .val (.int pos), .val (.int c1), .val (.int c2), .val (.int c3), .val (.int ((pick &&& (2147483647 : Int32)) % (3 : Int32))), .val (.int (pos &&& (2147483647 : Int32))), .unset, .unset, .unset, .unset] [(.int c1)]))
  refine Go.st (fun _ => XS.sipush W0.here W0.ex rfl (hb hby d1_15)) ?_
  show Go p_ e_ bl_ _ (T0.setTop (mkF m_ 18 #[.val (.int mode), .val (.int pick), .val (.int pos), .val (.int c1), .val (.int c2), .val (.int c3), .val (.int ((pick &&& (2147483647 : Int32)) % (3 : Int32))), .val (.int (pos &&& (2147483647 : Int32))), .unset, .unset, .unset, .unset] [(.int (255 : Int32)), (.int c1)]))
  refine Go.st (fun _ => XS.iand W0.here W0.ex rfl (hb hby d1_18) rfl) ?_
  show Go p_ e_ bl_ _ (T0.setTop (mkF m_ 19 #[.val (.int mode), .val (.int pick), .val (.int pos), .val (.int c1), .val (.int c2), .val (.int c3), .val (.int ((pick &&& (2147483647 : Int32)) % (3 : Int32))), .val (.int (pos &&& (2147483647 : Int32))), .unset, .unset, .unset, .unset] [(.int (c1 &&& (255 : Int32)))]))
  refine Go.st (fun _ => XS.i2c W0.here W0.ex rfl (hb hby d1_19) rfl) ?_
  show Go p_ e_ bl_ _ (T0.setTop (mkF m_ 20 #[.val (.int mode), .val (.int pick), .val (.int pos), .val (.int c1), .val (.int c2), .val (.int c3), .val (.int ((pick &&& (2147483647 : Int32)) % (3 : Int32))), .val (.int (pos &&& (2147483647 : Int32))), .unset, .unset, .unset, .unset] [(.int ((c1 &&& (255 : Int32)).toUInt32.toUInt16.toUInt32.toInt32))]))
  rw [i2c_id (and255 c1)]
  show Go p_ e_ bl_ _ (T0.setTop (mkF m_ 20 #[.val (.int mode), .val (.int pick), .val (.int pos), .val (.int c1), .val (.int c2), .val (.int c3), .val (.int ((pick &&& (2147483647 : Int32)) % (3 : Int32))), .val (.int (pos &&& (2147483647 : Int32))), .unset, .unset, .unset, .unset] [(.int (c1 &&& (255 : Int32)))]))
  refine Go.st (fun _ => XS.istore W0.here W0.ex rfl (hb hby d1_20) rfl (l' := #[.val (.int mode), .val (.int pick), .val (.int pos), .val (.int c1), .val (.int c2), .val (.int c3), .val (.int ((pick &&& (2147483647 : Int32)) % (3 : Int32))), .val (.int (pos &&& (2147483647 : Int32))), .val (.int (c1 &&& (255 : Int32))), .unset, .unset, .unset]) rfl) ?_
  show Go p_ e_ bl_ _ (T0.setTop (mkF m_ 22 #[.val (.int mode), .val (.int pick), .val (.int pos), .val (.int c1), .val (.int c2), .val (.int c3), .val (.int ((pick &&& (2147483647 : Int32)) % (3 : Int32))), .val (.int (pos &&& (2147483647 : Int32))), .val (.int (c1 &&& (255 : Int32))), .unset, .unset, .unset] []))
  refine Go.st (fun _ => XS.iload W0.here W0.ex rfl (hb hby d1_22) rfl) ?_
  show Go p_ e_ bl_ _ (T0.setTop (mkF m_ 24 #[.val (.int mode), .val (.int pick), .val (.int pos), .val (.int c1), .val (.int c2), .val (.int c3), .val (.int ((pick &&& (2147483647 : Int32)) % (3 : Int32))), .val (.int (pos &&& (2147483647 : Int32))), .val (.int (c1 &&& (255 : Int32))), .unset, .unset, .unset] [(.int c2)]))
  refine Go.st (fun _ => XS.sipush W0.here W0.ex rfl (hb hby d1_24)) ?_
  show Go p_ e_ bl_ _ (T0.setTop (mkF m_ 27 #[.val (.int mode), .val (.int pick), .val (.int pos), .val (.int c1), .val (.int c2), .val (.int c3), .val (.int ((pick &&& (2147483647 : Int32)) % (3 : Int32))), .val (.int (pos &&& (2147483647 : Int32))), .val (.int (c1 &&& (255 : Int32))), .unset, .unset, .unset] [(.int (255 : Int32)), (.int c2)]))
  refine Go.st (fun _ => XS.iand W0.here W0.ex rfl (hb hby d1_27) rfl) ?_
  show Go p_ e_ bl_ _ (T0.setTop (mkF m_ 28 #[.val (.int mode), .val (.int pick), .val (.int pos), .val (.int c1), .val (.int c2), .val (.int c3), .val (.int ((pick &&& (2147483647 : Int32)) % (3 : Int32))), .val (.int (pos &&& (2147483647 : Int32))), .val (.int (c1 &&& (255 : Int32))), .unset, .unset, .unset] [(.int (c2 &&& (255 : Int32)))]))
  refine Go.st (fun _ => XS.i2c W0.here W0.ex rfl (hb hby d1_28) rfl) ?_
  show Go p_ e_ bl_ _ (T0.setTop (mkF m_ 29 #[.val (.int mode), .val (.int pick), .val (.int pos), .val (.int c1), .val (.int c2), .val (.int c3), .val (.int ((pick &&& (2147483647 : Int32)) % (3 : Int32))), .val (.int (pos &&& (2147483647 : Int32))), .val (.int (c1 &&& (255 : Int32))), .unset, .unset, .unset] [(.int ((c2 &&& (255 : Int32)).toUInt32.toUInt16.toUInt32.toInt32))]))
  rw [i2c_id (and255 c2)]
  show Go p_ e_ bl_ _ (T0.setTop (mkF m_ 29 #[.val (.int mode), .val (.int pick), .val (.int pos), .val (.int c1), .val (.int c2), .val (.int c3), .val (.int ((pick &&& (2147483647 : Int32)) % (3 : Int32))), .val (.int (pos &&& (2147483647 : Int32))), .val (.int (c1 &&& (255 : Int32))), .unset, .unset, .unset] [(.int (c2 &&& (255 : Int32)))]))
  refine Go.st (fun _ => XS.istore W0.here W0.ex rfl (hb hby d1_29) rfl (l' := #[.val (.int mode), .val (.int pick), .val (.int pos), .val (.int c1), .val (.int c2), .val (.int c3), .val (.int ((pick &&& (2147483647 : Int32)) % (3 : Int32))), .val (.int (pos &&& (2147483647 : Int32))), .val (.int (c1 &&& (255 : Int32))), .val (.int (c2 &&& (255 : Int32))), .unset, .unset]) rfl) ?_
  show Go p_ e_ bl_ _ (T0.setTop (mkF m_ 31 #[.val (.int mode), .val (.int pick), .val (.int pos), .val (.int c1), .val (.int c2), .val (.int c3), .val (.int ((pick &&& (2147483647 : Int32)) % (3 : Int32))), .val (.int (pos &&& (2147483647 : Int32))), .val (.int (c1 &&& (255 : Int32))), .val (.int (c2 &&& (255 : Int32))), .unset, .unset] []))
  refine Go.st (fun _ => XS.iload W0.here W0.ex rfl (hb hby d1_31) rfl) ?_
  show Go p_ e_ bl_ _ (T0.setTop (mkF m_ 33 #[.val (.int mode), .val (.int pick), .val (.int pos), .val (.int c1), .val (.int c2), .val (.int c3), .val (.int ((pick &&& (2147483647 : Int32)) % (3 : Int32))), .val (.int (pos &&& (2147483647 : Int32))), .val (.int (c1 &&& (255 : Int32))), .val (.int (c2 &&& (255 : Int32))), .unset, .unset] [(.int c3)]))
  refine Go.st (fun _ => XS.sipush W0.here W0.ex rfl (hb hby d1_33)) ?_
  show Go p_ e_ bl_ _ (T0.setTop (mkF m_ 36 #[.val (.int mode), .val (.int pick), .val (.int pos), .val (.int c1), .val (.int c2), .val (.int c3), .val (.int ((pick &&& (2147483647 : Int32)) % (3 : Int32))), .val (.int (pos &&& (2147483647 : Int32))), .val (.int (c1 &&& (255 : Int32))), .val (.int (c2 &&& (255 : Int32))), .unset, .unset] [(.int (255 : Int32)), (.int c3)]))
  refine Go.st (fun _ => XS.iand W0.here W0.ex rfl (hb hby d1_36) rfl) ?_
  show Go p_ e_ bl_ _ (T0.setTop (mkF m_ 37 #[.val (.int mode), .val (.int pick), .val (.int pos), .val (.int c1), .val (.int c2), .val (.int c3), .val (.int ((pick &&& (2147483647 : Int32)) % (3 : Int32))), .val (.int (pos &&& (2147483647 : Int32))), .val (.int (c1 &&& (255 : Int32))), .val (.int (c2 &&& (255 : Int32))), .unset, .unset] [(.int (c3 &&& (255 : Int32)))]))
  refine Go.st (fun _ => XS.i2c W0.here W0.ex rfl (hb hby d1_37) rfl) ?_
  show Go p_ e_ bl_ _ (T0.setTop (mkF m_ 38 #[.val (.int mode), .val (.int pick), .val (.int pos), .val (.int c1), .val (.int c2), .val (.int c3), .val (.int ((pick &&& (2147483647 : Int32)) % (3 : Int32))), .val (.int (pos &&& (2147483647 : Int32))), .val (.int (c1 &&& (255 : Int32))), .val (.int (c2 &&& (255 : Int32))), .unset, .unset] [(.int ((c3 &&& (255 : Int32)).toUInt32.toUInt16.toUInt32.toInt32))]))
  rw [i2c_id (and255 c3)]
  show Go p_ e_ bl_ _ (T0.setTop (mkF m_ 38 #[.val (.int mode), .val (.int pick), .val (.int pos), .val (.int c1), .val (.int c2), .val (.int c3), .val (.int ((pick &&& (2147483647 : Int32)) % (3 : Int32))), .val (.int (pos &&& (2147483647 : Int32))), .val (.int (c1 &&& (255 : Int32))), .val (.int (c2 &&& (255 : Int32))), .unset, .unset] [(.int (c3 &&& (255 : Int32)))]))
  refine Go.st (fun _ => XS.istore W0.here W0.ex rfl (hb hby d1_38) rfl (l' := #[.val (.int mode), .val (.int pick), .val (.int pos), .val (.int c1), .val (.int c2), .val (.int c3), .val (.int ((pick &&& (2147483647 : Int32)) % (3 : Int32))), .val (.int (pos &&& (2147483647 : Int32))), .val (.int (c1 &&& (255 : Int32))), .val (.int (c2 &&& (255 : Int32))), .val (.int (c3 &&& (255 : Int32))), .unset]) rfl) ?_
  show Go p_ e_ bl_ _ (T0.setTop (mkF m_ 40 #[.val (.int mode), .val (.int pick), .val (.int pos), .val (.int c1), .val (.int c2), .val (.int c3), .val (.int ((pick &&& (2147483647 : Int32)) % (3 : Int32))), .val (.int (pos &&& (2147483647 : Int32))), .val (.int (c1 &&& (255 : Int32))), .val (.int (c2 &&& (255 : Int32))), .val (.int (c3 &&& (255 : Int32))), .unset] []))
  refine Go.st (fun _ => XS.iloadN W0.here W0.ex rfl (hb hby d1_40) rfl) ?_
  show Go p_ e_ bl_ _ (T0.setTop (mkF m_ 41 #[.val (.int mode), .val (.int pick), .val (.int pos), .val (.int c1), .val (.int c2), .val (.int c3), .val (.int ((pick &&& (2147483647 : Int32)) % (3 : Int32))), .val (.int (pos &&& (2147483647 : Int32))), .val (.int (c1 &&& (255 : Int32))), .val (.int (c2 &&& (255 : Int32))), .val (.int (c3 &&& (255 : Int32))), .unset] [(.int mode)]))
  by_cases hm0 : mode = (0 : Int32)
  · refine Go.st (fun _ => XS.ifNo W0.here W0.ex rfl (hb hby d1_41) rfl ((if0 _ _).trans (teq (hm0 : mode = (0 : Int32))).2)) ?_
    show Go p_ e_ bl_ _ (T0.setTop (mkF m_ 44 #[.val (.int mode), .val (.int pick), .val (.int pos), .val (.int c1), .val (.int c2), .val (.int c3), .val (.int ((pick &&& (2147483647 : Int32)) % (3 : Int32))), .val (.int (pos &&& (2147483647 : Int32))), .val (.int (c1 &&& (255 : Int32))), .val (.int (c2 &&& (255 : Int32))), .val (.int (c3 &&& (255 : Int32))), .unset] []))
    refine Go.st (fun _ => XS.iload W0.here W0.ex rfl (hb hby d1_44) rfl) ?_
    show Go p_ e_ bl_ _ (T0.setTop (mkF m_ 46 #[.val (.int mode), .val (.int pick), .val (.int pos), .val (.int c1), .val (.int c2), .val (.int c3), .val (.int ((pick &&& (2147483647 : Int32)) % (3 : Int32))), .val (.int (pos &&& (2147483647 : Int32))), .val (.int (c1 &&& (255 : Int32))), .val (.int (c2 &&& (255 : Int32))), .val (.int (c3 &&& (255 : Int32))), .unset] [(.int ((pick &&& (2147483647 : Int32)) % (3 : Int32)))]))
    by_cases hk0 : ((pick &&& (2147483647 : Int32)) % (3 : Int32)) = (0 : Int32)
    · refine Go.st (fun _ => XS.ifNo W0.here W0.ex rfl (hb hby d1_46) rfl ((if0 _ _).trans (teq (hk0 : ((pick &&& (2147483647 : Int32)) % (3 : Int32)) = (0 : Int32))).2)) ?_
      show Go p_ e_ bl_ _ (T0.setTop (mkF m_ 49 #[.val (.int mode), .val (.int pick), .val (.int pos), .val (.int c1), .val (.int c2), .val (.int c3), .val (.int ((pick &&& (2147483647 : Int32)) % (3 : Int32))), .val (.int (pos &&& (2147483647 : Int32))), .val (.int (c1 &&& (255 : Int32))), .val (.int (c2 &&& (255 : Int32))), .val (.int (c3 &&& (255 : Int32))), .unset] []))
      refine W0.ldc (cx.w 5 rfl) cx.str (EL := consts_1) (List.mem_of_getElem? (i := 0) rfl) (vs := (litV 5)) (z := 8) ⟨by decide, rfl⟩ (by decide) rfl (hb hby d1_49) (j := 32) (by decide) (by decide) (k' := 2) (n' := 36) rfl rfl (by decide) (by decide) ?_
      intro vm1 T1 h1 a1 d1 kA_d1 W1 E1 E_a1 F_coder_a1 F_value_a1 V_d1 nl1
      replace K0 := K0.ext E1
      show Go p_ e_ bl_ _ (T1.setTop (mkF m_ 51 #[.val (.int mode), .val (.int pick), .val (.int pos), .val (.int c1), .val (.int c2), .val (.int c3), .val (.int ((pick &&& (2147483647 : Int32)) % (3 : Int32))), .val (.int (pos &&& (2147483647 : Int32))), .val (.int (c1 &&& (255 : Int32))), .val (.int (c2 &&& (255 : Int32))), .val (.int (c3 &&& (255 : Int32))), .unset] [(.ref a1)]))
      have S_a1 : StrAt Z h1 a1 d1 (litC 5) := ⟨E_a1, F_coder_a1, F_value_a1, ⟨_, V_d1⟩, (by decide +kernel : ∀ c ∈ litC 5, ¬ c < 0 ∧ ¬ (255 : Int32) < c), (by decide +kernel : (litC 5).length ≤ 4000)⟩
      exact W1.retA hret rfl rfl (hb hby d1_51) (by decide) (by decide) fun _ _ => ⟨K0, Or.inr ⟨a1, _, _, rfl, S_a1⟩⟩
    · refine Go.st (fun _ => XS.ifYes W0.here W0.ex rfl (pc0 := 46) (pc' := 52) rfl (hb hby d1_46) rfl ((if0 _ _).trans (feq (hk0 : ¬ (((pick &&& (2147483647 : Int32)) % (3 : Int32)) = (0 : Int32)))).2) (by decide) (by decide)) ?_
      show Go p_ e_ bl_ _ (T0.setTop (mkF m_ 52 #[.val (.int mode), .val (.int pick), .val (.int pos), .val (.int c1), .val (.int c2), .val (.int c3), .val (.int ((pick &&& (2147483647 : Int32)) % (3 : Int32))), .val (.int (pos &&& (2147483647 : Int32))), .val (.int (c1 &&& (255 : Int32))), .val (.int (c2 &&& (255 : Int32))), .val (.int (c3 &&& (255 : Int32))), .unset] []))
      refine Go.st (fun _ => XS.iload W0.here W0.ex rfl (hb hby d1_52) rfl) ?_
      show Go p_ e_ bl_ _ (T0.setTop (mkF m_ 54 #[.val (.int mode), .val (.int pick), .val (.int pos), .val (.int c1), .val (.int c2), .val (.int c3), .val (.int ((pick &&& (2147483647 : Int32)) % (3 : Int32))), .val (.int (pos &&& (2147483647 : Int32))), .val (.int (c1 &&& (255 : Int32))), .val (.int (c2 &&& (255 : Int32))), .val (.int (c3 &&& (255 : Int32))), .unset] [(.int ((pick &&& (2147483647 : Int32)) % (3 : Int32)))]))
      refine Go.st (fun _ => XS.iconst W0.here W0.ex rfl (hb hby d1_54)) ?_
      show Go p_ e_ bl_ _ (T0.setTop (mkF m_ 55 #[.val (.int mode), .val (.int pick), .val (.int pos), .val (.int c1), .val (.int c2), .val (.int c3), .val (.int ((pick &&& (2147483647 : Int32)) % (3 : Int32))), .val (.int (pos &&& (2147483647 : Int32))), .val (.int (c1 &&& (255 : Int32))), .val (.int (c2 &&& (255 : Int32))), .val (.int (c3 &&& (255 : Int32))), .unset] [(.int (1 : Int32)), (.int ((pick &&& (2147483647 : Int32)) % (3 : Int32)))]))
      by_cases hk1 : ((pick &&& (2147483647 : Int32)) % (3 : Int32)) = (1 : Int32)
      · refine Go.st (fun _ => XS.icmpNo W0.here W0.ex rfl (hb hby d1_55) rfl (teq (hk1 : ((pick &&& (2147483647 : Int32)) % (3 : Int32)) = (1 : Int32))).2) ?_
        show Go p_ e_ bl_ _ (T0.setTop (mkF m_ 58 #[.val (.int mode), .val (.int pick), .val (.int pos), .val (.int c1), .val (.int c2), .val (.int c3), .val (.int ((pick &&& (2147483647 : Int32)) % (3 : Int32))), .val (.int (pos &&& (2147483647 : Int32))), .val (.int (c1 &&& (255 : Int32))), .val (.int (c2 &&& (255 : Int32))), .val (.int (c3 &&& (255 : Int32))), .unset] []))
        refine W0.ldc (cx.w 90 rfl) cx.str (EL := consts_1) (List.mem_of_getElem? (i := 1) rfl) (vs := (litV 90)) (z := 14) ⟨by decide, rfl⟩ (by decide) rfl (hb hby d1_58) (j := 56) (by decide) (by decide) (k' := 2) (n' := 60) rfl rfl (by decide) (by decide) ?_
        intro vm2 T2 h2 a2 d2 kA_d2 W2 E2 E_a2 F_coder_a2 F_value_a2 V_d2 nl2
        replace K0 := K0.ext E2
        show Go p_ e_ bl_ _ (T2.setTop (mkF m_ 60 #[.val (.int mode), .val (.int pick), .val (.int pos), .val (.int c1), .val (.int c2), .val (.int c3), .val (.int ((pick &&& (2147483647 : Int32)) % (3 : Int32))), .val (.int (pos &&& (2147483647 : Int32))), .val (.int (c1 &&& (255 : Int32))), .val (.int (c2 &&& (255 : Int32))), .val (.int (c3 &&& (255 : Int32))), .unset] [(.ref a2)]))
        have S_a2 : StrAt Z h2 a2 d2 (litC 90) := ⟨E_a2, F_coder_a2, F_value_a2, ⟨_, V_d2⟩, (by decide +kernel : ∀ c ∈ litC 90, ¬ c < 0 ∧ ¬ (255 : Int32) < c), (by decide +kernel : (litC 90).length ≤ 4000)⟩
        exact W2.retA hret rfl rfl (hb hby d1_60) (by decide) (by decide) fun _ _ => ⟨K0, Or.inr ⟨a2, _, _, rfl, S_a2⟩⟩
      · refine Go.st (fun _ => XS.icmpYes W0.here W0.ex rfl (pc0 := 55) (pc' := 61) rfl (hb hby d1_55) rfl (feq (hk1 : ¬ (((pick &&& (2147483647 : Int32)) % (3 : Int32)) = (1 : Int32)))).2 (by decide) (by decide)) ?_
        show Go p_ e_ bl_ _ (T0.setTop (mkF m_ 61 #[.val (.int mode), .val (.int pick), .val (.int pos), .val (.int c1), .val (.int c2), .val (.int c3), .val (.int ((pick &&& (2147483647 : Int32)) % (3 : Int32))), .val (.int (pos &&& (2147483647 : Int32))), .val (.int (c1 &&& (255 : Int32))), .val (.int (c2 &&& (255 : Int32))), .val (.int (c3 &&& (255 : Int32))), .unset] []))
        refine W0.ldc (cx.w 111 rfl) cx.str (EL := consts_1) (List.mem_of_getElem? (i := 2) rfl) (vs := (litV 111)) (z := 9) ⟨by decide, rfl⟩ (by decide) rfl (hb hby d1_61) (j := 36) (by decide) (by decide) (k' := 2) (n' := 40) rfl rfl (by decide) (by decide) ?_
        intro vm3 T3 h3 a3 d3 kA_d3 W3 E3 E_a3 F_coder_a3 F_value_a3 V_d3 nl3
        replace K0 := K0.ext E3
        show Go p_ e_ bl_ _ (T3.setTop (mkF m_ 63 #[.val (.int mode), .val (.int pick), .val (.int pos), .val (.int c1), .val (.int c2), .val (.int c3), .val (.int ((pick &&& (2147483647 : Int32)) % (3 : Int32))), .val (.int (pos &&& (2147483647 : Int32))), .val (.int (c1 &&& (255 : Int32))), .val (.int (c2 &&& (255 : Int32))), .val (.int (c3 &&& (255 : Int32))), .unset] [(.ref a3)]))
        have S_a3 : StrAt Z h3 a3 d3 (litC 111) := ⟨E_a3, F_coder_a3, F_value_a3, ⟨_, V_d3⟩, (by decide +kernel : ∀ c ∈ litC 111, ¬ c < 0 ∧ ¬ (255 : Int32) < c), (by decide +kernel : (litC 111).length ≤ 4000)⟩
        exact W3.retA hret rfl rfl (hb hby d1_63) (by decide) (by decide) fun _ _ => ⟨K0, Or.inr ⟨a3, _, _, rfl, S_a3⟩⟩
  · refine Go.st (fun _ => XS.ifYes W0.here W0.ex rfl (pc0 := 41) (pc' := 64) rfl (hb hby d1_41) rfl ((if0 _ _).trans (feq (hm0 : ¬ (mode = (0 : Int32)))).2) (by decide) (by decide)) ?_
    show Go p_ e_ bl_ _ (T0.setTop (mkF m_ 64 #[.val (.int mode), .val (.int pick), .val (.int pos), .val (.int c1), .val (.int c2), .val (.int c3), .val (.int ((pick &&& (2147483647 : Int32)) % (3 : Int32))), .val (.int (pos &&& (2147483647 : Int32))), .val (.int (c1 &&& (255 : Int32))), .val (.int (c2 &&& (255 : Int32))), .val (.int (c3 &&& (255 : Int32))), .unset] []))
    refine Go.st (fun _ => XS.iloadN W0.here W0.ex rfl (hb hby d1_64) rfl) ?_
    show Go p_ e_ bl_ _ (T0.setTop (mkF m_ 65 #[.val (.int mode), .val (.int pick), .val (.int pos), .val (.int c1), .val (.int c2), .val (.int c3), .val (.int ((pick &&& (2147483647 : Int32)) % (3 : Int32))), .val (.int (pos &&& (2147483647 : Int32))), .val (.int (c1 &&& (255 : Int32))), .val (.int (c2 &&& (255 : Int32))), .val (.int (c3 &&& (255 : Int32))), .unset] [(.int mode)]))
    refine Go.st (fun _ => XS.iconst W0.here W0.ex rfl (hb hby d1_65)) ?_
    show Go p_ e_ bl_ _ (T0.setTop (mkF m_ 66 #[.val (.int mode), .val (.int pick), .val (.int pos), .val (.int c1), .val (.int c2), .val (.int c3), .val (.int ((pick &&& (2147483647 : Int32)) % (3 : Int32))), .val (.int (pos &&& (2147483647 : Int32))), .val (.int (c1 &&& (255 : Int32))), .val (.int (c2 &&& (255 : Int32))), .val (.int (c3 &&& (255 : Int32))), .unset] [(.int (1 : Int32)), (.int mode)]))
    by_cases hm1 : mode = (1 : Int32)
    · refine Go.st (fun _ => XS.icmpNo W0.here W0.ex rfl (hb hby d1_66) rfl (teq (hm1 : mode = (1 : Int32))).2) ?_
      show Go p_ e_ bl_ _ (T0.setTop (mkF m_ 69 #[.val (.int mode), .val (.int pick), .val (.int pos), .val (.int c1), .val (.int c2), .val (.int c3), .val (.int ((pick &&& (2147483647 : Int32)) % (3 : Int32))), .val (.int (pos &&& (2147483647 : Int32))), .val (.int (c1 &&& (255 : Int32))), .val (.int (c2 &&& (255 : Int32))), .val (.int (c3 &&& (255 : Int32))), .unset] []))
      refine Go.st (fun _ => XS.iload W0.here W0.ex rfl (hb hby d1_69) rfl) ?_
      show Go p_ e_ bl_ _ (T0.setTop (mkF m_ 71 #[.val (.int mode), .val (.int pick), .val (.int pos), .val (.int c1), .val (.int c2), .val (.int c3), .val (.int ((pick &&& (2147483647 : Int32)) % (3 : Int32))), .val (.int (pos &&& (2147483647 : Int32))), .val (.int (c1 &&& (255 : Int32))), .val (.int (c2 &&& (255 : Int32))), .val (.int (c3 &&& (255 : Int32))), .unset] [(.int ((pick &&& (2147483647 : Int32)) % (3 : Int32)))]))
      by_cases hk0 : ((pick &&& (2147483647 : Int32)) % (3 : Int32)) = (0 : Int32)
      · refine Go.st (fun _ => XS.ifNo W0.here W0.ex rfl (hb hby d1_71) rfl ((if0 _ _).trans (teq (hk0 : ((pick &&& (2147483647 : Int32)) % (3 : Int32)) = (0 : Int32))).2)) ?_
        show Go p_ e_ bl_ _ (T0.setTop (mkF m_ 74 #[.val (.int mode), .val (.int pick), .val (.int pos), .val (.int c1), .val (.int c2), .val (.int c3), .val (.int ((pick &&& (2147483647 : Int32)) % (3 : Int32))), .val (.int (pos &&& (2147483647 : Int32))), .val (.int (c1 &&& (255 : Int32))), .val (.int (c2 &&& (255 : Int32))), .val (.int (c3 &&& (255 : Int32))), .unset] []))
        refine Go.st (fun _ => XS.bipush W0.here W0.ex rfl (hb hby d1_74)) ?_
        show Go p_ e_ bl_ _ (T0.setTop (mkF m_ 76 #[.val (.int mode), .val (.int pick), .val (.int pos), .val (.int c1), .val (.int c2), .val (.int c3), .val (.int ((pick &&& (2147483647 : Int32)) % (3 : Int32))), .val (.int (pos &&& (2147483647 : Int32))), .val (.int (c1 &&& (255 : Int32))), .val (.int (c2 &&& (255 : Int32))), .val (.int (c3 &&& (255 : Int32))), .unset] [(.int (8 : Int32))]))
        refine W0.newP (ty := .char) (dv := .int 0) rfl rfl (cx.w 92 rfl) (hb hby d1_76) (z := (8 : Int32)) (by decide) (cap := 8) (by decide) (by decide) (k' := 1) (n' := 8) rfl rfl (by decide) (by decide) ?_
        intro T4 h4 b4 kA_b4 hb4 g_b4 W4 E4 V_b4
        have sz_b4 : h.size ≤ b4 := Nat.le_trans K0.1 (Nat.le_of_eq hb4.symm)
        replace K0 := K0.ext E4
        replace V_b4 : Arv Z h4 b4 kA_b4 .char (8 : Int32) [(.int 0), (.int 0), (.int 0), (.int 0), (.int 0), (.int 0), (.int 0), (.int 0)] (.int 0) := V_b4
        show Go p_ e_ bl_ _ (T4.setTop (mkF m_ 78 #[.val (.int mode), .val (.int pick), .val (.int pos), .val (.int c1), .val (.int c2), .val (.int c3), .val (.int ((pick &&& (2147483647 : Int32)) % (3 : Int32))), .val (.int (pos &&& (2147483647 : Int32))), .val (.int (c1 &&& (255 : Int32))), .val (.int (c2 &&& (255 : Int32))), .val (.int (c3 &&& (255 : Int32))), .unset] [(.ref b4)]))
        refine Go.st (fun _ => XS.dup W4.here W4.ex rfl (hb hby d1_78) rfl rfl) ?_
        show Go p_ e_ bl_ _ (T4.setTop (mkF m_ 79 #[.val (.int mode), .val (.int pick), .val (.int pos), .val (.int c1), .val (.int c2), .val (.int c3), .val (.int ((pick &&& (2147483647 : Int32)) % (3 : Int32))), .val (.int (pos &&& (2147483647 : Int32))), .val (.int (c1 &&& (255 : Int32))), .val (.int (c2 &&& (255 : Int32))), .val (.int (c3 &&& (255 : Int32))), .unset] [(.ref b4), (.ref b4)]))
        refine Go.st (fun _ => XS.iconst W4.here W4.ex rfl (hb hby d1_79)) ?_
        show Go p_ e_ bl_ _ (T4.setTop (mkF m_ 80 #[.val (.int mode), .val (.int pick), .val (.int pos), .val (.int c1), .val (.int c2), .val (.int c3), .val (.int ((pick &&& (2147483647 : Int32)) % (3 : Int32))), .val (.int (pos &&& (2147483647 : Int32))), .val (.int (c1 &&& (255 : Int32))), .val (.int (c2 &&& (255 : Int32))), .val (.int (c3 &&& (255 : Int32))), .unset] [(.int (0 : Int32)), (.ref b4), (.ref b4)]))
        refine Go.st (fun _ => XS.bipush W4.here W4.ex rfl (hb hby d1_80)) ?_
        show Go p_ e_ bl_ _ (T4.setTop (mkF m_ 82 #[.val (.int mode), .val (.int pick), .val (.int pos), .val (.int c1), .val (.int c2), .val (.int c3), .val (.int ((pick &&& (2147483647 : Int32)) % (3 : Int32))), .val (.int (pos &&& (2147483647 : Int32))), .val (.int (c1 &&& (255 : Int32))), .val (.int (c2 &&& (255 : Int32))), .val (.int (c3 &&& (255 : Int32))), .unset] [(.int (114 : Int32)), (.int (0 : Int32)), (.ref b4), (.ref b4)]))
        refine W4.stC V_b4 (j := (0 : Int32)) (x := (114 : Int32)) ⟨by decide, by decide⟩ 0 rfl (Nat.le_of_ble_eq_true rfl) (List.mem_of_getElem? (i := 0) rfl) g_b4 (hb hby d1_82) ?_
        intro T5 h5 L5 W5 w5 V_new
        replace K0 := K0.wr w5 (Or.inr sz_b4)
        replace V_b4 : Arv Z h5 b4 kA_b4 .char (8 : Int32) [(.int (114 : Int32)), (.int 0), (.int 0), (.int 0), (.int 0), (.int 0), (.int 0), (.int 0)] (.int 0) := V_new
        clear V_new
        show Go p_ e_ bl_ _ (T5.setTop (mkF m_ 83 #[.val (.int mode), .val (.int pick), .val (.int pos), .val (.int c1), .val (.int c2), .val (.int c3), .val (.int ((pick &&& (2147483647 : Int32)) % (3 : Int32))), .val (.int (pos &&& (2147483647 : Int32))), .val (.int (c1 &&& (255 : Int32))), .val (.int (c2 &&& (255 : Int32))), .val (.int (c3 &&& (255 : Int32))), .unset] [(.ref b4)]))
        refine Go.st (fun _ => XS.dup W5.here W5.ex rfl (hb hby d1_83) rfl rfl) ?_
        show Go p_ e_ bl_ _ (T5.setTop (mkF m_ 84 #[.val (.int mode), .val (.int pick), .val (.int pos), .val (.int c1), .val (.int c2), .val (.int c3), .val (.int ((pick &&& (2147483647 : Int32)) % (3 : Int32))), .val (.int (pos &&& (2147483647 : Int32))), .val (.int (c1 &&& (255 : Int32))), .val (.int (c2 &&& (255 : Int32))), .val (.int (c3 &&& (255 : Int32))), .unset] [(.ref b4), (.ref b4)]))
        refine Go.st (fun _ => XS.iconst W5.here W5.ex rfl (hb hby d1_84)) ?_
        show Go p_ e_ bl_ _ (T5.setTop (mkF m_ 85 #[.val (.int mode), .val (.int pick), .val (.int pos), .val (.int c1), .val (.int c2), .val (.int c3), .val (.int ((pick &&& (2147483647 : Int32)) % (3 : Int32))), .val (.int (pos &&& (2147483647 : Int32))), .val (.int (c1 &&& (255 : Int32))), .val (.int (c2 &&& (255 : Int32))), .val (.int (c3 &&& (255 : Int32))), .unset] [(.int (1 : Int32)), (.ref b4), (.ref b4)]))
        refine Go.st (fun _ => XS.bipush W5.here W5.ex rfl (hb hby d1_85)) ?_
        show Go p_ e_ bl_ _ (T5.setTop (mkF m_ 87 #[.val (.int mode), .val (.int pick), .val (.int pos), .val (.int c1), .val (.int c2), .val (.int c3), .val (.int ((pick &&& (2147483647 : Int32)) % (3 : Int32))), .val (.int (pos &&& (2147483647 : Int32))), .val (.int (c1 &&& (255 : Int32))), .val (.int (c2 &&& (255 : Int32))), .val (.int (c3 &&& (255 : Int32))), .unset] [(.int (101 : Int32)), (.int (1 : Int32)), (.ref b4), (.ref b4)]))
        refine W5.stC V_b4 (j := (1 : Int32)) (x := (101 : Int32)) ⟨by decide, by decide⟩ 1 rfl (Nat.le_of_ble_eq_true rfl) (List.mem_of_getElem? (i := 0) rfl) g_b4 (hb hby d1_87) ?_
        intro T6 h6 L6 W6 w6 V_new
        replace K0 := K0.wr w6 (Or.inr sz_b4)
        replace V_b4 : Arv Z h6 b4 kA_b4 .char (8 : Int32) [(.int (114 : Int32)), (.int (101 : Int32)), (.int 0), (.int 0), (.int 0), (.int 0), (.int 0), (.int 0)] (.int 0) := V_new
        clear V_new
        show Go p_ e_ bl_ _ (T6.setTop (mkF m_ 88 #[.val (.int mode), .val (.int pick), .val (.int pos), .val (.int c1), .val (.int c2), .val (.int c3), .val (.int ((pick &&& (2147483647 : Int32)) % (3 : Int32))), .val (.int (pos &&& (2147483647 : Int32))), .val (.int (c1 &&& (255 : Int32))), .val (.int (c2 &&& (255 : Int32))), .val (.int (c3 &&& (255 : Int32))), .unset] [(.ref b4)]))
        refine Go.st (fun _ => XS.dup W6.here W6.ex rfl (hb hby d1_88) rfl rfl) ?_
        show Go p_ e_ bl_ _ (T6.setTop (mkF m_ 89 #[.val (.int mode), .val (.int pick), .val (.int pos), .val (.int c1), .val (.int c2), .val (.int c3), .val (.int ((pick &&& (2147483647 : Int32)) % (3 : Int32))), .val (.int (pos &&& (2147483647 : Int32))), .val (.int (c1 &&& (255 : Int32))), .val (.int (c2 &&& (255 : Int32))), .val (.int (c3 &&& (255 : Int32))), .unset] [(.ref b4), (.ref b4)]))
        refine Go.st (fun _ => XS.iconst W6.here W6.ex rfl (hb hby d1_89)) ?_
        show Go p_ e_ bl_ _ (T6.setTop (mkF m_ 90 #[.val (.int mode), .val (.int pick), .val (.int pos), .val (.int c1), .val (.int c2), .val (.int c3), .val (.int ((pick &&& (2147483647 : Int32)) % (3 : Int32))), .val (.int (pos &&& (2147483647 : Int32))), .val (.int (c1 &&& (255 : Int32))), .val (.int (c2 &&& (255 : Int32))), .val (.int (c3 &&& (255 : Int32))), .unset] [(.int (2 : Int32)), (.ref b4), (.ref b4)]))
        refine Go.st (fun _ => XS.bipush W6.here W6.ex rfl (hb hby d1_90)) ?_
        show Go p_ e_ bl_ _ (T6.setTop (mkF m_ 92 #[.val (.int mode), .val (.int pick), .val (.int pos), .val (.int c1), .val (.int c2), .val (.int c3), .val (.int ((pick &&& (2147483647 : Int32)) % (3 : Int32))), .val (.int (pos &&& (2147483647 : Int32))), .val (.int (c1 &&& (255 : Int32))), .val (.int (c2 &&& (255 : Int32))), .val (.int (c3 &&& (255 : Int32))), .unset] [(.int (112 : Int32)), (.int (2 : Int32)), (.ref b4), (.ref b4)]))
        refine W6.stC V_b4 (j := (2 : Int32)) (x := (112 : Int32)) ⟨by decide, by decide⟩ 2 rfl (Nat.le_of_ble_eq_true rfl) (List.mem_of_getElem? (i := 0) rfl) g_b4 (hb hby d1_92) ?_
        intro T7 h7 L7 W7 w7 V_new
        replace K0 := K0.wr w7 (Or.inr sz_b4)
        replace V_b4 : Arv Z h7 b4 kA_b4 .char (8 : Int32) [(.int (114 : Int32)), (.int (101 : Int32)), (.int (112 : Int32)), (.int 0), (.int 0), (.int 0), (.int 0), (.int 0)] (.int 0) := V_new
        clear V_new
        show Go p_ e_ bl_ _ (T7.setTop (mkF m_ 93 #[.val (.int mode), .val (.int pick), .val (.int pos), .val (.int c1), .val (.int c2), .val (.int c3), .val (.int ((pick &&& (2147483647 : Int32)) % (3 : Int32))), .val (.int (pos &&& (2147483647 : Int32))), .val (.int (c1 &&& (255 : Int32))), .val (.int (c2 &&& (255 : Int32))), .val (.int (c3 &&& (255 : Int32))), .unset] [(.ref b4)]))
        refine Go.st (fun _ => XS.dup W7.here W7.ex rfl (hb hby d1_93) rfl rfl) ?_
        show Go p_ e_ bl_ _ (T7.setTop (mkF m_ 94 #[.val (.int mode), .val (.int pick), .val (.int pos), .val (.int c1), .val (.int c2), .val (.int c3), .val (.int ((pick &&& (2147483647 : Int32)) % (3 : Int32))), .val (.int (pos &&& (2147483647 : Int32))), .val (.int (c1 &&& (255 : Int32))), .val (.int (c2 &&& (255 : Int32))), .val (.int (c3 &&& (255 : Int32))), .unset] [(.ref b4), (.ref b4)]))
        refine Go.st (fun _ => XS.iconst W7.here W7.ex rfl (hb hby d1_94)) ?_
        show Go p_ e_ bl_ _ (T7.setTop (mkF m_ 95 #[.val (.int mode), .val (.int pick), .val (.int pos), .val (.int c1), .val (.int c2), .val (.int c3), .val (.int ((pick &&& (2147483647 : Int32)) % (3 : Int32))), .val (.int (pos &&& (2147483647 : Int32))), .val (.int (c1 &&& (255 : Int32))), .val (.int (c2 &&& (255 : Int32))), .val (.int (c3 &&& (255 : Int32))), .unset] [(.int (3 : Int32)), (.ref b4), (.ref b4)]))
        refine Go.st (fun _ => XS.bipush W7.here W7.ex rfl (hb hby d1_95)) ?_
        show Go p_ e_ bl_ _ (T7.setTop (mkF m_ 97 #[.val (.int mode), .val (.int pick), .val (.int pos), .val (.int c1), .val (.int c2), .val (.int c3), .val (.int ((pick &&& (2147483647 : Int32)) % (3 : Int32))), .val (.int (pos &&& (2147483647 : Int32))), .val (.int (c1 &&& (255 : Int32))), .val (.int (c2 &&& (255 : Int32))), .val (.int (c3 &&& (255 : Int32))), .unset] [(.int (58 : Int32)), (.int (3 : Int32)), (.ref b4), (.ref b4)]))
        refine W7.stC V_b4 (j := (3 : Int32)) (x := (58 : Int32)) ⟨by decide, by decide⟩ 3 rfl (Nat.le_of_ble_eq_true rfl) (List.mem_of_getElem? (i := 0) rfl) g_b4 (hb hby d1_97) ?_
        intro T8 h8 L8 W8 w8 V_new
        replace K0 := K0.wr w8 (Or.inr sz_b4)
        replace V_b4 : Arv Z h8 b4 kA_b4 .char (8 : Int32) [(.int (114 : Int32)), (.int (101 : Int32)), (.int (112 : Int32)), (.int (58 : Int32)), (.int 0), (.int 0), (.int 0), (.int 0)] (.int 0) := V_new
        clear V_new
        show Go p_ e_ bl_ _ (T8.setTop (mkF m_ 98 #[.val (.int mode), .val (.int pick), .val (.int pos), .val (.int c1), .val (.int c2), .val (.int c3), .val (.int ((pick &&& (2147483647 : Int32)) % (3 : Int32))), .val (.int (pos &&& (2147483647 : Int32))), .val (.int (c1 &&& (255 : Int32))), .val (.int (c2 &&& (255 : Int32))), .val (.int (c3 &&& (255 : Int32))), .unset] [(.ref b4)]))
        refine Go.st (fun _ => XS.dup W8.here W8.ex rfl (hb hby d1_98) rfl rfl) ?_
        show Go p_ e_ bl_ _ (T8.setTop (mkF m_ 99 #[.val (.int mode), .val (.int pick), .val (.int pos), .val (.int c1), .val (.int c2), .val (.int c3), .val (.int ((pick &&& (2147483647 : Int32)) % (3 : Int32))), .val (.int (pos &&& (2147483647 : Int32))), .val (.int (c1 &&& (255 : Int32))), .val (.int (c2 &&& (255 : Int32))), .val (.int (c3 &&& (255 : Int32))), .unset] [(.ref b4), (.ref b4)]))
        refine Go.st (fun _ => XS.iconst W8.here W8.ex rfl (hb hby d1_99)) ?_
        show Go p_ e_ bl_ _ (T8.setTop (mkF m_ 100 #[.val (.int mode), .val (.int pick), .val (.int pos), .val (.int c1), .val (.int c2), .val (.int c3), .val (.int ((pick &&& (2147483647 : Int32)) % (3 : Int32))), .val (.int (pos &&& (2147483647 : Int32))), .val (.int (c1 &&& (255 : Int32))), .val (.int (c2 &&& (255 : Int32))), .val (.int (c3 &&& (255 : Int32))), .unset] [(.int (4 : Int32)), (.ref b4), (.ref b4)]))
        refine Go.st (fun _ => XS.bipush W8.here W8.ex rfl (hb hby d1_100)) ?_
        show Go p_ e_ bl_ _ (T8.setTop (mkF m_ 102 #[.val (.int mode), .val (.int pick), .val (.int pos), .val (.int c1), .val (.int c2), .val (.int c3), .val (.int ((pick &&& (2147483647 : Int32)) % (3 : Int32))), .val (.int (pos &&& (2147483647 : Int32))), .val (.int (c1 &&& (255 : Int32))), .val (.int (c2 &&& (255 : Int32))), .val (.int (c3 &&& (255 : Int32))), .unset] [(.int (85 : Int32)), (.int (4 : Int32)), (.ref b4), (.ref b4)]))
        refine W8.stC V_b4 (j := (4 : Int32)) (x := (85 : Int32)) ⟨by decide, by decide⟩ 4 rfl (Nat.le_of_ble_eq_true rfl) (List.mem_of_getElem? (i := 0) rfl) g_b4 (hb hby d1_102) ?_
        intro T9 h9 L9 W9 w9 V_new
        replace K0 := K0.wr w9 (Or.inr sz_b4)
        replace V_b4 : Arv Z h9 b4 kA_b4 .char (8 : Int32) [(.int (114 : Int32)), (.int (101 : Int32)), (.int (112 : Int32)), (.int (58 : Int32)), (.int (85 : Int32)), (.int 0), (.int 0), (.int 0)] (.int 0) := V_new
        clear V_new
        show Go p_ e_ bl_ _ (T9.setTop (mkF m_ 103 #[.val (.int mode), .val (.int pick), .val (.int pos), .val (.int c1), .val (.int c2), .val (.int c3), .val (.int ((pick &&& (2147483647 : Int32)) % (3 : Int32))), .val (.int (pos &&& (2147483647 : Int32))), .val (.int (c1 &&& (255 : Int32))), .val (.int (c2 &&& (255 : Int32))), .val (.int (c3 &&& (255 : Int32))), .unset] [(.ref b4)]))
        refine Go.st (fun _ => XS.dup W9.here W9.ex rfl (hb hby d1_103) rfl rfl) ?_
        show Go p_ e_ bl_ _ (T9.setTop (mkF m_ 104 #[.val (.int mode), .val (.int pick), .val (.int pos), .val (.int c1), .val (.int c2), .val (.int c3), .val (.int ((pick &&& (2147483647 : Int32)) % (3 : Int32))), .val (.int (pos &&& (2147483647 : Int32))), .val (.int (c1 &&& (255 : Int32))), .val (.int (c2 &&& (255 : Int32))), .val (.int (c3 &&& (255 : Int32))), .unset] [(.ref b4), (.ref b4)]))
        refine Go.st (fun _ => XS.iconst W9.here W9.ex rfl (hb hby d1_104)) ?_
        show Go p_ e_ bl_ _ (T9.setTop (mkF m_ 105 #[.val (.int mode), .val (.int pick), .val (.int pos), .val (.int c1), .val (.int c2), .val (.int c3), .val (.int ((pick &&& (2147483647 : Int32)) % (3 : Int32))), .val (.int (pos &&& (2147483647 : Int32))), .val (.int (c1 &&& (255 : Int32))), .val (.int (c2 &&& (255 : Int32))), .val (.int (c3 &&& (255 : Int32))), .unset] [(.int (5 : Int32)), (.ref b4), (.ref b4)]))
        refine Go.st (fun _ => XS.bipush W9.here W9.ex rfl (hb hby d1_105)) ?_
        show Go p_ e_ bl_ _ (T9.setTop (mkF m_ 107 #[.val (.int mode), .val (.int pick), .val (.int pos), .val (.int c1), .val (.int c2), .val (.int c3), .val (.int ((pick &&& (2147483647 : Int32)) % (3 : Int32))), .val (.int (pos &&& (2147483647 : Int32))), .val (.int (c1 &&& (255 : Int32))), .val (.int (c2 &&& (255 : Int32))), .val (.int (c3 &&& (255 : Int32))), .unset] [(.int (115 : Int32)), (.int (5 : Int32)), (.ref b4), (.ref b4)]))
        refine W9.stC V_b4 (j := (5 : Int32)) (x := (115 : Int32)) ⟨by decide, by decide⟩ 5 rfl (Nat.le_of_ble_eq_true rfl) (List.mem_of_getElem? (i := 0) rfl) g_b4 (hb hby d1_107) ?_
        intro T10 h10 L10 W10 w10 V_new
        replace K0 := K0.wr w10 (Or.inr sz_b4)
        replace V_b4 : Arv Z h10 b4 kA_b4 .char (8 : Int32) [(.int (114 : Int32)), (.int (101 : Int32)), (.int (112 : Int32)), (.int (58 : Int32)), (.int (85 : Int32)), (.int (115 : Int32)), (.int 0), (.int 0)] (.int 0) := V_new
        clear V_new
        show Go p_ e_ bl_ _ (T10.setTop (mkF m_ 108 #[.val (.int mode), .val (.int pick), .val (.int pos), .val (.int c1), .val (.int c2), .val (.int c3), .val (.int ((pick &&& (2147483647 : Int32)) % (3 : Int32))), .val (.int (pos &&& (2147483647 : Int32))), .val (.int (c1 &&& (255 : Int32))), .val (.int (c2 &&& (255 : Int32))), .val (.int (c3 &&& (255 : Int32))), .unset] [(.ref b4)]))
        refine Go.st (fun _ => XS.dup W10.here W10.ex rfl (hb hby d1_108) rfl rfl) ?_
        show Go p_ e_ bl_ _ (T10.setTop (mkF m_ 109 #[.val (.int mode), .val (.int pick), .val (.int pos), .val (.int c1), .val (.int c2), .val (.int c3), .val (.int ((pick &&& (2147483647 : Int32)) % (3 : Int32))), .val (.int (pos &&& (2147483647 : Int32))), .val (.int (c1 &&& (255 : Int32))), .val (.int (c2 &&& (255 : Int32))), .val (.int (c3 &&& (255 : Int32))), .unset] [(.ref b4), (.ref b4)]))
        refine Go.st (fun _ => XS.bipush W10.here W10.ex rfl (hb hby d1_109)) ?_
        show Go p_ e_ bl_ _ (T10.setTop (mkF m_ 111 #[.val (.int mode), .val (.int pick), .val (.int pos), .val (.int c1), .val (.int c2), .val (.int c3), .val (.int ((pick &&& (2147483647 : Int32)) % (3 : Int32))), .val (.int (pos &&& (2147483647 : Int32))), .val (.int (c1 &&& (255 : Int32))), .val (.int (c2 &&& (255 : Int32))), .val (.int (c3 &&& (255 : Int32))), .unset] [(.int (6 : Int32)), (.ref b4), (.ref b4)]))
        refine Go.st (fun _ => XS.bipush W10.here W10.ex rfl (hb hby d1_111)) ?_
        show Go p_ e_ bl_ _ (T10.setTop (mkF m_ 113 #[.val (.int mode), .val (.int pick), .val (.int pos), .val (.int c1), .val (.int c2), .val (.int c3), .val (.int ((pick &&& (2147483647 : Int32)) % (3 : Int32))), .val (.int (pos &&& (2147483647 : Int32))), .val (.int (c1 &&& (255 : Int32))), .val (.int (c2 &&& (255 : Int32))), .val (.int (c3 &&& (255 : Int32))), .unset] [(.int (101 : Int32)), (.int (6 : Int32)), (.ref b4), (.ref b4)]))
        refine W10.stC V_b4 (j := (6 : Int32)) (x := (101 : Int32)) ⟨by decide, by decide⟩ 6 rfl (Nat.le_of_ble_eq_true rfl) (List.mem_of_getElem? (i := 0) rfl) g_b4 (hb hby d1_113) ?_
        intro T11 h11 L11 W11 w11 V_new
        replace K0 := K0.wr w11 (Or.inr sz_b4)
        replace V_b4 : Arv Z h11 b4 kA_b4 .char (8 : Int32) [(.int (114 : Int32)), (.int (101 : Int32)), (.int (112 : Int32)), (.int (58 : Int32)), (.int (85 : Int32)), (.int (115 : Int32)), (.int (101 : Int32)), (.int 0)] (.int 0) := V_new
        clear V_new
        show Go p_ e_ bl_ _ (T11.setTop (mkF m_ 114 #[.val (.int mode), .val (.int pick), .val (.int pos), .val (.int c1), .val (.int c2), .val (.int c3), .val (.int ((pick &&& (2147483647 : Int32)) % (3 : Int32))), .val (.int (pos &&& (2147483647 : Int32))), .val (.int (c1 &&& (255 : Int32))), .val (.int (c2 &&& (255 : Int32))), .val (.int (c3 &&& (255 : Int32))), .unset] [(.ref b4)]))
        refine Go.st (fun _ => XS.dup W11.here W11.ex rfl (hb hby d1_114) rfl rfl) ?_
        show Go p_ e_ bl_ _ (T11.setTop (mkF m_ 115 #[.val (.int mode), .val (.int pick), .val (.int pos), .val (.int c1), .val (.int c2), .val (.int c3), .val (.int ((pick &&& (2147483647 : Int32)) % (3 : Int32))), .val (.int (pos &&& (2147483647 : Int32))), .val (.int (c1 &&& (255 : Int32))), .val (.int (c2 &&& (255 : Int32))), .val (.int (c3 &&& (255 : Int32))), .unset] [(.ref b4), (.ref b4)]))
        refine Go.st (fun _ => XS.bipush W11.here W11.ex rfl (hb hby d1_115)) ?_
        show Go p_ e_ bl_ _ (T11.setTop (mkF m_ 117 #[.val (.int mode), .val (.int pick), .val (.int pos), .val (.int c1), .val (.int c2), .val (.int c3), .val (.int ((pick &&& (2147483647 : Int32)) % (3 : Int32))), .val (.int (pos &&& (2147483647 : Int32))), .val (.int (c1 &&& (255 : Int32))), .val (.int (c2 &&& (255 : Int32))), .val (.int (c3 &&& (255 : Int32))), .unset] [(.int (7 : Int32)), (.ref b4), (.ref b4)]))
        refine Go.st (fun _ => XS.bipush W11.here W11.ex rfl (hb hby d1_117)) ?_
        show Go p_ e_ bl_ _ (T11.setTop (mkF m_ 119 #[.val (.int mode), .val (.int pick), .val (.int pos), .val (.int c1), .val (.int c2), .val (.int c3), .val (.int ((pick &&& (2147483647 : Int32)) % (3 : Int32))), .val (.int (pos &&& (2147483647 : Int32))), .val (.int (c1 &&& (255 : Int32))), .val (.int (c2 &&& (255 : Int32))), .val (.int (c3 &&& (255 : Int32))), .unset] [(.int (114 : Int32)), (.int (7 : Int32)), (.ref b4), (.ref b4)]))
        refine W11.stC V_b4 (j := (7 : Int32)) (x := (114 : Int32)) ⟨by decide, by decide⟩ 7 rfl (Nat.le_of_ble_eq_true rfl) (List.mem_of_getElem? (i := 0) rfl) g_b4 (hb hby d1_119) ?_
        intro T12 h12 L12 W12 w12 V_new
        replace K0 := K0.wr w12 (Or.inr sz_b4)
        replace V_b4 : Arv Z h12 b4 kA_b4 .char (8 : Int32) [(.int (114 : Int32)), (.int (101 : Int32)), (.int (112 : Int32)), (.int (58 : Int32)), (.int (85 : Int32)), (.int (115 : Int32)), (.int (101 : Int32)), (.int (114 : Int32))] (.int 0) := V_new
        clear V_new
        show Go p_ e_ bl_ _ (T12.setTop (mkF m_ 120 #[.val (.int mode), .val (.int pick), .val (.int pos), .val (.int c1), .val (.int c2), .val (.int c3), .val (.int ((pick &&& (2147483647 : Int32)) % (3 : Int32))), .val (.int (pos &&& (2147483647 : Int32))), .val (.int (c1 &&& (255 : Int32))), .val (.int (c2 &&& (255 : Int32))), .val (.int (c3 &&& (255 : Int32))), .unset] [(.ref b4)]))
        refine Go.st (fun _ => XS.astore W12.here W12.ex rfl (hb hby d1_120) rfl rfl (l' := #[.val (.int mode), .val (.int pick), .val (.int pos), .val (.int c1), .val (.int c2), .val (.int c3), .val (.int ((pick &&& (2147483647 : Int32)) % (3 : Int32))), .val (.int (pos &&& (2147483647 : Int32))), .val (.int (c1 &&& (255 : Int32))), .val (.int (c2 &&& (255 : Int32))), .val (.int (c3 &&& (255 : Int32))), .val (.ref b4)]) rfl) ?_
        show Go p_ e_ bl_ _ (T12.setTop (mkF m_ 122 #[.val (.int mode), .val (.int pick), .val (.int pos), .val (.int c1), .val (.int c2), .val (.int c3), .val (.int ((pick &&& (2147483647 : Int32)) % (3 : Int32))), .val (.int (pos &&& (2147483647 : Int32))), .val (.int (c1 &&& (255 : Int32))), .val (.int (c2 &&& (255 : Int32))), .val (.int (c3 &&& (255 : Int32))), .val (.ref b4)] []))
        refine Go.st (fun _ => XS.aload W12.here W12.ex rfl (hb hby d1_122) rfl rfl) ?_
        show Go p_ e_ bl_ _ (T12.setTop (mkF m_ 124 #[.val (.int mode), .val (.int pick), .val (.int pos), .val (.int c1), .val (.int c2), .val (.int c3), .val (.int ((pick &&& (2147483647 : Int32)) % (3 : Int32))), .val (.int (pos &&& (2147483647 : Int32))), .val (.int (c1 &&& (255 : Int32))), .val (.int (c2 &&& (255 : Int32))), .val (.int (c3 &&& (255 : Int32))), .val (.ref b4)] [(.ref b4)]))
        refine Go.st (fun _ => XS.iload W12.here W12.ex rfl (hb hby d1_124) rfl) ?_
        show Go p_ e_ bl_ _ (T12.setTop (mkF m_ 126 #[.val (.int mode), .val (.int pick), .val (.int pos), .val (.int c1), .val (.int c2), .val (.int c3), .val (.int ((pick &&& (2147483647 : Int32)) % (3 : Int32))), .val (.int (pos &&& (2147483647 : Int32))), .val (.int (c1 &&& (255 : Int32))), .val (.int (c2 &&& (255 : Int32))), .val (.int (c3 &&& (255 : Int32))), .val (.ref b4)] [(.int (pos &&& (2147483647 : Int32))), (.ref b4)]))
        refine Go.st (fun _ => XS.bipush W12.here W12.ex rfl (hb hby d1_126)) ?_
        show Go p_ e_ bl_ _ (T12.setTop (mkF m_ 128 #[.val (.int mode), .val (.int pick), .val (.int pos), .val (.int c1), .val (.int c2), .val (.int c3), .val (.int ((pick &&& (2147483647 : Int32)) % (3 : Int32))), .val (.int (pos &&& (2147483647 : Int32))), .val (.int (c1 &&& (255 : Int32))), .val (.int (c2 &&& (255 : Int32))), .val (.int (c3 &&& (255 : Int32))), .val (.ref b4)] [(.int (8 : Int32)), (.int (pos &&& (2147483647 : Int32))), (.ref b4)]))
        refine Go.st (fun _ => iremM W12.X W12.ex rfl (hb hby d1_128) rfl (by decide)) ?_
        show Go p_ e_ bl_ _ (T12.setTop (mkF m_ 129 #[.val (.int mode), .val (.int pick), .val (.int pos), .val (.int c1), .val (.int c2), .val (.int c3), .val (.int ((pick &&& (2147483647 : Int32)) % (3 : Int32))), .val (.int (pos &&& (2147483647 : Int32))), .val (.int (c1 &&& (255 : Int32))), .val (.int (c2 &&& (255 : Int32))), .val (.int (c3 &&& (255 : Int32))), .val (.ref b4)] [(.int ((pos &&& (2147483647 : Int32)) % (8 : Int32))), (.ref b4)]))
        refine Go.st (fun _ => XS.iload W12.here W12.ex rfl (hb hby d1_129) rfl) ?_
        show Go p_ e_ bl_ _ (T12.setTop (mkF m_ 131 #[.val (.int mode), .val (.int pick), .val (.int pos), .val (.int c1), .val (.int c2), .val (.int c3), .val (.int ((pick &&& (2147483647 : Int32)) % (3 : Int32))), .val (.int (pos &&& (2147483647 : Int32))), .val (.int (c1 &&& (255 : Int32))), .val (.int (c2 &&& (255 : Int32))), .val (.int (c3 &&& (255 : Int32))), .val (.ref b4)] [(.int (c1 &&& (255 : Int32))), (.int ((pos &&& (2147483647 : Int32)) % (8 : Int32))), (.ref b4)]))
        have hj := idxn pos 8 8 rfl (by decide)
        obtain ⟨ji, hji⟩ : ∃ ji, ji = (((pos &&& (2147483647 : Int32)) % (8 : Int32))).toNatClampNeg := ⟨_, rfl⟩
        have hlj : ji < 8 := by rw [hji]; exact natn rfl hj
        refine W12.stC V_b4 (j := ((pos &&& (2147483647 : Int32)) % (8 : Int32))) (x := (c1 &&& (255 : Int32))) hj ji hji.symm hlj (List.mem_of_getElem? (i := 0) rfl) g_b4 (hb hby d1_131) ?_
        intro T13 h13 L13 W13 w13 V_new
        replace K0 := K0.wr w13 (Or.inr sz_b4)
        rw [nar_char (and255 c1)] at V_new
        replace V_b4 : Arv Z h13 b4 kA_b4 .char (8 : Int32) ((([(114 : Int32), (101 : Int32), (112 : Int32), (58 : Int32), (85 : Int32), (115 : Int32), (101 : Int32), (114 : Int32)] : List Int32).set ji (c1 &&& (255 : Int32))).map Value.int) (.int 0) := by rw [List.map_set]; exact V_new
        clear V_new
        show Go p_ e_ bl_ _ (T13.setTop (mkF m_ 132 #[.val (.int mode), .val (.int pick), .val (.int pos), .val (.int c1), .val (.int c2), .val (.int c3), .val (.int ((pick &&& (2147483647 : Int32)) % (3 : Int32))), .val (.int (pos &&& (2147483647 : Int32))), .val (.int (c1 &&& (255 : Int32))), .val (.int (c2 &&& (255 : Int32))), .val (.int (c3 &&& (255 : Int32))), .val (.ref b4)] []))
        refine W13.newO (cx.w 93 rfl) (cx.w 7 rfl) (cx.w 6 rfl) (hb hby d1_132) (k' := 2) (n' := 12) rfl rfl (by decide) (by decide) ?_
        intro T14 h14 b14 hb14 g_b14 W14 E14 E_b14 D14
        have ne_b4_b14 : b4 ≠ b14 := Nat.ne_of_lt (Nat.lt_of_lt_of_le V_b4.lt (Nat.le_of_eq hb14.symm))
        have sz_b14 : h.size ≤ b14 := Nat.le_trans K0.1 (Nat.le_of_eq hb14.symm)
        replace V_b4 := V_b4.ext E14
        replace K0 := K0.ext E14
        have F_value_b14 : Fld Z h14 b14 "java/lang/String" "value" "[B" .null := D14 (Or.inr (cx.w 9 rfl)) (ty := (.array .byte)) (by decide)
        have F_coder_b14 : Fld Z h14 b14 "java/lang/String" "coder" "B" (.int (0 : Int32)) := D14 (Or.inr (cx.w 10 rfl)) (ty := .byte) (by decide)
        show Go p_ e_ bl_ _ (T14.setTop (mkF m_ 135 #[.val (.int mode), .val (.int pick), .val (.int pos), .val (.int c1), .val (.int c2), .val (.int c3), .val (.int ((pick &&& (2147483647 : Int32)) % (3 : Int32))), .val (.int (pos &&& (2147483647 : Int32))), .val (.int (c1 &&& (255 : Int32))), .val (.int (c2 &&& (255 : Int32))), .val (.int (c3 &&& (255 : Int32))), .val (.ref b4)] [(.ref b14)]))
        refine Go.st (fun _ => XS.dup W14.here W14.ex rfl (hb hby d1_135) rfl rfl) ?_
        show Go p_ e_ bl_ _ (T14.setTop (mkF m_ 136 #[.val (.int mode), .val (.int pick), .val (.int pos), .val (.int c1), .val (.int c2), .val (.int c3), .val (.int ((pick &&& (2147483647 : Int32)) % (3 : Int32))), .val (.int (pos &&& (2147483647 : Int32))), .val (.int (c1 &&& (255 : Int32))), .val (.int (c2 &&& (255 : Int32))), .val (.int (c3 &&& (255 : Int32))), .val (.ref b4)] [(.ref b14), (.ref b14)]))
        refine Go.st (fun _ => XS.aload W14.here W14.ex rfl (hb hby d1_136) rfl rfl) ?_
        show Go p_ e_ bl_ _ (T14.setTop (mkF m_ 138 #[.val (.int mode), .val (.int pick), .val (.int pos), .val (.int c1), .val (.int c2), .val (.int c3), .val (.int ((pick &&& (2147483647 : Int32)) % (3 : Int32))), .val (.int (pos &&& (2147483647 : Int32))), .val (.int (c1 &&& (255 : Int32))), .val (.int (c2 &&& (255 : Int32))), .val (.int (c3 &&& (255 : Int32))), .val (.ref b4)] [(.ref b4), (.ref b14), (.ref b14)]))
        refine W14.libI (y := (⟨"java/lang/String", "<init>", "([C)V"⟩ : MethodName)) rfl (cx.w 94 rfl) (cx.w 95 rfl) (cx.w 96 rfl) (by decide) (Q := StrChars.Road.QV Z b14 (8 : Int32) (((([(114 : Int32), (101 : Int32), (112 : Int32), (58 : Int32), (85 : Int32), (115 : Int32), (101 : Int32), (114 : Int32)] : List Int32).set ji (c1 &&& (255 : Int32)))).map (fun c => c.toInt8.toInt32)) h14 n0) (ws := [b14]) (Wd := 1) (ck := 1) (cn := 8) (StrChars.Road.backV (W := 1) W14.hZ cx.vw (kI := 4) (cx.w 7 rfl) (cs := (([(114 : Int32), (101 : Int32), (112 : Int32), (58 : Int32), (85 : Int32), (115 : Int32), (101 : Int32), (114 : Int32)] : List Int32).set ji (c1 &&& (255 : Int32)))) (bs := ((([(114 : Int32), (101 : Int32), (112 : Int32), (58 : Int32), (85 : Int32), (115 : Int32), (101 : Int32), (114 : Int32)] : List Int32).set ji (c1 &&& (255 : Int32)))).map (fun c => c.toInt8.toInt32)) (n := 8) g_b14 W14.n0le E_b14 F_value_b14 F_coder_b14 V_b4 (cx.cmp.ext W14.e0) cx.g1 (show (([(114 : Int32), (101 : Int32), (112 : Int32), (58 : Int32), (85 : Int32), (115 : Int32), (101 : Int32), (114 : Int32)] : List Int32).set ji (c1 &&& (255 : Int32))).length = 8 by rw [List.length_set]; rfl) rfl (by decide) (by decide) (Ch8.set (Ch8.cons (by decide) (Ch8.cons (by decide) (Ch8.cons (by decide) (Ch8.cons (by decide) (Ch8.cons (by decide) (Ch8.cons (by decide) (Ch8.cons (by decide) (Ch8.cons (by decide) Ch8.nil)))))))) (and255 c1) ji) rfl (by decide) (by decide)) (fun v h' L' q => ⟨q.2.1, q.2.2.1⟩) (allS (List.mem_of_getElem? (i := 0) rfl) all0) (allS g_b14 all0) (k' := 3) (n' := 20) rfl rfl (by decide) (by decide) (by rw [hml]; rfl) (a := b14) (argsL := [(.ref b4)]) (rest := [(.ref b14)]) rfl (lenOf pd6 rfl) rfl (Nat.le_of_eq rfl) (hb hby d1_138) ?_
        intro v16 T16 h16 M16 L16 W16 q16
        obtain ⟨rfl, -, Kv15, E_n, F_cn, ts, k_ts, g_ts, hz_ts, -, F_vn, V_n⟩ := q16
        have ne_b4_ts : b4 ≠ ts := Nat.ne_of_lt (Nat.lt_of_lt_of_le V_b4.lt hz_ts)
        have ne_b14_ts : b14 ≠ ts := Nat.ne_of_lt (Nat.lt_of_lt_of_le E_b14.lt hz_ts)
        have sz_ts : h.size ≤ ts := Nat.le_trans K0.1 hz_ts
        replace V_b4 := V_b4.keep Kv15 (ninS ne_b4_b14 nin0)
        replace E_b14 := E_b14.keep Kv15
        replace K0 := K0.trans Kv15 (allS (Or.inr sz_b14) all0)
        show Go p_ e_ bl_ _ (T16.setTop (mkF m_ 141 #[.val (.int mode), .val (.int pick), .val (.int pos), .val (.int c1), .val (.int c2), .val (.int c3), .val (.int ((pick &&& (2147483647 : Int32)) % (3 : Int32))), .val (.int (pos &&& (2147483647 : Int32))), .val (.int (c1 &&& (255 : Int32))), .val (.int (c2 &&& (255 : Int32))), .val (.int (c3 &&& (255 : Int32))), .val (.ref b4)] [(.ref b14)]))
        have S_b14 : StrAt Z h16 b14 ts (([(114 : Int32), (101 : Int32), (112 : Int32), (58 : Int32), (85 : Int32), (115 : Int32), (101 : Int32), (114 : Int32)] : List Int32).set ji (c1 &&& (255 : Int32))) := ⟨E_n, F_cn, F_vn, ⟨_, by rw [(show (([(114 : Int32), (101 : Int32), (112 : Int32), (58 : Int32), (85 : Int32), (115 : Int32), (101 : Int32), (114 : Int32)] : List Int32).set ji (c1 &&& (255 : Int32))).length = 8 by rw [List.length_set]; rfl)]; exact V_n⟩, (Ch8.set (Ch8.cons (by decide) (Ch8.cons (by decide) (Ch8.cons (by decide) (Ch8.cons (by decide) (Ch8.cons (by decide) (Ch8.cons (by decide) (Ch8.cons (by decide) (Ch8.cons (by decide) Ch8.nil)))))))) (and255 c1) ji), by rw [(show (([(114 : Int32), (101 : Int32), (112 : Int32), (58 : Int32), (85 : Int32), (115 : Int32), (101 : Int32), (114 : Int32)] : List Int32).set ji (c1 &&& (255 : Int32))).length = 8 by rw [List.length_set]; rfl)]; decide⟩
        exact W16.retA hret rfl rfl (hb hby d1_141) (by decide) (by decide) fun _ _ => ⟨K0, Or.inr ⟨b14, _, _, rfl, S_b14⟩⟩
      · refine Go.st (fun _ => XS.ifYes W0.here W0.ex rfl (pc0 := 71) (pc' := 142) rfl (hb hby d1_71) rfl ((if0 _ _).trans (feq (hk0 : ¬ (((pick &&& (2147483647 : Int32)) % (3 : Int32)) = (0 : Int32)))).2) (by decide) (by decide)) ?_
        show Go p_ e_ bl_ _ (T0.setTop (mkF m_ 142 #[.val (.int mode), .val (.int pick), .val (.int pos), .val (.int c1), .val (.int c2), .val (.int c3), .val (.int ((pick &&& (2147483647 : Int32)) % (3 : Int32))), .val (.int (pos &&& (2147483647 : Int32))), .val (.int (c1 &&& (255 : Int32))), .val (.int (c2 &&& (255 : Int32))), .val (.int (c3 &&& (255 : Int32))), .unset] []))
        refine Go.st (fun _ => XS.iload W0.here W0.ex rfl (hb hby d1_142) rfl) ?_
        show Go p_ e_ bl_ _ (T0.setTop (mkF m_ 144 #[.val (.int mode), .val (.int pick), .val (.int pos), .val (.int c1), .val (.int c2), .val (.int c3), .val (.int ((pick &&& (2147483647 : Int32)) % (3 : Int32))), .val (.int (pos &&& (2147483647 : Int32))), .val (.int (c1 &&& (255 : Int32))), .val (.int (c2 &&& (255 : Int32))), .val (.int (c3 &&& (255 : Int32))), .unset] [(.int ((pick &&& (2147483647 : Int32)) % (3 : Int32)))]))
        refine Go.st (fun _ => XS.iconst W0.here W0.ex rfl (hb hby d1_144)) ?_
        show Go p_ e_ bl_ _ (T0.setTop (mkF m_ 145 #[.val (.int mode), .val (.int pick), .val (.int pos), .val (.int c1), .val (.int c2), .val (.int c3), .val (.int ((pick &&& (2147483647 : Int32)) % (3 : Int32))), .val (.int (pos &&& (2147483647 : Int32))), .val (.int (c1 &&& (255 : Int32))), .val (.int (c2 &&& (255 : Int32))), .val (.int (c3 &&& (255 : Int32))), .unset] [(.int (1 : Int32)), (.int ((pick &&& (2147483647 : Int32)) % (3 : Int32)))]))
        by_cases hk1 : ((pick &&& (2147483647 : Int32)) % (3 : Int32)) = (1 : Int32)
        · refine Go.st (fun _ => XS.icmpNo W0.here W0.ex rfl (hb hby d1_145) rfl (teq (hk1 : ((pick &&& (2147483647 : Int32)) % (3 : Int32)) = (1 : Int32))).2) ?_
          show Go p_ e_ bl_ _ (T0.setTop (mkF m_ 148 #[.val (.int mode), .val (.int pick), .val (.int pos), .val (.int c1), .val (.int c2), .val (.int c3), .val (.int ((pick &&& (2147483647 : Int32)) % (3 : Int32))), .val (.int (pos &&& (2147483647 : Int32))), .val (.int (c1 &&& (255 : Int32))), .val (.int (c2 &&& (255 : Int32))), .val (.int (c3 &&& (255 : Int32))), .unset] []))
          refine Go.st (fun _ => XS.bipush W0.here W0.ex rfl (hb hby d1_148)) ?_
          show Go p_ e_ bl_ _ (T0.setTop (mkF m_ 150 #[.val (.int mode), .val (.int pick), .val (.int pos), .val (.int c1), .val (.int c2), .val (.int c3), .val (.int ((pick &&& (2147483647 : Int32)) % (3 : Int32))), .val (.int (pos &&& (2147483647 : Int32))), .val (.int (c1 &&& (255 : Int32))), .val (.int (c2 &&& (255 : Int32))), .val (.int (c3 &&& (255 : Int32))), .unset] [(.int (14 : Int32))]))
          refine W0.newP (ty := .char) (dv := .int 0) rfl rfl (cx.w 92 rfl) (hb hby d1_150) (z := (14 : Int32)) (by decide) (cap := 14) (by decide) (by decide) (k' := 1) (n' := 14) rfl rfl (by decide) (by decide) ?_
          intro T17 h17 b17 kA_b17 hb17 g_b17 W17 E17 V_b17
          have sz_b17 : h.size ≤ b17 := Nat.le_trans K0.1 (Nat.le_of_eq hb17.symm)
          replace K0 := K0.ext E17
          replace V_b17 : Arv Z h17 b17 kA_b17 .char (14 : Int32) [(.int 0), (.int 0), (.int 0), (.int 0), (.int 0), (.int 0), (.int 0), (.int 0), (.int 0), (.int 0), (.int 0), (.int 0), (.int 0), (.int 0)] (.int 0) := V_b17
          show Go p_ e_ bl_ _ (T17.setTop (mkF m_ 152 #[.val (.int mode), .val (.int pick), .val (.int pos), .val (.int c1), .val (.int c2), .val (.int c3), .val (.int ((pick &&& (2147483647 : Int32)) % (3 : Int32))), .val (.int (pos &&& (2147483647 : Int32))), .val (.int (c1 &&& (255 : Int32))), .val (.int (c2 &&& (255 : Int32))), .val (.int (c3 &&& (255 : Int32))), .unset] [(.ref b17)]))
          refine Go.st (fun _ => XS.dup W17.here W17.ex rfl (hb hby d1_152) rfl rfl) ?_
          show Go p_ e_ bl_ _ (T17.setTop (mkF m_ 153 #[.val (.int mode), .val (.int pick), .val (.int pos), .val (.int c1), .val (.int c2), .val (.int c3), .val (.int ((pick &&& (2147483647 : Int32)) % (3 : Int32))), .val (.int (pos &&& (2147483647 : Int32))), .val (.int (c1 &&& (255 : Int32))), .val (.int (c2 &&& (255 : Int32))), .val (.int (c3 &&& (255 : Int32))), .unset] [(.ref b17), (.ref b17)]))
          refine Go.st (fun _ => XS.iconst W17.here W17.ex rfl (hb hby d1_153)) ?_
          show Go p_ e_ bl_ _ (T17.setTop (mkF m_ 154 #[.val (.int mode), .val (.int pick), .val (.int pos), .val (.int c1), .val (.int c2), .val (.int c3), .val (.int ((pick &&& (2147483647 : Int32)) % (3 : Int32))), .val (.int (pos &&& (2147483647 : Int32))), .val (.int (c1 &&& (255 : Int32))), .val (.int (c2 &&& (255 : Int32))), .val (.int (c3 &&& (255 : Int32))), .unset] [(.int (0 : Int32)), (.ref b17), (.ref b17)]))
          refine Go.st (fun _ => XS.bipush W17.here W17.ex rfl (hb hby d1_154)) ?_
          show Go p_ e_ bl_ _ (T17.setTop (mkF m_ 156 #[.val (.int mode), .val (.int pick), .val (.int pos), .val (.int c1), .val (.int c2), .val (.int c3), .val (.int ((pick &&& (2147483647 : Int32)) % (3 : Int32))), .val (.int (pos &&& (2147483647 : Int32))), .val (.int (c1 &&& (255 : Int32))), .val (.int (c2 &&& (255 : Int32))), .val (.int (c3 &&& (255 : Int32))), .unset] [(.int (114 : Int32)), (.int (0 : Int32)), (.ref b17), (.ref b17)]))
          refine W17.stC V_b17 (j := (0 : Int32)) (x := (114 : Int32)) ⟨by decide, by decide⟩ 0 rfl (Nat.le_of_ble_eq_true rfl) (List.mem_of_getElem? (i := 0) rfl) g_b17 (hb hby d1_156) ?_
          intro T18 h18 L18 W18 w18 V_new
          replace K0 := K0.wr w18 (Or.inr sz_b17)
          replace V_b17 : Arv Z h18 b17 kA_b17 .char (14 : Int32) [(.int (114 : Int32)), (.int 0), (.int 0), (.int 0), (.int 0), (.int 0), (.int 0), (.int 0), (.int 0), (.int 0), (.int 0), (.int 0), (.int 0), (.int 0)] (.int 0) := V_new
          clear V_new
          show Go p_ e_ bl_ _ (T18.setTop (mkF m_ 157 #[.val (.int mode), .val (.int pick), .val (.int pos), .val (.int c1), .val (.int c2), .val (.int c3), .val (.int ((pick &&& (2147483647 : Int32)) % (3 : Int32))), .val (.int (pos &&& (2147483647 : Int32))), .val (.int (c1 &&& (255 : Int32))), .val (.int (c2 &&& (255 : Int32))), .val (.int (c3 &&& (255 : Int32))), .unset] [(.ref b17)]))
          refine Go.st (fun _ => XS.dup W18.here W18.ex rfl (hb hby d1_157) rfl rfl) ?_
          show Go p_ e_ bl_ _ (T18.setTop (mkF m_ 158 #[.val (.int mode), .val (.int pick), .val (.int pos), .val (.int c1), .val (.int c2), .val (.int c3), .val (.int ((pick &&& (2147483647 : Int32)) % (3 : Int32))), .val (.int (pos &&& (2147483647 : Int32))), .val (.int (c1 &&& (255 : Int32))), .val (.int (c2 &&& (255 : Int32))), .val (.int (c3 &&& (255 : Int32))), .unset] [(.ref b17), (.ref b17)]))
          refine Go.st (fun _ => XS.iconst W18.here W18.ex rfl (hb hby d1_158)) ?_
          show Go p_ e_ bl_ _ (T18.setTop (mkF m_ 159 #[.val (.int mode), .val (.int pick), .val (.int pos), .val (.int c1), .val (.int c2), .val (.int c3), .val (.int ((pick &&& (2147483647 : Int32)) % (3 : Int32))), .val (.int (pos &&& (2147483647 : Int32))), .val (.int (c1 &&& (255 : Int32))), .val (.int (c2 &&& (255 : Int32))), .val (.int (c3 &&& (255 : Int32))), .unset] [(.int (1 : Int32)), (.ref b17), (.ref b17)]))
          refine Go.st (fun _ => XS.bipush W18.here W18.ex rfl (hb hby d1_159)) ?_
          show Go p_ e_ bl_ _ (T18.setTop (mkF m_ 161 #[.val (.int mode), .val (.int pick), .val (.int pos), .val (.int c1), .val (.int c2), .val (.int c3), .val (.int ((pick &&& (2147483647 : Int32)) % (3 : Int32))), .val (.int (pos &&& (2147483647 : Int32))), .val (.int (c1 &&& (255 : Int32))), .val (.int (c2 &&& (255 : Int32))), .val (.int (c3 &&& (255 : Int32))), .unset] [(.int (101 : Int32)), (.int (1 : Int32)), (.ref b17), (.ref b17)]))
          refine W18.stC V_b17 (j := (1 : Int32)) (x := (101 : Int32)) ⟨by decide, by decide⟩ 1 rfl (Nat.le_of_ble_eq_true rfl) (List.mem_of_getElem? (i := 0) rfl) g_b17 (hb hby d1_161) ?_
          intro T19 h19 L19 W19 w19 V_new
          replace K0 := K0.wr w19 (Or.inr sz_b17)
          replace V_b17 : Arv Z h19 b17 kA_b17 .char (14 : Int32) [(.int (114 : Int32)), (.int (101 : Int32)), (.int 0), (.int 0), (.int 0), (.int 0), (.int 0), (.int 0), (.int 0), (.int 0), (.int 0), (.int 0), (.int 0), (.int 0)] (.int 0) := V_new
          clear V_new
          show Go p_ e_ bl_ _ (T19.setTop (mkF m_ 162 #[.val (.int mode), .val (.int pick), .val (.int pos), .val (.int c1), .val (.int c2), .val (.int c3), .val (.int ((pick &&& (2147483647 : Int32)) % (3 : Int32))), .val (.int (pos &&& (2147483647 : Int32))), .val (.int (c1 &&& (255 : Int32))), .val (.int (c2 &&& (255 : Int32))), .val (.int (c3 &&& (255 : Int32))), .unset] [(.ref b17)]))
          refine Go.st (fun _ => XS.dup W19.here W19.ex rfl (hb hby d1_162) rfl rfl) ?_
          show Go p_ e_ bl_ _ (T19.setTop (mkF m_ 163 #[.val (.int mode), .val (.int pick), .val (.int pos), .val (.int c1), .val (.int c2), .val (.int c3), .val (.int ((pick &&& (2147483647 : Int32)) % (3 : Int32))), .val (.int (pos &&& (2147483647 : Int32))), .val (.int (c1 &&& (255 : Int32))), .val (.int (c2 &&& (255 : Int32))), .val (.int (c3 &&& (255 : Int32))), .unset] [(.ref b17), (.ref b17)]))
          refine Go.st (fun _ => XS.iconst W19.here W19.ex rfl (hb hby d1_163)) ?_
          show Go p_ e_ bl_ _ (T19.setTop (mkF m_ 164 #[.val (.int mode), .val (.int pick), .val (.int pos), .val (.int c1), .val (.int c2), .val (.int c3), .val (.int ((pick &&& (2147483647 : Int32)) % (3 : Int32))), .val (.int (pos &&& (2147483647 : Int32))), .val (.int (c1 &&& (255 : Int32))), .val (.int (c2 &&& (255 : Int32))), .val (.int (c3 &&& (255 : Int32))), .unset] [(.int (2 : Int32)), (.ref b17), (.ref b17)]))
          refine Go.st (fun _ => XS.bipush W19.here W19.ex rfl (hb hby d1_164)) ?_
          show Go p_ e_ bl_ _ (T19.setTop (mkF m_ 166 #[.val (.int mode), .val (.int pick), .val (.int pos), .val (.int c1), .val (.int c2), .val (.int c3), .val (.int ((pick &&& (2147483647 : Int32)) % (3 : Int32))), .val (.int (pos &&& (2147483647 : Int32))), .val (.int (c1 &&& (255 : Int32))), .val (.int (c2 &&& (255 : Int32))), .val (.int (c3 &&& (255 : Int32))), .unset] [(.int (112 : Int32)), (.int (2 : Int32)), (.ref b17), (.ref b17)]))
          refine W19.stC V_b17 (j := (2 : Int32)) (x := (112 : Int32)) ⟨by decide, by decide⟩ 2 rfl (Nat.le_of_ble_eq_true rfl) (List.mem_of_getElem? (i := 0) rfl) g_b17 (hb hby d1_166) ?_
          intro T20 h20 L20 W20 w20 V_new
          replace K0 := K0.wr w20 (Or.inr sz_b17)
          replace V_b17 : Arv Z h20 b17 kA_b17 .char (14 : Int32) [(.int (114 : Int32)), (.int (101 : Int32)), (.int (112 : Int32)), (.int 0), (.int 0), (.int 0), (.int 0), (.int 0), (.int 0), (.int 0), (.int 0), (.int 0), (.int 0), (.int 0)] (.int 0) := V_new
          clear V_new
          show Go p_ e_ bl_ _ (T20.setTop (mkF m_ 167 #[.val (.int mode), .val (.int pick), .val (.int pos), .val (.int c1), .val (.int c2), .val (.int c3), .val (.int ((pick &&& (2147483647 : Int32)) % (3 : Int32))), .val (.int (pos &&& (2147483647 : Int32))), .val (.int (c1 &&& (255 : Int32))), .val (.int (c2 &&& (255 : Int32))), .val (.int (c3 &&& (255 : Int32))), .unset] [(.ref b17)]))
          refine Go.st (fun _ => XS.dup W20.here W20.ex rfl (hb hby d1_167) rfl rfl) ?_
          show Go p_ e_ bl_ _ (T20.setTop (mkF m_ 168 #[.val (.int mode), .val (.int pick), .val (.int pos), .val (.int c1), .val (.int c2), .val (.int c3), .val (.int ((pick &&& (2147483647 : Int32)) % (3 : Int32))), .val (.int (pos &&& (2147483647 : Int32))), .val (.int (c1 &&& (255 : Int32))), .val (.int (c2 &&& (255 : Int32))), .val (.int (c3 &&& (255 : Int32))), .unset] [(.ref b17), (.ref b17)]))
          refine Go.st (fun _ => XS.iconst W20.here W20.ex rfl (hb hby d1_168)) ?_
          show Go p_ e_ bl_ _ (T20.setTop (mkF m_ 169 #[.val (.int mode), .val (.int pick), .val (.int pos), .val (.int c1), .val (.int c2), .val (.int c3), .val (.int ((pick &&& (2147483647 : Int32)) % (3 : Int32))), .val (.int (pos &&& (2147483647 : Int32))), .val (.int (c1 &&& (255 : Int32))), .val (.int (c2 &&& (255 : Int32))), .val (.int (c3 &&& (255 : Int32))), .unset] [(.int (3 : Int32)), (.ref b17), (.ref b17)]))
          refine Go.st (fun _ => XS.bipush W20.here W20.ex rfl (hb hby d1_169)) ?_
          show Go p_ e_ bl_ _ (T20.setTop (mkF m_ 171 #[.val (.int mode), .val (.int pick), .val (.int pos), .val (.int c1), .val (.int c2), .val (.int c3), .val (.int ((pick &&& (2147483647 : Int32)) % (3 : Int32))), .val (.int (pos &&& (2147483647 : Int32))), .val (.int (c1 &&& (255 : Int32))), .val (.int (c2 &&& (255 : Int32))), .val (.int (c3 &&& (255 : Int32))), .unset] [(.int (58 : Int32)), (.int (3 : Int32)), (.ref b17), (.ref b17)]))
          refine W20.stC V_b17 (j := (3 : Int32)) (x := (58 : Int32)) ⟨by decide, by decide⟩ 3 rfl (Nat.le_of_ble_eq_true rfl) (List.mem_of_getElem? (i := 0) rfl) g_b17 (hb hby d1_171) ?_
          intro T21 h21 L21 W21 w21 V_new
          replace K0 := K0.wr w21 (Or.inr sz_b17)
          replace V_b17 : Arv Z h21 b17 kA_b17 .char (14 : Int32) [(.int (114 : Int32)), (.int (101 : Int32)), (.int (112 : Int32)), (.int (58 : Int32)), (.int 0), (.int 0), (.int 0), (.int 0), (.int 0), (.int 0), (.int 0), (.int 0), (.int 0), (.int 0)] (.int 0) := V_new
          clear V_new
          show Go p_ e_ bl_ _ (T21.setTop (mkF m_ 172 #[.val (.int mode), .val (.int pick), .val (.int pos), .val (.int c1), .val (.int c2), .val (.int c3), .val (.int ((pick &&& (2147483647 : Int32)) % (3 : Int32))), .val (.int (pos &&& (2147483647 : Int32))), .val (.int (c1 &&& (255 : Int32))), .val (.int (c2 &&& (255 : Int32))), .val (.int (c3 &&& (255 : Int32))), .unset] [(.ref b17)]))
          refine Go.st (fun _ => XS.dup W21.here W21.ex rfl (hb hby d1_172) rfl rfl) ?_
          show Go p_ e_ bl_ _ (T21.setTop (mkF m_ 173 #[.val (.int mode), .val (.int pick), .val (.int pos), .val (.int c1), .val (.int c2), .val (.int c3), .val (.int ((pick &&& (2147483647 : Int32)) % (3 : Int32))), .val (.int (pos &&& (2147483647 : Int32))), .val (.int (c1 &&& (255 : Int32))), .val (.int (c2 &&& (255 : Int32))), .val (.int (c3 &&& (255 : Int32))), .unset] [(.ref b17), (.ref b17)]))
          refine Go.st (fun _ => XS.iconst W21.here W21.ex rfl (hb hby d1_173)) ?_
          show Go p_ e_ bl_ _ (T21.setTop (mkF m_ 174 #[.val (.int mode), .val (.int pick), .val (.int pos), .val (.int c1), .val (.int c2), .val (.int c3), .val (.int ((pick &&& (2147483647 : Int32)) % (3 : Int32))), .val (.int (pos &&& (2147483647 : Int32))), .val (.int (c1 &&& (255 : Int32))), .val (.int (c2 &&& (255 : Int32))), .val (.int (c3 &&& (255 : Int32))), .unset] [(.int (4 : Int32)), (.ref b17), (.ref b17)]))
          refine Go.st (fun _ => XS.bipush W21.here W21.ex rfl (hb hby d1_174)) ?_
          show Go p_ e_ bl_ _ (T21.setTop (mkF m_ 176 #[.val (.int mode), .val (.int pick), .val (.int pos), .val (.int c1), .val (.int c2), .val (.int c3), .val (.int ((pick &&& (2147483647 : Int32)) % (3 : Int32))), .val (.int (pos &&& (2147483647 : Int32))), .val (.int (c1 &&& (255 : Int32))), .val (.int (c2 &&& (255 : Int32))), .val (.int (c3 &&& (255 : Int32))), .unset] [(.int (83 : Int32)), (.int (4 : Int32)), (.ref b17), (.ref b17)]))
          refine W21.stC V_b17 (j := (4 : Int32)) (x := (83 : Int32)) ⟨by decide, by decide⟩ 4 rfl (Nat.le_of_ble_eq_true rfl) (List.mem_of_getElem? (i := 0) rfl) g_b17 (hb hby d1_176) ?_
          intro T22 h22 L22 W22 w22 V_new
          replace K0 := K0.wr w22 (Or.inr sz_b17)
          replace V_b17 : Arv Z h22 b17 kA_b17 .char (14 : Int32) [(.int (114 : Int32)), (.int (101 : Int32)), (.int (112 : Int32)), (.int (58 : Int32)), (.int (83 : Int32)), (.int 0), (.int 0), (.int 0), (.int 0), (.int 0), (.int 0), (.int 0), (.int 0), (.int 0)] (.int 0) := V_new
          clear V_new
          show Go p_ e_ bl_ _ (T22.setTop (mkF m_ 177 #[.val (.int mode), .val (.int pick), .val (.int pos), .val (.int c1), .val (.int c2), .val (.int c3), .val (.int ((pick &&& (2147483647 : Int32)) % (3 : Int32))), .val (.int (pos &&& (2147483647 : Int32))), .val (.int (c1 &&& (255 : Int32))), .val (.int (c2 &&& (255 : Int32))), .val (.int (c3 &&& (255 : Int32))), .unset] [(.ref b17)]))
          refine Go.st (fun _ => XS.dup W22.here W22.ex rfl (hb hby d1_177) rfl rfl) ?_
          show Go p_ e_ bl_ _ (T22.setTop (mkF m_ 178 #[.val (.int mode), .val (.int pick), .val (.int pos), .val (.int c1), .val (.int c2), .val (.int c3), .val (.int ((pick &&& (2147483647 : Int32)) % (3 : Int32))), .val (.int (pos &&& (2147483647 : Int32))), .val (.int (c1 &&& (255 : Int32))), .val (.int (c2 &&& (255 : Int32))), .val (.int (c3 &&& (255 : Int32))), .unset] [(.ref b17), (.ref b17)]))
          refine Go.st (fun _ => XS.iconst W22.here W22.ex rfl (hb hby d1_178)) ?_
          show Go p_ e_ bl_ _ (T22.setTop (mkF m_ 179 #[.val (.int mode), .val (.int pick), .val (.int pos), .val (.int c1), .val (.int c2), .val (.int c3), .val (.int ((pick &&& (2147483647 : Int32)) % (3 : Int32))), .val (.int (pos &&& (2147483647 : Int32))), .val (.int (c1 &&& (255 : Int32))), .val (.int (c2 &&& (255 : Int32))), .val (.int (c3 &&& (255 : Int32))), .unset] [(.int (5 : Int32)), (.ref b17), (.ref b17)]))
          refine Go.st (fun _ => XS.bipush W22.here W22.ex rfl (hb hby d1_179)) ?_
          show Go p_ e_ bl_ _ (T22.setTop (mkF m_ 181 #[.val (.int mode), .val (.int pick), .val (.int pos), .val (.int c1), .val (.int c2), .val (.int c3), .val (.int ((pick &&& (2147483647 : Int32)) % (3 : Int32))), .val (.int (pos &&& (2147483647 : Int32))), .val (.int (c1 &&& (255 : Int32))), .val (.int (c2 &&& (255 : Int32))), .val (.int (c3 &&& (255 : Int32))), .unset] [(.int (121 : Int32)), (.int (5 : Int32)), (.ref b17), (.ref b17)]))
          refine W22.stC V_b17 (j := (5 : Int32)) (x := (121 : Int32)) ⟨by decide, by decide⟩ 5 rfl (Nat.le_of_ble_eq_true rfl) (List.mem_of_getElem? (i := 0) rfl) g_b17 (hb hby d1_181) ?_
          intro T23 h23 L23 W23 w23 V_new
          replace K0 := K0.wr w23 (Or.inr sz_b17)
          replace V_b17 : Arv Z h23 b17 kA_b17 .char (14 : Int32) [(.int (114 : Int32)), (.int (101 : Int32)), (.int (112 : Int32)), (.int (58 : Int32)), (.int (83 : Int32)), (.int (121 : Int32)), (.int 0), (.int 0), (.int 0), (.int 0), (.int 0), (.int 0), (.int 0), (.int 0)] (.int 0) := V_new
          clear V_new
          show Go p_ e_ bl_ _ (T23.setTop (mkF m_ 182 #[.val (.int mode), .val (.int pick), .val (.int pos), .val (.int c1), .val (.int c2), .val (.int c3), .val (.int ((pick &&& (2147483647 : Int32)) % (3 : Int32))), .val (.int (pos &&& (2147483647 : Int32))), .val (.int (c1 &&& (255 : Int32))), .val (.int (c2 &&& (255 : Int32))), .val (.int (c3 &&& (255 : Int32))), .unset] [(.ref b17)]))
          refine Go.st (fun _ => XS.dup W23.here W23.ex rfl (hb hby d1_182) rfl rfl) ?_
          show Go p_ e_ bl_ _ (T23.setTop (mkF m_ 183 #[.val (.int mode), .val (.int pick), .val (.int pos), .val (.int c1), .val (.int c2), .val (.int c3), .val (.int ((pick &&& (2147483647 : Int32)) % (3 : Int32))), .val (.int (pos &&& (2147483647 : Int32))), .val (.int (c1 &&& (255 : Int32))), .val (.int (c2 &&& (255 : Int32))), .val (.int (c3 &&& (255 : Int32))), .unset] [(.ref b17), (.ref b17)]))
          refine Go.st (fun _ => XS.bipush W23.here W23.ex rfl (hb hby d1_183)) ?_
          show Go p_ e_ bl_ _ (T23.setTop (mkF m_ 185 #[.val (.int mode), .val (.int pick), .val (.int pos), .val (.int c1), .val (.int c2), .val (.int c3), .val (.int ((pick &&& (2147483647 : Int32)) % (3 : Int32))), .val (.int (pos &&& (2147483647 : Int32))), .val (.int (c1 &&& (255 : Int32))), .val (.int (c2 &&& (255 : Int32))), .val (.int (c3 &&& (255 : Int32))), .unset] [(.int (6 : Int32)), (.ref b17), (.ref b17)]))
          refine Go.st (fun _ => XS.bipush W23.here W23.ex rfl (hb hby d1_185)) ?_
          show Go p_ e_ bl_ _ (T23.setTop (mkF m_ 187 #[.val (.int mode), .val (.int pick), .val (.int pos), .val (.int c1), .val (.int c2), .val (.int c3), .val (.int ((pick &&& (2147483647 : Int32)) % (3 : Int32))), .val (.int (pos &&& (2147483647 : Int32))), .val (.int (c1 &&& (255 : Int32))), .val (.int (c2 &&& (255 : Int32))), .val (.int (c3 &&& (255 : Int32))), .unset] [(.int (115 : Int32)), (.int (6 : Int32)), (.ref b17), (.ref b17)]))
          refine W23.stC V_b17 (j := (6 : Int32)) (x := (115 : Int32)) ⟨by decide, by decide⟩ 6 rfl (Nat.le_of_ble_eq_true rfl) (List.mem_of_getElem? (i := 0) rfl) g_b17 (hb hby d1_187) ?_
          intro T24 h24 L24 W24 w24 V_new
          replace K0 := K0.wr w24 (Or.inr sz_b17)
          replace V_b17 : Arv Z h24 b17 kA_b17 .char (14 : Int32) [(.int (114 : Int32)), (.int (101 : Int32)), (.int (112 : Int32)), (.int (58 : Int32)), (.int (83 : Int32)), (.int (121 : Int32)), (.int (115 : Int32)), (.int 0), (.int 0), (.int 0), (.int 0), (.int 0), (.int 0), (.int 0)] (.int 0) := V_new
          clear V_new
          show Go p_ e_ bl_ _ (T24.setTop (mkF m_ 188 #[.val (.int mode), .val (.int pick), .val (.int pos), .val (.int c1), .val (.int c2), .val (.int c3), .val (.int ((pick &&& (2147483647 : Int32)) % (3 : Int32))), .val (.int (pos &&& (2147483647 : Int32))), .val (.int (c1 &&& (255 : Int32))), .val (.int (c2 &&& (255 : Int32))), .val (.int (c3 &&& (255 : Int32))), .unset] [(.ref b17)]))
          refine Go.st (fun _ => XS.dup W24.here W24.ex rfl (hb hby d1_188) rfl rfl) ?_
          show Go p_ e_ bl_ _ (T24.setTop (mkF m_ 189 #[.val (.int mode), .val (.int pick), .val (.int pos), .val (.int c1), .val (.int c2), .val (.int c3), .val (.int ((pick &&& (2147483647 : Int32)) % (3 : Int32))), .val (.int (pos &&& (2147483647 : Int32))), .val (.int (c1 &&& (255 : Int32))), .val (.int (c2 &&& (255 : Int32))), .val (.int (c3 &&& (255 : Int32))), .unset] [(.ref b17), (.ref b17)]))
          refine Go.st (fun _ => XS.bipush W24.here W24.ex rfl (hb hby d1_189)) ?_
          show Go p_ e_ bl_ _ (T24.setTop (mkF m_ 191 #[.val (.int mode), .val (.int pick), .val (.int pos), .val (.int c1), .val (.int c2), .val (.int c3), .val (.int ((pick &&& (2147483647 : Int32)) % (3 : Int32))), .val (.int (pos &&& (2147483647 : Int32))), .val (.int (c1 &&& (255 : Int32))), .val (.int (c2 &&& (255 : Int32))), .val (.int (c3 &&& (255 : Int32))), .unset] [(.int (7 : Int32)), (.ref b17), (.ref b17)]))
          refine Go.st (fun _ => XS.bipush W24.here W24.ex rfl (hb hby d1_191)) ?_
          show Go p_ e_ bl_ _ (T24.setTop (mkF m_ 193 #[.val (.int mode), .val (.int pick), .val (.int pos), .val (.int c1), .val (.int c2), .val (.int c3), .val (.int ((pick &&& (2147483647 : Int32)) % (3 : Int32))), .val (.int (pos &&& (2147483647 : Int32))), .val (.int (c1 &&& (255 : Int32))), .val (.int (c2 &&& (255 : Int32))), .val (.int (c3 &&& (255 : Int32))), .unset] [(.int (116 : Int32)), (.int (7 : Int32)), (.ref b17), (.ref b17)]))
          refine W24.stC V_b17 (j := (7 : Int32)) (x := (116 : Int32)) ⟨by decide, by decide⟩ 7 rfl (Nat.le_of_ble_eq_true rfl) (List.mem_of_getElem? (i := 0) rfl) g_b17 (hb hby d1_193) ?_
          intro T25 h25 L25 W25 w25 V_new
          replace K0 := K0.wr w25 (Or.inr sz_b17)
          replace V_b17 : Arv Z h25 b17 kA_b17 .char (14 : Int32) [(.int (114 : Int32)), (.int (101 : Int32)), (.int (112 : Int32)), (.int (58 : Int32)), (.int (83 : Int32)), (.int (121 : Int32)), (.int (115 : Int32)), (.int (116 : Int32)), (.int 0), (.int 0), (.int 0), (.int 0), (.int 0), (.int 0)] (.int 0) := V_new
          clear V_new
          show Go p_ e_ bl_ _ (T25.setTop (mkF m_ 194 #[.val (.int mode), .val (.int pick), .val (.int pos), .val (.int c1), .val (.int c2), .val (.int c3), .val (.int ((pick &&& (2147483647 : Int32)) % (3 : Int32))), .val (.int (pos &&& (2147483647 : Int32))), .val (.int (c1 &&& (255 : Int32))), .val (.int (c2 &&& (255 : Int32))), .val (.int (c3 &&& (255 : Int32))), .unset] [(.ref b17)]))
          refine Go.st (fun _ => XS.dup W25.here W25.ex rfl (hb hby d1_194) rfl rfl) ?_
          show Go p_ e_ bl_ _ (T25.setTop (mkF m_ 195 #[.val (.int mode), .val (.int pick), .val (.int pos), .val (.int c1), .val (.int c2), .val (.int c3), .val (.int ((pick &&& (2147483647 : Int32)) % (3 : Int32))), .val (.int (pos &&& (2147483647 : Int32))), .val (.int (c1 &&& (255 : Int32))), .val (.int (c2 &&& (255 : Int32))), .val (.int (c3 &&& (255 : Int32))), .unset] [(.ref b17), (.ref b17)]))
          refine Go.st (fun _ => XS.bipush W25.here W25.ex rfl (hb hby d1_195)) ?_
          show Go p_ e_ bl_ _ (T25.setTop (mkF m_ 197 #[.val (.int mode), .val (.int pick), .val (.int pos), .val (.int c1), .val (.int c2), .val (.int c3), .val (.int ((pick &&& (2147483647 : Int32)) % (3 : Int32))), .val (.int (pos &&& (2147483647 : Int32))), .val (.int (c1 &&& (255 : Int32))), .val (.int (c2 &&& (255 : Int32))), .val (.int (c3 &&& (255 : Int32))), .unset] [(.int (8 : Int32)), (.ref b17), (.ref b17)]))
          refine Go.st (fun _ => XS.bipush W25.here W25.ex rfl (hb hby d1_197)) ?_
          show Go p_ e_ bl_ _ (T25.setTop (mkF m_ 199 #[.val (.int mode), .val (.int pick), .val (.int pos), .val (.int c1), .val (.int c2), .val (.int c3), .val (.int ((pick &&& (2147483647 : Int32)) % (3 : Int32))), .val (.int (pos &&& (2147483647 : Int32))), .val (.int (c1 &&& (255 : Int32))), .val (.int (c2 &&& (255 : Int32))), .val (.int (c3 &&& (255 : Int32))), .unset] [(.int (101 : Int32)), (.int (8 : Int32)), (.ref b17), (.ref b17)]))
          refine W25.stC V_b17 (j := (8 : Int32)) (x := (101 : Int32)) ⟨by decide, by decide⟩ 8 rfl (Nat.le_of_ble_eq_true rfl) (List.mem_of_getElem? (i := 0) rfl) g_b17 (hb hby d1_199) ?_
          intro T26 h26 L26 W26 w26 V_new
          replace K0 := K0.wr w26 (Or.inr sz_b17)
          replace V_b17 : Arv Z h26 b17 kA_b17 .char (14 : Int32) [(.int (114 : Int32)), (.int (101 : Int32)), (.int (112 : Int32)), (.int (58 : Int32)), (.int (83 : Int32)), (.int (121 : Int32)), (.int (115 : Int32)), (.int (116 : Int32)), (.int (101 : Int32)), (.int 0), (.int 0), (.int 0), (.int 0), (.int 0)] (.int 0) := V_new
          clear V_new
          show Go p_ e_ bl_ _ (T26.setTop (mkF m_ 200 #[.val (.int mode), .val (.int pick), .val (.int pos), .val (.int c1), .val (.int c2), .val (.int c3), .val (.int ((pick &&& (2147483647 : Int32)) % (3 : Int32))), .val (.int (pos &&& (2147483647 : Int32))), .val (.int (c1 &&& (255 : Int32))), .val (.int (c2 &&& (255 : Int32))), .val (.int (c3 &&& (255 : Int32))), .unset] [(.ref b17)]))
          refine Go.st (fun _ => XS.dup W26.here W26.ex rfl (hb hby d1_200) rfl rfl) ?_
          show Go p_ e_ bl_ _ (T26.setTop (mkF m_ 201 #[.val (.int mode), .val (.int pick), .val (.int pos), .val (.int c1), .val (.int c2), .val (.int c3), .val (.int ((pick &&& (2147483647 : Int32)) % (3 : Int32))), .val (.int (pos &&& (2147483647 : Int32))), .val (.int (c1 &&& (255 : Int32))), .val (.int (c2 &&& (255 : Int32))), .val (.int (c3 &&& (255 : Int32))), .unset] [(.ref b17), (.ref b17)]))
          refine Go.st (fun _ => XS.bipush W26.here W26.ex rfl (hb hby d1_201)) ?_
          show Go p_ e_ bl_ _ (T26.setTop (mkF m_ 203 #[.val (.int mode), .val (.int pick), .val (.int pos), .val (.int c1), .val (.int c2), .val (.int c3), .val (.int ((pick &&& (2147483647 : Int32)) % (3 : Int32))), .val (.int (pos &&& (2147483647 : Int32))), .val (.int (c1 &&& (255 : Int32))), .val (.int (c2 &&& (255 : Int32))), .val (.int (c3 &&& (255 : Int32))), .unset] [(.int (9 : Int32)), (.ref b17), (.ref b17)]))
          refine Go.st (fun _ => XS.bipush W26.here W26.ex rfl (hb hby d1_203)) ?_
          show Go p_ e_ bl_ _ (T26.setTop (mkF m_ 205 #[.val (.int mode), .val (.int pick), .val (.int pos), .val (.int c1), .val (.int c2), .val (.int c3), .val (.int ((pick &&& (2147483647 : Int32)) % (3 : Int32))), .val (.int (pos &&& (2147483647 : Int32))), .val (.int (c1 &&& (255 : Int32))), .val (.int (c2 &&& (255 : Int32))), .val (.int (c3 &&& (255 : Int32))), .unset] [(.int (109 : Int32)), (.int (9 : Int32)), (.ref b17), (.ref b17)]))
          refine W26.stC V_b17 (j := (9 : Int32)) (x := (109 : Int32)) ⟨by decide, by decide⟩ 9 rfl (Nat.le_of_ble_eq_true rfl) (List.mem_of_getElem? (i := 0) rfl) g_b17 (hb hby d1_205) ?_
          intro T27 h27 L27 W27 w27 V_new
          replace K0 := K0.wr w27 (Or.inr sz_b17)
          replace V_b17 : Arv Z h27 b17 kA_b17 .char (14 : Int32) [(.int (114 : Int32)), (.int (101 : Int32)), (.int (112 : Int32)), (.int (58 : Int32)), (.int (83 : Int32)), (.int (121 : Int32)), (.int (115 : Int32)), (.int (116 : Int32)), (.int (101 : Int32)), (.int (109 : Int32)), (.int 0), (.int 0), (.int 0), (.int 0)] (.int 0) := V_new
          clear V_new
          show Go p_ e_ bl_ _ (T27.setTop (mkF m_ 206 #[.val (.int mode), .val (.int pick), .val (.int pos), .val (.int c1), .val (.int c2), .val (.int c3), .val (.int ((pick &&& (2147483647 : Int32)) % (3 : Int32))), .val (.int (pos &&& (2147483647 : Int32))), .val (.int (c1 &&& (255 : Int32))), .val (.int (c2 &&& (255 : Int32))), .val (.int (c3 &&& (255 : Int32))), .unset] [(.ref b17)]))
          refine Go.st (fun _ => XS.dup W27.here W27.ex rfl (hb hby d1_206) rfl rfl) ?_
          show Go p_ e_ bl_ _ (T27.setTop (mkF m_ 207 #[.val (.int mode), .val (.int pick), .val (.int pos), .val (.int c1), .val (.int c2), .val (.int c3), .val (.int ((pick &&& (2147483647 : Int32)) % (3 : Int32))), .val (.int (pos &&& (2147483647 : Int32))), .val (.int (c1 &&& (255 : Int32))), .val (.int (c2 &&& (255 : Int32))), .val (.int (c3 &&& (255 : Int32))), .unset] [(.ref b17), (.ref b17)]))
          refine Go.st (fun _ => XS.bipush W27.here W27.ex rfl (hb hby d1_207)) ?_
          show Go p_ e_ bl_ _ (T27.setTop (mkF m_ 209 #[.val (.int mode), .val (.int pick), .val (.int pos), .val (.int c1), .val (.int c2), .val (.int c3), .val (.int ((pick &&& (2147483647 : Int32)) % (3 : Int32))), .val (.int (pos &&& (2147483647 : Int32))), .val (.int (c1 &&& (255 : Int32))), .val (.int (c2 &&& (255 : Int32))), .val (.int (c3 &&& (255 : Int32))), .unset] [(.int (10 : Int32)), (.ref b17), (.ref b17)]))
          refine Go.st (fun _ => XS.bipush W27.here W27.ex rfl (hb hby d1_209)) ?_
          show Go p_ e_ bl_ _ (T27.setTop (mkF m_ 211 #[.val (.int mode), .val (.int pick), .val (.int pos), .val (.int c1), .val (.int c2), .val (.int c3), .val (.int ((pick &&& (2147483647 : Int32)) % (3 : Int32))), .val (.int (pos &&& (2147483647 : Int32))), .val (.int (c1 &&& (255 : Int32))), .val (.int (c2 &&& (255 : Int32))), .val (.int (c3 &&& (255 : Int32))), .unset] [(.int (85 : Int32)), (.int (10 : Int32)), (.ref b17), (.ref b17)]))
          refine W27.stC V_b17 (j := (10 : Int32)) (x := (85 : Int32)) ⟨by decide, by decide⟩ 10 rfl (Nat.le_of_ble_eq_true rfl) (List.mem_of_getElem? (i := 0) rfl) g_b17 (hb hby d1_211) ?_
          intro T28 h28 L28 W28 w28 V_new
          replace K0 := K0.wr w28 (Or.inr sz_b17)
          replace V_b17 : Arv Z h28 b17 kA_b17 .char (14 : Int32) [(.int (114 : Int32)), (.int (101 : Int32)), (.int (112 : Int32)), (.int (58 : Int32)), (.int (83 : Int32)), (.int (121 : Int32)), (.int (115 : Int32)), (.int (116 : Int32)), (.int (101 : Int32)), (.int (109 : Int32)), (.int (85 : Int32)), (.int 0), (.int 0), (.int 0)] (.int 0) := V_new
          clear V_new
          show Go p_ e_ bl_ _ (T28.setTop (mkF m_ 212 #[.val (.int mode), .val (.int pick), .val (.int pos), .val (.int c1), .val (.int c2), .val (.int c3), .val (.int ((pick &&& (2147483647 : Int32)) % (3 : Int32))), .val (.int (pos &&& (2147483647 : Int32))), .val (.int (c1 &&& (255 : Int32))), .val (.int (c2 &&& (255 : Int32))), .val (.int (c3 &&& (255 : Int32))), .unset] [(.ref b17)]))
          refine Go.st (fun _ => XS.dup W28.here W28.ex rfl (hb hby d1_212) rfl rfl) ?_
          show Go p_ e_ bl_ _ (T28.setTop (mkF m_ 213 #[.val (.int mode), .val (.int pick), .val (.int pos), .val (.int c1), .val (.int c2), .val (.int c3), .val (.int ((pick &&& (2147483647 : Int32)) % (3 : Int32))), .val (.int (pos &&& (2147483647 : Int32))), .val (.int (c1 &&& (255 : Int32))), .val (.int (c2 &&& (255 : Int32))), .val (.int (c3 &&& (255 : Int32))), .unset] [(.ref b17), (.ref b17)]))
          refine Go.st (fun _ => XS.bipush W28.here W28.ex rfl (hb hby d1_213)) ?_
          show Go p_ e_ bl_ _ (T28.setTop (mkF m_ 215 #[.val (.int mode), .val (.int pick), .val (.int pos), .val (.int c1), .val (.int c2), .val (.int c3), .val (.int ((pick &&& (2147483647 : Int32)) % (3 : Int32))), .val (.int (pos &&& (2147483647 : Int32))), .val (.int (c1 &&& (255 : Int32))), .val (.int (c2 &&& (255 : Int32))), .val (.int (c3 &&& (255 : Int32))), .unset] [(.int (11 : Int32)), (.ref b17), (.ref b17)]))
          refine Go.st (fun _ => XS.bipush W28.here W28.ex rfl (hb hby d1_215)) ?_
          show Go p_ e_ bl_ _ (T28.setTop (mkF m_ 217 #[.val (.int mode), .val (.int pick), .val (.int pos), .val (.int c1), .val (.int c2), .val (.int c3), .val (.int ((pick &&& (2147483647 : Int32)) % (3 : Int32))), .val (.int (pos &&& (2147483647 : Int32))), .val (.int (c1 &&& (255 : Int32))), .val (.int (c2 &&& (255 : Int32))), .val (.int (c3 &&& (255 : Int32))), .unset] [(.int (115 : Int32)), (.int (11 : Int32)), (.ref b17), (.ref b17)]))
          refine W28.stC V_b17 (j := (11 : Int32)) (x := (115 : Int32)) ⟨by decide, by decide⟩ 11 rfl (Nat.le_of_ble_eq_true rfl) (List.mem_of_getElem? (i := 0) rfl) g_b17 (hb hby d1_217) ?_
          intro T29 h29 L29 W29 w29 V_new
          replace K0 := K0.wr w29 (Or.inr sz_b17)
          replace V_b17 : Arv Z h29 b17 kA_b17 .char (14 : Int32) [(.int (114 : Int32)), (.int (101 : Int32)), (.int (112 : Int32)), (.int (58 : Int32)), (.int (83 : Int32)), (.int (121 : Int32)), (.int (115 : Int32)), (.int (116 : Int32)), (.int (101 : Int32)), (.int (109 : Int32)), (.int (85 : Int32)), (.int (115 : Int32)), (.int 0), (.int 0)] (.int 0) := V_new
          clear V_new
          show Go p_ e_ bl_ _ (T29.setTop (mkF m_ 218 #[.val (.int mode), .val (.int pick), .val (.int pos), .val (.int c1), .val (.int c2), .val (.int c3), .val (.int ((pick &&& (2147483647 : Int32)) % (3 : Int32))), .val (.int (pos &&& (2147483647 : Int32))), .val (.int (c1 &&& (255 : Int32))), .val (.int (c2 &&& (255 : Int32))), .val (.int (c3 &&& (255 : Int32))), .unset] [(.ref b17)]))
          refine Go.st (fun _ => XS.dup W29.here W29.ex rfl (hb hby d1_218) rfl rfl) ?_
          show Go p_ e_ bl_ _ (T29.setTop (mkF m_ 219 #[.val (.int mode), .val (.int pick), .val (.int pos), .val (.int c1), .val (.int c2), .val (.int c3), .val (.int ((pick &&& (2147483647 : Int32)) % (3 : Int32))), .val (.int (pos &&& (2147483647 : Int32))), .val (.int (c1 &&& (255 : Int32))), .val (.int (c2 &&& (255 : Int32))), .val (.int (c3 &&& (255 : Int32))), .unset] [(.ref b17), (.ref b17)]))
          refine Go.st (fun _ => XS.bipush W29.here W29.ex rfl (hb hby d1_219)) ?_
          show Go p_ e_ bl_ _ (T29.setTop (mkF m_ 221 #[.val (.int mode), .val (.int pick), .val (.int pos), .val (.int c1), .val (.int c2), .val (.int c3), .val (.int ((pick &&& (2147483647 : Int32)) % (3 : Int32))), .val (.int (pos &&& (2147483647 : Int32))), .val (.int (c1 &&& (255 : Int32))), .val (.int (c2 &&& (255 : Int32))), .val (.int (c3 &&& (255 : Int32))), .unset] [(.int (12 : Int32)), (.ref b17), (.ref b17)]))
          refine Go.st (fun _ => XS.bipush W29.here W29.ex rfl (hb hby d1_221)) ?_
          show Go p_ e_ bl_ _ (T29.setTop (mkF m_ 223 #[.val (.int mode), .val (.int pick), .val (.int pos), .val (.int c1), .val (.int c2), .val (.int c3), .val (.int ((pick &&& (2147483647 : Int32)) % (3 : Int32))), .val (.int (pos &&& (2147483647 : Int32))), .val (.int (c1 &&& (255 : Int32))), .val (.int (c2 &&& (255 : Int32))), .val (.int (c3 &&& (255 : Int32))), .unset] [(.int (101 : Int32)), (.int (12 : Int32)), (.ref b17), (.ref b17)]))
          refine W29.stC V_b17 (j := (12 : Int32)) (x := (101 : Int32)) ⟨by decide, by decide⟩ 12 rfl (Nat.le_of_ble_eq_true rfl) (List.mem_of_getElem? (i := 0) rfl) g_b17 (hb hby d1_223) ?_
          intro T30 h30 L30 W30 w30 V_new
          replace K0 := K0.wr w30 (Or.inr sz_b17)
          replace V_b17 : Arv Z h30 b17 kA_b17 .char (14 : Int32) [(.int (114 : Int32)), (.int (101 : Int32)), (.int (112 : Int32)), (.int (58 : Int32)), (.int (83 : Int32)), (.int (121 : Int32)), (.int (115 : Int32)), (.int (116 : Int32)), (.int (101 : Int32)), (.int (109 : Int32)), (.int (85 : Int32)), (.int (115 : Int32)), (.int (101 : Int32)), (.int 0)] (.int 0) := V_new
          clear V_new
          show Go p_ e_ bl_ _ (T30.setTop (mkF m_ 224 #[.val (.int mode), .val (.int pick), .val (.int pos), .val (.int c1), .val (.int c2), .val (.int c3), .val (.int ((pick &&& (2147483647 : Int32)) % (3 : Int32))), .val (.int (pos &&& (2147483647 : Int32))), .val (.int (c1 &&& (255 : Int32))), .val (.int (c2 &&& (255 : Int32))), .val (.int (c3 &&& (255 : Int32))), .unset] [(.ref b17)]))
          refine Go.st (fun _ => XS.dup W30.here W30.ex rfl (hb hby d1_224) rfl rfl) ?_
          show Go p_ e_ bl_ _ (T30.setTop (mkF m_ 225 #[.val (.int mode), .val (.int pick), .val (.int pos), .val (.int c1), .val (.int c2), .val (.int c3), .val (.int ((pick &&& (2147483647 : Int32)) % (3 : Int32))), .val (.int (pos &&& (2147483647 : Int32))), .val (.int (c1 &&& (255 : Int32))), .val (.int (c2 &&& (255 : Int32))), .val (.int (c3 &&& (255 : Int32))), .unset] [(.ref b17), (.ref b17)]))
          refine Go.st (fun _ => XS.bipush W30.here W30.ex rfl (hb hby d1_225)) ?_
          show Go p_ e_ bl_ _ (T30.setTop (mkF m_ 227 #[.val (.int mode), .val (.int pick), .val (.int pos), .val (.int c1), .val (.int c2), .val (.int c3), .val (.int ((pick &&& (2147483647 : Int32)) % (3 : Int32))), .val (.int (pos &&& (2147483647 : Int32))), .val (.int (c1 &&& (255 : Int32))), .val (.int (c2 &&& (255 : Int32))), .val (.int (c3 &&& (255 : Int32))), .unset] [(.int (13 : Int32)), (.ref b17), (.ref b17)]))
          refine Go.st (fun _ => XS.bipush W30.here W30.ex rfl (hb hby d1_227)) ?_
          show Go p_ e_ bl_ _ (T30.setTop (mkF m_ 229 #[.val (.int mode), .val (.int pick), .val (.int pos), .val (.int c1), .val (.int c2), .val (.int c3), .val (.int ((pick &&& (2147483647 : Int32)) % (3 : Int32))), .val (.int (pos &&& (2147483647 : Int32))), .val (.int (c1 &&& (255 : Int32))), .val (.int (c2 &&& (255 : Int32))), .val (.int (c3 &&& (255 : Int32))), .unset] [(.int (114 : Int32)), (.int (13 : Int32)), (.ref b17), (.ref b17)]))
          refine W30.stC V_b17 (j := (13 : Int32)) (x := (114 : Int32)) ⟨by decide, by decide⟩ 13 rfl (Nat.le_of_ble_eq_true rfl) (List.mem_of_getElem? (i := 0) rfl) g_b17 (hb hby d1_229) ?_
          intro T31 h31 L31 W31 w31 V_new
          replace K0 := K0.wr w31 (Or.inr sz_b17)
          replace V_b17 : Arv Z h31 b17 kA_b17 .char (14 : Int32) [(.int (114 : Int32)), (.int (101 : Int32)), (.int (112 : Int32)), (.int (58 : Int32)), (.int (83 : Int32)), (.int (121 : Int32)), (.int (115 : Int32)), (.int (116 : Int32)), (.int (101 : Int32)), (.int (109 : Int32)), (.int (85 : Int32)), (.int (115 : Int32)), (.int (101 : Int32)), (.int (114 : Int32))] (.int 0) := V_new
          clear V_new
          show Go p_ e_ bl_ _ (T31.setTop (mkF m_ 230 #[.val (.int mode), .val (.int pick), .val (.int pos), .val (.int c1), .val (.int c2), .val (.int c3), .val (.int ((pick &&& (2147483647 : Int32)) % (3 : Int32))), .val (.int (pos &&& (2147483647 : Int32))), .val (.int (c1 &&& (255 : Int32))), .val (.int (c2 &&& (255 : Int32))), .val (.int (c3 &&& (255 : Int32))), .unset] [(.ref b17)]))
          refine Go.st (fun _ => XS.astore W31.here W31.ex rfl (hb hby d1_230) rfl rfl (l' := #[.val (.int mode), .val (.int pick), .val (.int pos), .val (.int c1), .val (.int c2), .val (.int c3), .val (.int ((pick &&& (2147483647 : Int32)) % (3 : Int32))), .val (.int (pos &&& (2147483647 : Int32))), .val (.int (c1 &&& (255 : Int32))), .val (.int (c2 &&& (255 : Int32))), .val (.int (c3 &&& (255 : Int32))), .val (.ref b17)]) rfl) ?_
          show Go p_ e_ bl_ _ (T31.setTop (mkF m_ 232 #[.val (.int mode), .val (.int pick), .val (.int pos), .val (.int c1), .val (.int c2), .val (.int c3), .val (.int ((pick &&& (2147483647 : Int32)) % (3 : Int32))), .val (.int (pos &&& (2147483647 : Int32))), .val (.int (c1 &&& (255 : Int32))), .val (.int (c2 &&& (255 : Int32))), .val (.int (c3 &&& (255 : Int32))), .val (.ref b17)] []))
          refine Go.st (fun _ => XS.aload W31.here W31.ex rfl (hb hby d1_232) rfl rfl) ?_
          show Go p_ e_ bl_ _ (T31.setTop (mkF m_ 234 #[.val (.int mode), .val (.int pick), .val (.int pos), .val (.int c1), .val (.int c2), .val (.int c3), .val (.int ((pick &&& (2147483647 : Int32)) % (3 : Int32))), .val (.int (pos &&& (2147483647 : Int32))), .val (.int (c1 &&& (255 : Int32))), .val (.int (c2 &&& (255 : Int32))), .val (.int (c3 &&& (255 : Int32))), .val (.ref b17)] [(.ref b17)]))
          refine Go.st (fun _ => XS.iload W31.here W31.ex rfl (hb hby d1_234) rfl) ?_
          show Go p_ e_ bl_ _ (T31.setTop (mkF m_ 236 #[.val (.int mode), .val (.int pick), .val (.int pos), .val (.int c1), .val (.int c2), .val (.int c3), .val (.int ((pick &&& (2147483647 : Int32)) % (3 : Int32))), .val (.int (pos &&& (2147483647 : Int32))), .val (.int (c1 &&& (255 : Int32))), .val (.int (c2 &&& (255 : Int32))), .val (.int (c3 &&& (255 : Int32))), .val (.ref b17)] [(.int (pos &&& (2147483647 : Int32))), (.ref b17)]))
          refine Go.st (fun _ => XS.bipush W31.here W31.ex rfl (hb hby d1_236)) ?_
          show Go p_ e_ bl_ _ (T31.setTop (mkF m_ 238 #[.val (.int mode), .val (.int pick), .val (.int pos), .val (.int c1), .val (.int c2), .val (.int c3), .val (.int ((pick &&& (2147483647 : Int32)) % (3 : Int32))), .val (.int (pos &&& (2147483647 : Int32))), .val (.int (c1 &&& (255 : Int32))), .val (.int (c2 &&& (255 : Int32))), .val (.int (c3 &&& (255 : Int32))), .val (.ref b17)] [(.int (14 : Int32)), (.int (pos &&& (2147483647 : Int32))), (.ref b17)]))
          refine Go.st (fun _ => iremM W31.X W31.ex rfl (hb hby d1_238) rfl (by decide)) ?_
          show Go p_ e_ bl_ _ (T31.setTop (mkF m_ 239 #[.val (.int mode), .val (.int pick), .val (.int pos), .val (.int c1), .val (.int c2), .val (.int c3), .val (.int ((pick &&& (2147483647 : Int32)) % (3 : Int32))), .val (.int (pos &&& (2147483647 : Int32))), .val (.int (c1 &&& (255 : Int32))), .val (.int (c2 &&& (255 : Int32))), .val (.int (c3 &&& (255 : Int32))), .val (.ref b17)] [(.int ((pos &&& (2147483647 : Int32)) % (14 : Int32))), (.ref b17)]))
          refine Go.st (fun _ => XS.iload W31.here W31.ex rfl (hb hby d1_239) rfl) ?_
          show Go p_ e_ bl_ _ (T31.setTop (mkF m_ 241 #[.val (.int mode), .val (.int pick), .val (.int pos), .val (.int c1), .val (.int c2), .val (.int c3), .val (.int ((pick &&& (2147483647 : Int32)) % (3 : Int32))), .val (.int (pos &&& (2147483647 : Int32))), .val (.int (c1 &&& (255 : Int32))), .val (.int (c2 &&& (255 : Int32))), .val (.int (c3 &&& (255 : Int32))), .val (.ref b17)] [(.int (c1 &&& (255 : Int32))), (.int ((pos &&& (2147483647 : Int32)) % (14 : Int32))), (.ref b17)]))
          have hj := idxn pos 14 14 rfl (by decide)
          obtain ⟨ji, hji⟩ : ∃ ji, ji = (((pos &&& (2147483647 : Int32)) % (14 : Int32))).toNatClampNeg := ⟨_, rfl⟩
          have hlj : ji < 14 := by rw [hji]; exact natn rfl hj
          refine W31.stC V_b17 (j := ((pos &&& (2147483647 : Int32)) % (14 : Int32))) (x := (c1 &&& (255 : Int32))) hj ji hji.symm hlj (List.mem_of_getElem? (i := 0) rfl) g_b17 (hb hby d1_241) ?_
          intro T32 h32 L32 W32 w32 V_new
          replace K0 := K0.wr w32 (Or.inr sz_b17)
          rw [nar_char (and255 c1)] at V_new
          replace V_b17 : Arv Z h32 b17 kA_b17 .char (14 : Int32) ((([(114 : Int32), (101 : Int32), (112 : Int32), (58 : Int32), (83 : Int32), (121 : Int32), (115 : Int32), (116 : Int32), (101 : Int32), (109 : Int32), (85 : Int32), (115 : Int32), (101 : Int32), (114 : Int32)] : List Int32).set ji (c1 &&& (255 : Int32))).map Value.int) (.int 0) := by rw [List.map_set]; exact V_new
          clear V_new
          show Go p_ e_ bl_ _ (T32.setTop (mkF m_ 242 #[.val (.int mode), .val (.int pick), .val (.int pos), .val (.int c1), .val (.int c2), .val (.int c3), .val (.int ((pick &&& (2147483647 : Int32)) % (3 : Int32))), .val (.int (pos &&& (2147483647 : Int32))), .val (.int (c1 &&& (255 : Int32))), .val (.int (c2 &&& (255 : Int32))), .val (.int (c3 &&& (255 : Int32))), .val (.ref b17)] []))
          refine W32.newO (cx.w 93 rfl) (cx.w 7 rfl) (cx.w 6 rfl) (hb hby d1_242) (k' := 2) (n' := 18) rfl rfl (by decide) (by decide) ?_
          intro T33 h33 b33 hb33 g_b33 W33 E33 E_b33 D33
          have ne_b17_b33 : b17 ≠ b33 := Nat.ne_of_lt (Nat.lt_of_lt_of_le V_b17.lt (Nat.le_of_eq hb33.symm))
          have sz_b33 : h.size ≤ b33 := Nat.le_trans K0.1 (Nat.le_of_eq hb33.symm)
          replace V_b17 := V_b17.ext E33
          replace K0 := K0.ext E33
          have F_value_b33 : Fld Z h33 b33 "java/lang/String" "value" "[B" .null := D33 (Or.inr (cx.w 9 rfl)) (ty := (.array .byte)) (by decide)
          have F_coder_b33 : Fld Z h33 b33 "java/lang/String" "coder" "B" (.int (0 : Int32)) := D33 (Or.inr (cx.w 10 rfl)) (ty := .byte) (by decide)
          show Go p_ e_ bl_ _ (T33.setTop (mkF m_ 245 #[.val (.int mode), .val (.int pick), .val (.int pos), .val (.int c1), .val (.int c2), .val (.int c3), .val (.int ((pick &&& (2147483647 : Int32)) % (3 : Int32))), .val (.int (pos &&& (2147483647 : Int32))), .val (.int (c1 &&& (255 : Int32))), .val (.int (c2 &&& (255 : Int32))), .val (.int (c3 &&& (255 : Int32))), .val (.ref b17)] [(.ref b33)]))
          refine Go.st (fun _ => XS.dup W33.here W33.ex rfl (hb hby d1_245) rfl rfl) ?_
          show Go p_ e_ bl_ _ (T33.setTop (mkF m_ 246 #[.val (.int mode), .val (.int pick), .val (.int pos), .val (.int c1), .val (.int c2), .val (.int c3), .val (.int ((pick &&& (2147483647 : Int32)) % (3 : Int32))), .val (.int (pos &&& (2147483647 : Int32))), .val (.int (c1 &&& (255 : Int32))), .val (.int (c2 &&& (255 : Int32))), .val (.int (c3 &&& (255 : Int32))), .val (.ref b17)] [(.ref b33), (.ref b33)]))
          refine Go.st (fun _ => XS.aload W33.here W33.ex rfl (hb hby d1_246) rfl rfl) ?_
          show Go p_ e_ bl_ _ (T33.setTop (mkF m_ 248 #[.val (.int mode), .val (.int pick), .val (.int pos), .val (.int c1), .val (.int c2), .val (.int c3), .val (.int ((pick &&& (2147483647 : Int32)) % (3 : Int32))), .val (.int (pos &&& (2147483647 : Int32))), .val (.int (c1 &&& (255 : Int32))), .val (.int (c2 &&& (255 : Int32))), .val (.int (c3 &&& (255 : Int32))), .val (.ref b17)] [(.ref b17), (.ref b33), (.ref b33)]))
          refine W33.libI (y := (⟨"java/lang/String", "<init>", "([C)V"⟩ : MethodName)) rfl (cx.w 94 rfl) (cx.w 95 rfl) (cx.w 96 rfl) (by decide) (Q := StrChars.Road.QV Z b33 (14 : Int32) (((([(114 : Int32), (101 : Int32), (112 : Int32), (58 : Int32), (83 : Int32), (121 : Int32), (115 : Int32), (116 : Int32), (101 : Int32), (109 : Int32), (85 : Int32), (115 : Int32), (101 : Int32), (114 : Int32)] : List Int32).set ji (c1 &&& (255 : Int32)))).map (fun c => c.toInt8.toInt32)) h33 n0) (ws := [b33]) (Wd := 1) (ck := 1) (cn := 14) (StrChars.Road.backV (W := 1) W33.hZ cx.vw (kI := 4) (cx.w 7 rfl) (cs := (([(114 : Int32), (101 : Int32), (112 : Int32), (58 : Int32), (83 : Int32), (121 : Int32), (115 : Int32), (116 : Int32), (101 : Int32), (109 : Int32), (85 : Int32), (115 : Int32), (101 : Int32), (114 : Int32)] : List Int32).set ji (c1 &&& (255 : Int32)))) (bs := ((([(114 : Int32), (101 : Int32), (112 : Int32), (58 : Int32), (83 : Int32), (121 : Int32), (115 : Int32), (116 : Int32), (101 : Int32), (109 : Int32), (85 : Int32), (115 : Int32), (101 : Int32), (114 : Int32)] : List Int32).set ji (c1 &&& (255 : Int32)))).map (fun c => c.toInt8.toInt32)) (n := 14) g_b33 W33.n0le E_b33 F_value_b33 F_coder_b33 V_b17 (cx.cmp.ext W33.e0) cx.g1 (show (([(114 : Int32), (101 : Int32), (112 : Int32), (58 : Int32), (83 : Int32), (121 : Int32), (115 : Int32), (116 : Int32), (101 : Int32), (109 : Int32), (85 : Int32), (115 : Int32), (101 : Int32), (114 : Int32)] : List Int32).set ji (c1 &&& (255 : Int32))).length = 14 by rw [List.length_set]; rfl) rfl (by decide) (by decide) (Ch8.set (Ch8.cons (by decide) (Ch8.cons (by decide) (Ch8.cons (by decide) (Ch8.cons (by decide) (Ch8.cons (by decide) (Ch8.cons (by decide) (Ch8.cons (by decide) (Ch8.cons (by decide) (Ch8.cons (by decide) (Ch8.cons (by decide) (Ch8.cons (by decide) (Ch8.cons (by decide) (Ch8.cons (by decide) (Ch8.cons (by decide) Ch8.nil)))))))))))))) (and255 c1) ji) rfl (by decide) (by decide)) (fun v h' L' q => ⟨q.2.1, q.2.2.1⟩) (allS (List.mem_of_getElem? (i := 0) rfl) all0) (allS g_b33 all0) (k' := 3) (n' := 32) rfl rfl (by decide) (by decide) (by rw [hml]; rfl) (a := b33) (argsL := [(.ref b17)]) (rest := [(.ref b33)]) rfl (lenOf pd6 rfl) rfl (Nat.le_of_eq rfl) (hb hby d1_248) ?_
          intro v35 T35 h35 M35 L35 W35 q35
          obtain ⟨rfl, -, Kv34, E_n, F_cn, ts, k_ts, g_ts, hz_ts, -, F_vn, V_n⟩ := q35
          have ne_b17_ts : b17 ≠ ts := Nat.ne_of_lt (Nat.lt_of_lt_of_le V_b17.lt hz_ts)
          have ne_b33_ts : b33 ≠ ts := Nat.ne_of_lt (Nat.lt_of_lt_of_le E_b33.lt hz_ts)
          have sz_ts : h.size ≤ ts := Nat.le_trans K0.1 hz_ts
          replace V_b17 := V_b17.keep Kv34 (ninS ne_b17_b33 nin0)
          replace E_b33 := E_b33.keep Kv34
          replace K0 := K0.trans Kv34 (allS (Or.inr sz_b33) all0)
          show Go p_ e_ bl_ _ (T35.setTop (mkF m_ 251 #[.val (.int mode), .val (.int pick), .val (.int pos), .val (.int c1), .val (.int c2), .val (.int c3), .val (.int ((pick &&& (2147483647 : Int32)) % (3 : Int32))), .val (.int (pos &&& (2147483647 : Int32))), .val (.int (c1 &&& (255 : Int32))), .val (.int (c2 &&& (255 : Int32))), .val (.int (c3 &&& (255 : Int32))), .val (.ref b17)] [(.ref b33)]))
          have S_b33 : StrAt Z h35 b33 ts (([(114 : Int32), (101 : Int32), (112 : Int32), (58 : Int32), (83 : Int32), (121 : Int32), (115 : Int32), (116 : Int32), (101 : Int32), (109 : Int32), (85 : Int32), (115 : Int32), (101 : Int32), (114 : Int32)] : List Int32).set ji (c1 &&& (255 : Int32))) := ⟨E_n, F_cn, F_vn, ⟨_, by rw [(show (([(114 : Int32), (101 : Int32), (112 : Int32), (58 : Int32), (83 : Int32), (121 : Int32), (115 : Int32), (116 : Int32), (101 : Int32), (109 : Int32), (85 : Int32), (115 : Int32), (101 : Int32), (114 : Int32)] : List Int32).set ji (c1 &&& (255 : Int32))).length = 14 by rw [List.length_set]; rfl)]; exact V_n⟩, (Ch8.set (Ch8.cons (by decide) (Ch8.cons (by decide) (Ch8.cons (by decide) (Ch8.cons (by decide) (Ch8.cons (by decide) (Ch8.cons (by decide) (Ch8.cons (by decide) (Ch8.cons (by decide) (Ch8.cons (by decide) (Ch8.cons (by decide) (Ch8.cons (by decide) (Ch8.cons (by decide) (Ch8.cons (by decide) (Ch8.cons (by decide) Ch8.nil)))))))))))))) (and255 c1) ji), by rw [(show (([(114 : Int32), (101 : Int32), (112 : Int32), (58 : Int32), (83 : Int32), (121 : Int32), (115 : Int32), (116 : Int32), (101 : Int32), (109 : Int32), (85 : Int32), (115 : Int32), (101 : Int32), (114 : Int32)] : List Int32).set ji (c1 &&& (255 : Int32))).length = 14 by rw [List.length_set]; rfl)]; decide⟩
          exact W35.retA hret rfl rfl (hb hby d1_251) (by decide) (by decide) fun _ _ => ⟨K0, Or.inr ⟨b33, _, _, rfl, S_b33⟩⟩
        · refine Go.st (fun _ => XS.icmpYes W0.here W0.ex rfl (pc0 := 145) (pc' := 252) rfl (hb hby d1_145) rfl (feq (hk1 : ¬ (((pick &&& (2147483647 : Int32)) % (3 : Int32)) = (1 : Int32)))).2 (by decide) (by decide)) ?_
          show Go p_ e_ bl_ _ (T0.setTop (mkF m_ 252 #[.val (.int mode), .val (.int pick), .val (.int pos), .val (.int c1), .val (.int c2), .val (.int c3), .val (.int ((pick &&& (2147483647 : Int32)) % (3 : Int32))), .val (.int (pos &&& (2147483647 : Int32))), .val (.int (c1 &&& (255 : Int32))), .val (.int (c2 &&& (255 : Int32))), .val (.int (c3 &&& (255 : Int32))), .unset] []))
          refine Go.st (fun _ => XS.bipush W0.here W0.ex rfl (hb hby d1_252)) ?_
          show Go p_ e_ bl_ _ (T0.setTop (mkF m_ 254 #[.val (.int mode), .val (.int pick), .val (.int pos), .val (.int c1), .val (.int c2), .val (.int c3), .val (.int ((pick &&& (2147483647 : Int32)) % (3 : Int32))), .val (.int (pos &&& (2147483647 : Int32))), .val (.int (c1 &&& (255 : Int32))), .val (.int (c2 &&& (255 : Int32))), .val (.int (c3 &&& (255 : Int32))), .unset] [(.int (9 : Int32))]))
          refine W0.newP (ty := .char) (dv := .int 0) rfl rfl (cx.w 92 rfl) (hb hby d1_254) (z := (9 : Int32)) (by decide) (cap := 9) (by decide) (by decide) (k' := 1) (n' := 9) rfl rfl (by decide) (by decide) ?_
          intro T36 h36 b36 kA_b36 hb36 g_b36 W36 E36 V_b36
          have sz_b36 : h.size ≤ b36 := Nat.le_trans K0.1 (Nat.le_of_eq hb36.symm)
          replace K0 := K0.ext E36
          replace V_b36 : Arv Z h36 b36 kA_b36 .char (9 : Int32) [(.int 0), (.int 0), (.int 0), (.int 0), (.int 0), (.int 0), (.int 0), (.int 0), (.int 0)] (.int 0) := V_b36
          show Go p_ e_ bl_ _ (T36.setTop (mkF m_ 256 #[.val (.int mode), .val (.int pick), .val (.int pos), .val (.int c1), .val (.int c2), .val (.int c3), .val (.int ((pick &&& (2147483647 : Int32)) % (3 : Int32))), .val (.int (pos &&& (2147483647 : Int32))), .val (.int (c1 &&& (255 : Int32))), .val (.int (c2 &&& (255 : Int32))), .val (.int (c3 &&& (255 : Int32))), .unset] [(.ref b36)]))
          refine Go.st (fun _ => XS.dup W36.here W36.ex rfl (hb hby d1_256) rfl rfl) ?_
          show Go p_ e_ bl_ _ (T36.setTop (mkF m_ 257 #[.val (.int mode), .val (.int pick), .val (.int pos), .val (.int c1), .val (.int c2), .val (.int c3), .val (.int ((pick &&& (2147483647 : Int32)) % (3 : Int32))), .val (.int (pos &&& (2147483647 : Int32))), .val (.int (c1 &&& (255 : Int32))), .val (.int (c2 &&& (255 : Int32))), .val (.int (c3 &&& (255 : Int32))), .unset] [(.ref b36), (.ref b36)]))
          refine Go.st (fun _ => XS.iconst W36.here W36.ex rfl (hb hby d1_257)) ?_
          show Go p_ e_ bl_ _ (T36.setTop (mkF m_ 258 #[.val (.int mode), .val (.int pick), .val (.int pos), .val (.int c1), .val (.int c2), .val (.int c3), .val (.int ((pick &&& (2147483647 : Int32)) % (3 : Int32))), .val (.int (pos &&& (2147483647 : Int32))), .val (.int (c1 &&& (255 : Int32))), .val (.int (c2 &&& (255 : Int32))), .val (.int (c3 &&& (255 : Int32))), .unset] [(.int (0 : Int32)), (.ref b36), (.ref b36)]))
          refine Go.st (fun _ => XS.bipush W36.here W36.ex rfl (hb hby d1_258)) ?_
          show Go p_ e_ bl_ _ (T36.setTop (mkF m_ 260 #[.val (.int mode), .val (.int pick), .val (.int pos), .val (.int c1), .val (.int c2), .val (.int c3), .val (.int ((pick &&& (2147483647 : Int32)) % (3 : Int32))), .val (.int (pos &&& (2147483647 : Int32))), .val (.int (c1 &&& (255 : Int32))), .val (.int (c2 &&& (255 : Int32))), .val (.int (c3 &&& (255 : Int32))), .unset] [(.int (114 : Int32)), (.int (0 : Int32)), (.ref b36), (.ref b36)]))
          refine W36.stC V_b36 (j := (0 : Int32)) (x := (114 : Int32)) ⟨by decide, by decide⟩ 0 rfl (Nat.le_of_ble_eq_true rfl) (List.mem_of_getElem? (i := 0) rfl) g_b36 (hb hby d1_260) ?_
          intro T37 h37 L37 W37 w37 V_new
          replace K0 := K0.wr w37 (Or.inr sz_b36)
          replace V_b36 : Arv Z h37 b36 kA_b36 .char (9 : Int32) [(.int (114 : Int32)), (.int 0), (.int 0), (.int 0), (.int 0), (.int 0), (.int 0), (.int 0), (.int 0)] (.int 0) := V_new
          clear V_new
          show Go p_ e_ bl_ _ (T37.setTop (mkF m_ 261 #[.val (.int mode), .val (.int pick), .val (.int pos), .val (.int c1), .val (.int c2), .val (.int c3), .val (.int ((pick &&& (2147483647 : Int32)) % (3 : Int32))), .val (.int (pos &&& (2147483647 : Int32))), .val (.int (c1 &&& (255 : Int32))), .val (.int (c2 &&& (255 : Int32))), .val (.int (c3 &&& (255 : Int32))), .unset] [(.ref b36)]))
          refine Go.st (fun _ => XS.dup W37.here W37.ex rfl (hb hby d1_261) rfl rfl) ?_
          show Go p_ e_ bl_ _ (T37.setTop (mkF m_ 262 #[.val (.int mode), .val (.int pick), .val (.int pos), .val (.int c1), .val (.int c2), .val (.int c3), .val (.int ((pick &&& (2147483647 : Int32)) % (3 : Int32))), .val (.int (pos &&& (2147483647 : Int32))), .val (.int (c1 &&& (255 : Int32))), .val (.int (c2 &&& (255 : Int32))), .val (.int (c3 &&& (255 : Int32))), .unset] [(.ref b36), (.ref b36)]))
          refine Go.st (fun _ => XS.iconst W37.here W37.ex rfl (hb hby d1_262)) ?_
          show Go p_ e_ bl_ _ (T37.setTop (mkF m_ 263 #[.val (.int mode), .val (.int pick), .val (.int pos), .val (.int c1), .val (.int c2), .val (.int c3), .val (.int ((pick &&& (2147483647 : Int32)) % (3 : Int32))), .val (.int (pos &&& (2147483647 : Int32))), .val (.int (c1 &&& (255 : Int32))), .val (.int (c2 &&& (255 : Int32))), .val (.int (c3 &&& (255 : Int32))), .unset] [(.int (1 : Int32)), (.ref b36), (.ref b36)]))
          refine Go.st (fun _ => XS.bipush W37.here W37.ex rfl (hb hby d1_263)) ?_
          show Go p_ e_ bl_ _ (T37.setTop (mkF m_ 265 #[.val (.int mode), .val (.int pick), .val (.int pos), .val (.int c1), .val (.int c2), .val (.int c3), .val (.int ((pick &&& (2147483647 : Int32)) % (3 : Int32))), .val (.int (pos &&& (2147483647 : Int32))), .val (.int (c1 &&& (255 : Int32))), .val (.int (c2 &&& (255 : Int32))), .val (.int (c3 &&& (255 : Int32))), .unset] [(.int (101 : Int32)), (.int (1 : Int32)), (.ref b36), (.ref b36)]))
          refine W37.stC V_b36 (j := (1 : Int32)) (x := (101 : Int32)) ⟨by decide, by decide⟩ 1 rfl (Nat.le_of_ble_eq_true rfl) (List.mem_of_getElem? (i := 0) rfl) g_b36 (hb hby d1_265) ?_
          intro T38 h38 L38 W38 w38 V_new
          replace K0 := K0.wr w38 (Or.inr sz_b36)
          replace V_b36 : Arv Z h38 b36 kA_b36 .char (9 : Int32) [(.int (114 : Int32)), (.int (101 : Int32)), (.int 0), (.int 0), (.int 0), (.int 0), (.int 0), (.int 0), (.int 0)] (.int 0) := V_new
          clear V_new
          show Go p_ e_ bl_ _ (T38.setTop (mkF m_ 266 #[.val (.int mode), .val (.int pick), .val (.int pos), .val (.int c1), .val (.int c2), .val (.int c3), .val (.int ((pick &&& (2147483647 : Int32)) % (3 : Int32))), .val (.int (pos &&& (2147483647 : Int32))), .val (.int (c1 &&& (255 : Int32))), .val (.int (c2 &&& (255 : Int32))), .val (.int (c3 &&& (255 : Int32))), .unset] [(.ref b36)]))
          refine Go.st (fun _ => XS.dup W38.here W38.ex rfl (hb hby d1_266) rfl rfl) ?_
          show Go p_ e_ bl_ _ (T38.setTop (mkF m_ 267 #[.val (.int mode), .val (.int pick), .val (.int pos), .val (.int c1), .val (.int c2), .val (.int c3), .val (.int ((pick &&& (2147483647 : Int32)) % (3 : Int32))), .val (.int (pos &&& (2147483647 : Int32))), .val (.int (c1 &&& (255 : Int32))), .val (.int (c2 &&& (255 : Int32))), .val (.int (c3 &&& (255 : Int32))), .unset] [(.ref b36), (.ref b36)]))
          refine Go.st (fun _ => XS.iconst W38.here W38.ex rfl (hb hby d1_267)) ?_
          show Go p_ e_ bl_ _ (T38.setTop (mkF m_ 268 #[.val (.int mode), .val (.int pick), .val (.int pos), .val (.int c1), .val (.int c2), .val (.int c3), .val (.int ((pick &&& (2147483647 : Int32)) % (3 : Int32))), .val (.int (pos &&& (2147483647 : Int32))), .val (.int (c1 &&& (255 : Int32))), .val (.int (c2 &&& (255 : Int32))), .val (.int (c3 &&& (255 : Int32))), .unset] [(.int (2 : Int32)), (.ref b36), (.ref b36)]))
          refine Go.st (fun _ => XS.bipush W38.here W38.ex rfl (hb hby d1_268)) ?_
          show Go p_ e_ bl_ _ (T38.setTop (mkF m_ 270 #[.val (.int mode), .val (.int pick), .val (.int pos), .val (.int c1), .val (.int c2), .val (.int c3), .val (.int ((pick &&& (2147483647 : Int32)) % (3 : Int32))), .val (.int (pos &&& (2147483647 : Int32))), .val (.int (c1 &&& (255 : Int32))), .val (.int (c2 &&& (255 : Int32))), .val (.int (c3 &&& (255 : Int32))), .unset] [(.int (112 : Int32)), (.int (2 : Int32)), (.ref b36), (.ref b36)]))
          refine W38.stC V_b36 (j := (2 : Int32)) (x := (112 : Int32)) ⟨by decide, by decide⟩ 2 rfl (Nat.le_of_ble_eq_true rfl) (List.mem_of_getElem? (i := 0) rfl) g_b36 (hb hby d1_270) ?_
          intro T39 h39 L39 W39 w39 V_new
          replace K0 := K0.wr w39 (Or.inr sz_b36)
          replace V_b36 : Arv Z h39 b36 kA_b36 .char (9 : Int32) [(.int (114 : Int32)), (.int (101 : Int32)), (.int (112 : Int32)), (.int 0), (.int 0), (.int 0), (.int 0), (.int 0), (.int 0)] (.int 0) := V_new
          clear V_new
          show Go p_ e_ bl_ _ (T39.setTop (mkF m_ 271 #[.val (.int mode), .val (.int pick), .val (.int pos), .val (.int c1), .val (.int c2), .val (.int c3), .val (.int ((pick &&& (2147483647 : Int32)) % (3 : Int32))), .val (.int (pos &&& (2147483647 : Int32))), .val (.int (c1 &&& (255 : Int32))), .val (.int (c2 &&& (255 : Int32))), .val (.int (c3 &&& (255 : Int32))), .unset] [(.ref b36)]))
          refine Go.st (fun _ => XS.dup W39.here W39.ex rfl (hb hby d1_271) rfl rfl) ?_
          show Go p_ e_ bl_ _ (T39.setTop (mkF m_ 272 #[.val (.int mode), .val (.int pick), .val (.int pos), .val (.int c1), .val (.int c2), .val (.int c3), .val (.int ((pick &&& (2147483647 : Int32)) % (3 : Int32))), .val (.int (pos &&& (2147483647 : Int32))), .val (.int (c1 &&& (255 : Int32))), .val (.int (c2 &&& (255 : Int32))), .val (.int (c3 &&& (255 : Int32))), .unset] [(.ref b36), (.ref b36)]))
          refine Go.st (fun _ => XS.iconst W39.here W39.ex rfl (hb hby d1_272)) ?_
          show Go p_ e_ bl_ _ (T39.setTop (mkF m_ 273 #[.val (.int mode), .val (.int pick), .val (.int pos), .val (.int c1), .val (.int c2), .val (.int c3), .val (.int ((pick &&& (2147483647 : Int32)) % (3 : Int32))), .val (.int (pos &&& (2147483647 : Int32))), .val (.int (c1 &&& (255 : Int32))), .val (.int (c2 &&& (255 : Int32))), .val (.int (c3 &&& (255 : Int32))), .unset] [(.int (3 : Int32)), (.ref b36), (.ref b36)]))
          refine Go.st (fun _ => XS.bipush W39.here W39.ex rfl (hb hby d1_273)) ?_
          show Go p_ e_ bl_ _ (T39.setTop (mkF m_ 275 #[.val (.int mode), .val (.int pick), .val (.int pos), .val (.int c1), .val (.int c2), .val (.int c3), .val (.int ((pick &&& (2147483647 : Int32)) % (3 : Int32))), .val (.int (pos &&& (2147483647 : Int32))), .val (.int (c1 &&& (255 : Int32))), .val (.int (c2 &&& (255 : Int32))), .val (.int (c3 &&& (255 : Int32))), .unset] [(.int (58 : Int32)), (.int (3 : Int32)), (.ref b36), (.ref b36)]))
          refine W39.stC V_b36 (j := (3 : Int32)) (x := (58 : Int32)) ⟨by decide, by decide⟩ 3 rfl (Nat.le_of_ble_eq_true rfl) (List.mem_of_getElem? (i := 0) rfl) g_b36 (hb hby d1_275) ?_
          intro T40 h40 L40 W40 w40 V_new
          replace K0 := K0.wr w40 (Or.inr sz_b36)
          replace V_b36 : Arv Z h40 b36 kA_b36 .char (9 : Int32) [(.int (114 : Int32)), (.int (101 : Int32)), (.int (112 : Int32)), (.int (58 : Int32)), (.int 0), (.int 0), (.int 0), (.int 0), (.int 0)] (.int 0) := V_new
          clear V_new
          show Go p_ e_ bl_ _ (T40.setTop (mkF m_ 276 #[.val (.int mode), .val (.int pick), .val (.int pos), .val (.int c1), .val (.int c2), .val (.int c3), .val (.int ((pick &&& (2147483647 : Int32)) % (3 : Int32))), .val (.int (pos &&& (2147483647 : Int32))), .val (.int (c1 &&& (255 : Int32))), .val (.int (c2 &&& (255 : Int32))), .val (.int (c3 &&& (255 : Int32))), .unset] [(.ref b36)]))
          refine Go.st (fun _ => XS.dup W40.here W40.ex rfl (hb hby d1_276) rfl rfl) ?_
          show Go p_ e_ bl_ _ (T40.setTop (mkF m_ 277 #[.val (.int mode), .val (.int pick), .val (.int pos), .val (.int c1), .val (.int c2), .val (.int c3), .val (.int ((pick &&& (2147483647 : Int32)) % (3 : Int32))), .val (.int (pos &&& (2147483647 : Int32))), .val (.int (c1 &&& (255 : Int32))), .val (.int (c2 &&& (255 : Int32))), .val (.int (c3 &&& (255 : Int32))), .unset] [(.ref b36), (.ref b36)]))
          refine Go.st (fun _ => XS.iconst W40.here W40.ex rfl (hb hby d1_277)) ?_
          show Go p_ e_ bl_ _ (T40.setTop (mkF m_ 278 #[.val (.int mode), .val (.int pick), .val (.int pos), .val (.int c1), .val (.int c2), .val (.int c3), .val (.int ((pick &&& (2147483647 : Int32)) % (3 : Int32))), .val (.int (pos &&& (2147483647 : Int32))), .val (.int (c1 &&& (255 : Int32))), .val (.int (c2 &&& (255 : Int32))), .val (.int (c3 &&& (255 : Int32))), .unset] [(.int (4 : Int32)), (.ref b36), (.ref b36)]))
          refine Go.st (fun _ => XS.bipush W40.here W40.ex rfl (hb hby d1_278)) ?_
          show Go p_ e_ bl_ _ (T40.setTop (mkF m_ 280 #[.val (.int mode), .val (.int pick), .val (.int pos), .val (.int c1), .val (.int c2), .val (.int c3), .val (.int ((pick &&& (2147483647 : Int32)) % (3 : Int32))), .val (.int (pos &&& (2147483647 : Int32))), .val (.int (c1 &&& (255 : Int32))), .val (.int (c2 &&& (255 : Int32))), .val (.int (c3 &&& (255 : Int32))), .unset] [(.int (71 : Int32)), (.int (4 : Int32)), (.ref b36), (.ref b36)]))
          refine W40.stC V_b36 (j := (4 : Int32)) (x := (71 : Int32)) ⟨by decide, by decide⟩ 4 rfl (Nat.le_of_ble_eq_true rfl) (List.mem_of_getElem? (i := 0) rfl) g_b36 (hb hby d1_280) ?_
          intro T41 h41 L41 W41 w41 V_new
          replace K0 := K0.wr w41 (Or.inr sz_b36)
          replace V_b36 : Arv Z h41 b36 kA_b36 .char (9 : Int32) [(.int (114 : Int32)), (.int (101 : Int32)), (.int (112 : Int32)), (.int (58 : Int32)), (.int (71 : Int32)), (.int 0), (.int 0), (.int 0), (.int 0)] (.int 0) := V_new
          clear V_new
          show Go p_ e_ bl_ _ (T41.setTop (mkF m_ 281 #[.val (.int mode), .val (.int pick), .val (.int pos), .val (.int c1), .val (.int c2), .val (.int c3), .val (.int ((pick &&& (2147483647 : Int32)) % (3 : Int32))), .val (.int (pos &&& (2147483647 : Int32))), .val (.int (c1 &&& (255 : Int32))), .val (.int (c2 &&& (255 : Int32))), .val (.int (c3 &&& (255 : Int32))), .unset] [(.ref b36)]))
          refine Go.st (fun _ => XS.dup W41.here W41.ex rfl (hb hby d1_281) rfl rfl) ?_
          show Go p_ e_ bl_ _ (T41.setTop (mkF m_ 282 #[.val (.int mode), .val (.int pick), .val (.int pos), .val (.int c1), .val (.int c2), .val (.int c3), .val (.int ((pick &&& (2147483647 : Int32)) % (3 : Int32))), .val (.int (pos &&& (2147483647 : Int32))), .val (.int (c1 &&& (255 : Int32))), .val (.int (c2 &&& (255 : Int32))), .val (.int (c3 &&& (255 : Int32))), .unset] [(.ref b36), (.ref b36)]))
          refine Go.st (fun _ => XS.iconst W41.here W41.ex rfl (hb hby d1_282)) ?_
          show Go p_ e_ bl_ _ (T41.setTop (mkF m_ 283 #[.val (.int mode), .val (.int pick), .val (.int pos), .val (.int c1), .val (.int c2), .val (.int c3), .val (.int ((pick &&& (2147483647 : Int32)) % (3 : Int32))), .val (.int (pos &&& (2147483647 : Int32))), .val (.int (c1 &&& (255 : Int32))), .val (.int (c2 &&& (255 : Int32))), .val (.int (c3 &&& (255 : Int32))), .unset] [(.int (5 : Int32)), (.ref b36), (.ref b36)]))
          refine Go.st (fun _ => XS.bipush W41.here W41.ex rfl (hb hby d1_283)) ?_
          show Go p_ e_ bl_ _ (T41.setTop (mkF m_ 285 #[.val (.int mode), .val (.int pick), .val (.int pos), .val (.int c1), .val (.int c2), .val (.int c3), .val (.int ((pick &&& (2147483647 : Int32)) % (3 : Int32))), .val (.int (pos &&& (2147483647 : Int32))), .val (.int (c1 &&& (255 : Int32))), .val (.int (c2 &&& (255 : Int32))), .val (.int (c3 &&& (255 : Int32))), .unset] [(.int (114 : Int32)), (.int (5 : Int32)), (.ref b36), (.ref b36)]))
          refine W41.stC V_b36 (j := (5 : Int32)) (x := (114 : Int32)) ⟨by decide, by decide⟩ 5 rfl (Nat.le_of_ble_eq_true rfl) (List.mem_of_getElem? (i := 0) rfl) g_b36 (hb hby d1_285) ?_
          intro T42 h42 L42 W42 w42 V_new
          replace K0 := K0.wr w42 (Or.inr sz_b36)
          replace V_b36 : Arv Z h42 b36 kA_b36 .char (9 : Int32) [(.int (114 : Int32)), (.int (101 : Int32)), (.int (112 : Int32)), (.int (58 : Int32)), (.int (71 : Int32)), (.int (114 : Int32)), (.int 0), (.int 0), (.int 0)] (.int 0) := V_new
          clear V_new
          show Go p_ e_ bl_ _ (T42.setTop (mkF m_ 286 #[.val (.int mode), .val (.int pick), .val (.int pos), .val (.int c1), .val (.int c2), .val (.int c3), .val (.int ((pick &&& (2147483647 : Int32)) % (3 : Int32))), .val (.int (pos &&& (2147483647 : Int32))), .val (.int (c1 &&& (255 : Int32))), .val (.int (c2 &&& (255 : Int32))), .val (.int (c3 &&& (255 : Int32))), .unset] [(.ref b36)]))
          refine Go.st (fun _ => XS.dup W42.here W42.ex rfl (hb hby d1_286) rfl rfl) ?_
          show Go p_ e_ bl_ _ (T42.setTop (mkF m_ 287 #[.val (.int mode), .val (.int pick), .val (.int pos), .val (.int c1), .val (.int c2), .val (.int c3), .val (.int ((pick &&& (2147483647 : Int32)) % (3 : Int32))), .val (.int (pos &&& (2147483647 : Int32))), .val (.int (c1 &&& (255 : Int32))), .val (.int (c2 &&& (255 : Int32))), .val (.int (c3 &&& (255 : Int32))), .unset] [(.ref b36), (.ref b36)]))
          refine Go.st (fun _ => XS.bipush W42.here W42.ex rfl (hb hby d1_287)) ?_
          show Go p_ e_ bl_ _ (T42.setTop (mkF m_ 289 #[.val (.int mode), .val (.int pick), .val (.int pos), .val (.int c1), .val (.int c2), .val (.int c3), .val (.int ((pick &&& (2147483647 : Int32)) % (3 : Int32))), .val (.int (pos &&& (2147483647 : Int32))), .val (.int (c1 &&& (255 : Int32))), .val (.int (c2 &&& (255 : Int32))), .val (.int (c3 &&& (255 : Int32))), .unset] [(.int (6 : Int32)), (.ref b36), (.ref b36)]))
          refine Go.st (fun _ => XS.bipush W42.here W42.ex rfl (hb hby d1_289)) ?_
          show Go p_ e_ bl_ _ (T42.setTop (mkF m_ 291 #[.val (.int mode), .val (.int pick), .val (.int pos), .val (.int c1), .val (.int c2), .val (.int c3), .val (.int ((pick &&& (2147483647 : Int32)) % (3 : Int32))), .val (.int (pos &&& (2147483647 : Int32))), .val (.int (c1 &&& (255 : Int32))), .val (.int (c2 &&& (255 : Int32))), .val (.int (c3 &&& (255 : Int32))), .unset] [(.int (111 : Int32)), (.int (6 : Int32)), (.ref b36), (.ref b36)]))
          refine W42.stC V_b36 (j := (6 : Int32)) (x := (111 : Int32)) ⟨by decide, by decide⟩ 6 rfl (Nat.le_of_ble_eq_true rfl) (List.mem_of_getElem? (i := 0) rfl) g_b36 (hb hby d1_291) ?_
          intro T43 h43 L43 W43 w43 V_new
          replace K0 := K0.wr w43 (Or.inr sz_b36)
          replace V_b36 : Arv Z h43 b36 kA_b36 .char (9 : Int32) [(.int (114 : Int32)), (.int (101 : Int32)), (.int (112 : Int32)), (.int (58 : Int32)), (.int (71 : Int32)), (.int (114 : Int32)), (.int (111 : Int32)), (.int 0), (.int 0)] (.int 0) := V_new
          clear V_new
          show Go p_ e_ bl_ _ (T43.setTop (mkF m_ 292 #[.val (.int mode), .val (.int pick), .val (.int pos), .val (.int c1), .val (.int c2), .val (.int c3), .val (.int ((pick &&& (2147483647 : Int32)) % (3 : Int32))), .val (.int (pos &&& (2147483647 : Int32))), .val (.int (c1 &&& (255 : Int32))), .val (.int (c2 &&& (255 : Int32))), .val (.int (c3 &&& (255 : Int32))), .unset] [(.ref b36)]))
          refine Go.st (fun _ => XS.dup W43.here W43.ex rfl (hb hby d1_292) rfl rfl) ?_
          show Go p_ e_ bl_ _ (T43.setTop (mkF m_ 293 #[.val (.int mode), .val (.int pick), .val (.int pos), .val (.int c1), .val (.int c2), .val (.int c3), .val (.int ((pick &&& (2147483647 : Int32)) % (3 : Int32))), .val (.int (pos &&& (2147483647 : Int32))), .val (.int (c1 &&& (255 : Int32))), .val (.int (c2 &&& (255 : Int32))), .val (.int (c3 &&& (255 : Int32))), .unset] [(.ref b36), (.ref b36)]))
          refine Go.st (fun _ => XS.bipush W43.here W43.ex rfl (hb hby d1_293)) ?_
          show Go p_ e_ bl_ _ (T43.setTop (mkF m_ 295 #[.val (.int mode), .val (.int pick), .val (.int pos), .val (.int c1), .val (.int c2), .val (.int c3), .val (.int ((pick &&& (2147483647 : Int32)) % (3 : Int32))), .val (.int (pos &&& (2147483647 : Int32))), .val (.int (c1 &&& (255 : Int32))), .val (.int (c2 &&& (255 : Int32))), .val (.int (c3 &&& (255 : Int32))), .unset] [(.int (7 : Int32)), (.ref b36), (.ref b36)]))
          refine Go.st (fun _ => XS.bipush W43.here W43.ex rfl (hb hby d1_295)) ?_
          show Go p_ e_ bl_ _ (T43.setTop (mkF m_ 297 #[.val (.int mode), .val (.int pick), .val (.int pos), .val (.int c1), .val (.int c2), .val (.int c3), .val (.int ((pick &&& (2147483647 : Int32)) % (3 : Int32))), .val (.int (pos &&& (2147483647 : Int32))), .val (.int (c1 &&& (255 : Int32))), .val (.int (c2 &&& (255 : Int32))), .val (.int (c3 &&& (255 : Int32))), .unset] [(.int (117 : Int32)), (.int (7 : Int32)), (.ref b36), (.ref b36)]))
          refine W43.stC V_b36 (j := (7 : Int32)) (x := (117 : Int32)) ⟨by decide, by decide⟩ 7 rfl (Nat.le_of_ble_eq_true rfl) (List.mem_of_getElem? (i := 0) rfl) g_b36 (hb hby d1_297) ?_
          intro T44 h44 L44 W44 w44 V_new
          replace K0 := K0.wr w44 (Or.inr sz_b36)
          replace V_b36 : Arv Z h44 b36 kA_b36 .char (9 : Int32) [(.int (114 : Int32)), (.int (101 : Int32)), (.int (112 : Int32)), (.int (58 : Int32)), (.int (71 : Int32)), (.int (114 : Int32)), (.int (111 : Int32)), (.int (117 : Int32)), (.int 0)] (.int 0) := V_new
          clear V_new
          show Go p_ e_ bl_ _ (T44.setTop (mkF m_ 298 #[.val (.int mode), .val (.int pick), .val (.int pos), .val (.int c1), .val (.int c2), .val (.int c3), .val (.int ((pick &&& (2147483647 : Int32)) % (3 : Int32))), .val (.int (pos &&& (2147483647 : Int32))), .val (.int (c1 &&& (255 : Int32))), .val (.int (c2 &&& (255 : Int32))), .val (.int (c3 &&& (255 : Int32))), .unset] [(.ref b36)]))
          refine Go.st (fun _ => XS.dup W44.here W44.ex rfl (hb hby d1_298) rfl rfl) ?_
          show Go p_ e_ bl_ _ (T44.setTop (mkF m_ 299 #[.val (.int mode), .val (.int pick), .val (.int pos), .val (.int c1), .val (.int c2), .val (.int c3), .val (.int ((pick &&& (2147483647 : Int32)) % (3 : Int32))), .val (.int (pos &&& (2147483647 : Int32))), .val (.int (c1 &&& (255 : Int32))), .val (.int (c2 &&& (255 : Int32))), .val (.int (c3 &&& (255 : Int32))), .unset] [(.ref b36), (.ref b36)]))
          refine Go.st (fun _ => XS.bipush W44.here W44.ex rfl (hb hby d1_299)) ?_
          show Go p_ e_ bl_ _ (T44.setTop (mkF m_ 301 #[.val (.int mode), .val (.int pick), .val (.int pos), .val (.int c1), .val (.int c2), .val (.int c3), .val (.int ((pick &&& (2147483647 : Int32)) % (3 : Int32))), .val (.int (pos &&& (2147483647 : Int32))), .val (.int (c1 &&& (255 : Int32))), .val (.int (c2 &&& (255 : Int32))), .val (.int (c3 &&& (255 : Int32))), .unset] [(.int (8 : Int32)), (.ref b36), (.ref b36)]))
          refine Go.st (fun _ => XS.bipush W44.here W44.ex rfl (hb hby d1_301)) ?_
          show Go p_ e_ bl_ _ (T44.setTop (mkF m_ 303 #[.val (.int mode), .val (.int pick), .val (.int pos), .val (.int c1), .val (.int c2), .val (.int c3), .val (.int ((pick &&& (2147483647 : Int32)) % (3 : Int32))), .val (.int (pos &&& (2147483647 : Int32))), .val (.int (c1 &&& (255 : Int32))), .val (.int (c2 &&& (255 : Int32))), .val (.int (c3 &&& (255 : Int32))), .unset] [(.int (112 : Int32)), (.int (8 : Int32)), (.ref b36), (.ref b36)]))
          refine W44.stC V_b36 (j := (8 : Int32)) (x := (112 : Int32)) ⟨by decide, by decide⟩ 8 rfl (Nat.le_of_ble_eq_true rfl) (List.mem_of_getElem? (i := 0) rfl) g_b36 (hb hby d1_303) ?_
          intro T45 h45 L45 W45 w45 V_new
          replace K0 := K0.wr w45 (Or.inr sz_b36)
          replace V_b36 : Arv Z h45 b36 kA_b36 .char (9 : Int32) [(.int (114 : Int32)), (.int (101 : Int32)), (.int (112 : Int32)), (.int (58 : Int32)), (.int (71 : Int32)), (.int (114 : Int32)), (.int (111 : Int32)), (.int (117 : Int32)), (.int (112 : Int32))] (.int 0) := V_new
          clear V_new
          show Go p_ e_ bl_ _ (T45.setTop (mkF m_ 304 #[.val (.int mode), .val (.int pick), .val (.int pos), .val (.int c1), .val (.int c2), .val (.int c3), .val (.int ((pick &&& (2147483647 : Int32)) % (3 : Int32))), .val (.int (pos &&& (2147483647 : Int32))), .val (.int (c1 &&& (255 : Int32))), .val (.int (c2 &&& (255 : Int32))), .val (.int (c3 &&& (255 : Int32))), .unset] [(.ref b36)]))
          refine Go.st (fun _ => XS.astore W45.here W45.ex rfl (hb hby d1_304) rfl rfl (l' := #[.val (.int mode), .val (.int pick), .val (.int pos), .val (.int c1), .val (.int c2), .val (.int c3), .val (.int ((pick &&& (2147483647 : Int32)) % (3 : Int32))), .val (.int (pos &&& (2147483647 : Int32))), .val (.int (c1 &&& (255 : Int32))), .val (.int (c2 &&& (255 : Int32))), .val (.int (c3 &&& (255 : Int32))), .val (.ref b36)]) rfl) ?_
          show Go p_ e_ bl_ _ (T45.setTop (mkF m_ 306 #[.val (.int mode), .val (.int pick), .val (.int pos), .val (.int c1), .val (.int c2), .val (.int c3), .val (.int ((pick &&& (2147483647 : Int32)) % (3 : Int32))), .val (.int (pos &&& (2147483647 : Int32))), .val (.int (c1 &&& (255 : Int32))), .val (.int (c2 &&& (255 : Int32))), .val (.int (c3 &&& (255 : Int32))), .val (.ref b36)] []))
          refine Go.st (fun _ => XS.aload W45.here W45.ex rfl (hb hby d1_306) rfl rfl) ?_
          show Go p_ e_ bl_ _ (T45.setTop (mkF m_ 308 #[.val (.int mode), .val (.int pick), .val (.int pos), .val (.int c1), .val (.int c2), .val (.int c3), .val (.int ((pick &&& (2147483647 : Int32)) % (3 : Int32))), .val (.int (pos &&& (2147483647 : Int32))), .val (.int (c1 &&& (255 : Int32))), .val (.int (c2 &&& (255 : Int32))), .val (.int (c3 &&& (255 : Int32))), .val (.ref b36)] [(.ref b36)]))
          refine Go.st (fun _ => XS.iload W45.here W45.ex rfl (hb hby d1_308) rfl) ?_
          show Go p_ e_ bl_ _ (T45.setTop (mkF m_ 310 #[.val (.int mode), .val (.int pick), .val (.int pos), .val (.int c1), .val (.int c2), .val (.int c3), .val (.int ((pick &&& (2147483647 : Int32)) % (3 : Int32))), .val (.int (pos &&& (2147483647 : Int32))), .val (.int (c1 &&& (255 : Int32))), .val (.int (c2 &&& (255 : Int32))), .val (.int (c3 &&& (255 : Int32))), .val (.ref b36)] [(.int (pos &&& (2147483647 : Int32))), (.ref b36)]))
          refine Go.st (fun _ => XS.bipush W45.here W45.ex rfl (hb hby d1_310)) ?_
          show Go p_ e_ bl_ _ (T45.setTop (mkF m_ 312 #[.val (.int mode), .val (.int pick), .val (.int pos), .val (.int c1), .val (.int c2), .val (.int c3), .val (.int ((pick &&& (2147483647 : Int32)) % (3 : Int32))), .val (.int (pos &&& (2147483647 : Int32))), .val (.int (c1 &&& (255 : Int32))), .val (.int (c2 &&& (255 : Int32))), .val (.int (c3 &&& (255 : Int32))), .val (.ref b36)] [(.int (9 : Int32)), (.int (pos &&& (2147483647 : Int32))), (.ref b36)]))
          refine Go.st (fun _ => iremM W45.X W45.ex rfl (hb hby d1_312) rfl (by decide)) ?_
          show Go p_ e_ bl_ _ (T45.setTop (mkF m_ 313 #[.val (.int mode), .val (.int pick), .val (.int pos), .val (.int c1), .val (.int c2), .val (.int c3), .val (.int ((pick &&& (2147483647 : Int32)) % (3 : Int32))), .val (.int (pos &&& (2147483647 : Int32))), .val (.int (c1 &&& (255 : Int32))), .val (.int (c2 &&& (255 : Int32))), .val (.int (c3 &&& (255 : Int32))), .val (.ref b36)] [(.int ((pos &&& (2147483647 : Int32)) % (9 : Int32))), (.ref b36)]))
          refine Go.st (fun _ => XS.iload W45.here W45.ex rfl (hb hby d1_313) rfl) ?_
          show Go p_ e_ bl_ _ (T45.setTop (mkF m_ 315 #[.val (.int mode), .val (.int pick), .val (.int pos), .val (.int c1), .val (.int c2), .val (.int c3), .val (.int ((pick &&& (2147483647 : Int32)) % (3 : Int32))), .val (.int (pos &&& (2147483647 : Int32))), .val (.int (c1 &&& (255 : Int32))), .val (.int (c2 &&& (255 : Int32))), .val (.int (c3 &&& (255 : Int32))), .val (.ref b36)] [(.int (c1 &&& (255 : Int32))), (.int ((pos &&& (2147483647 : Int32)) % (9 : Int32))), (.ref b36)]))
          have hj := idxn pos 9 9 rfl (by decide)
          obtain ⟨ji, hji⟩ : ∃ ji, ji = (((pos &&& (2147483647 : Int32)) % (9 : Int32))).toNatClampNeg := ⟨_, rfl⟩
          have hlj : ji < 9 := by rw [hji]; exact natn rfl hj
          refine W45.stC V_b36 (j := ((pos &&& (2147483647 : Int32)) % (9 : Int32))) (x := (c1 &&& (255 : Int32))) hj ji hji.symm hlj (List.mem_of_getElem? (i := 0) rfl) g_b36 (hb hby d1_315) ?_
          intro T46 h46 L46 W46 w46 V_new
          replace K0 := K0.wr w46 (Or.inr sz_b36)
          rw [nar_char (and255 c1)] at V_new
          replace V_b36 : Arv Z h46 b36 kA_b36 .char (9 : Int32) ((([(114 : Int32), (101 : Int32), (112 : Int32), (58 : Int32), (71 : Int32), (114 : Int32), (111 : Int32), (117 : Int32), (112 : Int32)] : List Int32).set ji (c1 &&& (255 : Int32))).map Value.int) (.int 0) := by rw [List.map_set]; exact V_new
          clear V_new
          show Go p_ e_ bl_ _ (T46.setTop (mkF m_ 316 #[.val (.int mode), .val (.int pick), .val (.int pos), .val (.int c1), .val (.int c2), .val (.int c3), .val (.int ((pick &&& (2147483647 : Int32)) % (3 : Int32))), .val (.int (pos &&& (2147483647 : Int32))), .val (.int (c1 &&& (255 : Int32))), .val (.int (c2 &&& (255 : Int32))), .val (.int (c3 &&& (255 : Int32))), .val (.ref b36)] []))
          refine W46.newO (cx.w 93 rfl) (cx.w 7 rfl) (cx.w 6 rfl) (hb hby d1_316) (k' := 2) (n' := 13) rfl rfl (by decide) (by decide) ?_
          intro T47 h47 b47 hb47 g_b47 W47 E47 E_b47 D47
          have ne_b36_b47 : b36 ≠ b47 := Nat.ne_of_lt (Nat.lt_of_lt_of_le V_b36.lt (Nat.le_of_eq hb47.symm))
          have sz_b47 : h.size ≤ b47 := Nat.le_trans K0.1 (Nat.le_of_eq hb47.symm)
          replace V_b36 := V_b36.ext E47
          replace K0 := K0.ext E47
          have F_value_b47 : Fld Z h47 b47 "java/lang/String" "value" "[B" .null := D47 (Or.inr (cx.w 9 rfl)) (ty := (.array .byte)) (by decide)
          have F_coder_b47 : Fld Z h47 b47 "java/lang/String" "coder" "B" (.int (0 : Int32)) := D47 (Or.inr (cx.w 10 rfl)) (ty := .byte) (by decide)
          show Go p_ e_ bl_ _ (T47.setTop (mkF m_ 319 #[.val (.int mode), .val (.int pick), .val (.int pos), .val (.int c1), .val (.int c2), .val (.int c3), .val (.int ((pick &&& (2147483647 : Int32)) % (3 : Int32))), .val (.int (pos &&& (2147483647 : Int32))), .val (.int (c1 &&& (255 : Int32))), .val (.int (c2 &&& (255 : Int32))), .val (.int (c3 &&& (255 : Int32))), .val (.ref b36)] [(.ref b47)]))
          refine Go.st (fun _ => XS.dup W47.here W47.ex rfl (hb hby d1_319) rfl rfl) ?_
          show Go p_ e_ bl_ _ (T47.setTop (mkF m_ 320 #[.val (.int mode), .val (.int pick), .val (.int pos), .val (.int c1), .val (.int c2), .val (.int c3), .val (.int ((pick &&& (2147483647 : Int32)) % (3 : Int32))), .val (.int (pos &&& (2147483647 : Int32))), .val (.int (c1 &&& (255 : Int32))), .val (.int (c2 &&& (255 : Int32))), .val (.int (c3 &&& (255 : Int32))), .val (.ref b36)] [(.ref b47), (.ref b47)]))
          refine Go.st (fun _ => XS.aload W47.here W47.ex rfl (hb hby d1_320) rfl rfl) ?_
          show Go p_ e_ bl_ _ (T47.setTop (mkF m_ 322 #[.val (.int mode), .val (.int pick), .val (.int pos), .val (.int c1), .val (.int c2), .val (.int c3), .val (.int ((pick &&& (2147483647 : Int32)) % (3 : Int32))), .val (.int (pos &&& (2147483647 : Int32))), .val (.int (c1 &&& (255 : Int32))), .val (.int (c2 &&& (255 : Int32))), .val (.int (c3 &&& (255 : Int32))), .val (.ref b36)] [(.ref b36), (.ref b47), (.ref b47)]))
          refine W47.libI (y := (⟨"java/lang/String", "<init>", "([C)V"⟩ : MethodName)) rfl (cx.w 94 rfl) (cx.w 95 rfl) (cx.w 96 rfl) (by decide) (Q := StrChars.Road.QV Z b47 (9 : Int32) (((([(114 : Int32), (101 : Int32), (112 : Int32), (58 : Int32), (71 : Int32), (114 : Int32), (111 : Int32), (117 : Int32), (112 : Int32)] : List Int32).set ji (c1 &&& (255 : Int32)))).map (fun c => c.toInt8.toInt32)) h47 n0) (ws := [b47]) (Wd := 1) (ck := 1) (cn := 9) (StrChars.Road.backV (W := 1) W47.hZ cx.vw (kI := 4) (cx.w 7 rfl) (cs := (([(114 : Int32), (101 : Int32), (112 : Int32), (58 : Int32), (71 : Int32), (114 : Int32), (111 : Int32), (117 : Int32), (112 : Int32)] : List Int32).set ji (c1 &&& (255 : Int32)))) (bs := ((([(114 : Int32), (101 : Int32), (112 : Int32), (58 : Int32), (71 : Int32), (114 : Int32), (111 : Int32), (117 : Int32), (112 : Int32)] : List Int32).set ji (c1 &&& (255 : Int32)))).map (fun c => c.toInt8.toInt32)) (n := 9) g_b47 W47.n0le E_b47 F_value_b47 F_coder_b47 V_b36 (cx.cmp.ext W47.e0) cx.g1 (show (([(114 : Int32), (101 : Int32), (112 : Int32), (58 : Int32), (71 : Int32), (114 : Int32), (111 : Int32), (117 : Int32), (112 : Int32)] : List Int32).set ji (c1 &&& (255 : Int32))).length = 9 by rw [List.length_set]; rfl) rfl (by decide) (by decide) (Ch8.set (Ch8.cons (by decide) (Ch8.cons (by decide) (Ch8.cons (by decide) (Ch8.cons (by decide) (Ch8.cons (by decide) (Ch8.cons (by decide) (Ch8.cons (by decide) (Ch8.cons (by decide) (Ch8.cons (by decide) Ch8.nil))))))))) (and255 c1) ji) rfl (by decide) (by decide)) (fun v h' L' q => ⟨q.2.1, q.2.2.1⟩) (allS (List.mem_of_getElem? (i := 0) rfl) all0) (allS g_b47 all0) (k' := 3) (n' := 22) rfl rfl (by decide) (by decide) (by rw [hml]; rfl) (a := b47) (argsL := [(.ref b36)]) (rest := [(.ref b47)]) rfl (lenOf pd6 rfl) rfl (Nat.le_of_eq rfl) (hb hby d1_322) ?_
          intro v49 T49 h49 M49 L49 W49 q49
          obtain ⟨rfl, -, Kv48, E_n, F_cn, ts, k_ts, g_ts, hz_ts, -, F_vn, V_n⟩ := q49
          have ne_b36_ts : b36 ≠ ts := Nat.ne_of_lt (Nat.lt_of_lt_of_le V_b36.lt hz_ts)
          have ne_b47_ts : b47 ≠ ts := Nat.ne_of_lt (Nat.lt_of_lt_of_le E_b47.lt hz_ts)
          have sz_ts : h.size ≤ ts := Nat.le_trans K0.1 hz_ts
          replace V_b36 := V_b36.keep Kv48 (ninS ne_b36_b47 nin0)
          replace E_b47 := E_b47.keep Kv48
          replace K0 := K0.trans Kv48 (allS (Or.inr sz_b47) all0)
          show Go p_ e_ bl_ _ (T49.setTop (mkF m_ 325 #[.val (.int mode), .val (.int pick), .val (.int pos), .val (.int c1), .val (.int c2), .val (.int c3), .val (.int ((pick &&& (2147483647 : Int32)) % (3 : Int32))), .val (.int (pos &&& (2147483647 : Int32))), .val (.int (c1 &&& (255 : Int32))), .val (.int (c2 &&& (255 : Int32))), .val (.int (c3 &&& (255 : Int32))), .val (.ref b36)] [(.ref b47)]))
          have S_b47 : StrAt Z h49 b47 ts (([(114 : Int32), (101 : Int32), (112 : Int32), (58 : Int32), (71 : Int32), (114 : Int32), (111 : Int32), (117 : Int32), (112 : Int32)] : List Int32).set ji (c1 &&& (255 : Int32))) := ⟨E_n, F_cn, F_vn, ⟨_, by rw [(show (([(114 : Int32), (101 : Int32), (112 : Int32), (58 : Int32), (71 : Int32), (114 : Int32), (111 : Int32), (117 : Int32), (112 : Int32)] : List Int32).set ji (c1 &&& (255 : Int32))).length = 9 by rw [List.length_set]; rfl)]; exact V_n⟩, (Ch8.set (Ch8.cons (by decide) (Ch8.cons (by decide) (Ch8.cons (by decide) (Ch8.cons (by decide) (Ch8.cons (by decide) (Ch8.cons (by decide) (Ch8.cons (by decide) (Ch8.cons (by decide) (Ch8.cons (by decide) Ch8.nil))))))))) (and255 c1) ji), by rw [(show (([(114 : Int32), (101 : Int32), (112 : Int32), (58 : Int32), (71 : Int32), (114 : Int32), (111 : Int32), (117 : Int32), (112 : Int32)] : List Int32).set ji (c1 &&& (255 : Int32))).length = 9 by rw [List.length_set]; rfl)]; decide⟩
          exact W49.retA hret rfl rfl (hb hby d1_325) (by decide) (by decide) fun _ _ => ⟨K0, Or.inr ⟨b47, _, _, rfl, S_b47⟩⟩
    · refine Go.st (fun _ => XS.icmpYes W0.here W0.ex rfl (pc0 := 66) (pc' := 326) rfl (hb hby d1_66) rfl (feq (hm1 : ¬ (mode = (1 : Int32)))).2 (by decide) (by decide)) ?_
      show Go p_ e_ bl_ _ (T0.setTop (mkF m_ 326 #[.val (.int mode), .val (.int pick), .val (.int pos), .val (.int c1), .val (.int c2), .val (.int c3), .val (.int ((pick &&& (2147483647 : Int32)) % (3 : Int32))), .val (.int (pos &&& (2147483647 : Int32))), .val (.int (c1 &&& (255 : Int32))), .val (.int (c2 &&& (255 : Int32))), .val (.int (c3 &&& (255 : Int32))), .unset] []))
      refine Go.st (fun _ => XS.iloadN W0.here W0.ex rfl (hb hby d1_326) rfl) ?_
      show Go p_ e_ bl_ _ (T0.setTop (mkF m_ 327 #[.val (.int mode), .val (.int pick), .val (.int pos), .val (.int c1), .val (.int c2), .val (.int c3), .val (.int ((pick &&& (2147483647 : Int32)) % (3 : Int32))), .val (.int (pos &&& (2147483647 : Int32))), .val (.int (c1 &&& (255 : Int32))), .val (.int (c2 &&& (255 : Int32))), .val (.int (c3 &&& (255 : Int32))), .unset] [(.int mode)]))
      refine Go.st (fun _ => XS.iconst W0.here W0.ex rfl (hb hby d1_327)) ?_
      show Go p_ e_ bl_ _ (T0.setTop (mkF m_ 328 #[.val (.int mode), .val (.int pick), .val (.int pos), .val (.int c1), .val (.int c2), .val (.int c3), .val (.int ((pick &&& (2147483647 : Int32)) % (3 : Int32))), .val (.int (pos &&& (2147483647 : Int32))), .val (.int (c1 &&& (255 : Int32))), .val (.int (c2 &&& (255 : Int32))), .val (.int (c3 &&& (255 : Int32))), .unset] [(.int (2 : Int32)), (.int mode)]))
      by_cases hm2 : mode = (2 : Int32)
      · refine Go.st (fun _ => XS.icmpNo W0.here W0.ex rfl (hb hby d1_328) rfl (teq (hm2 : mode = (2 : Int32))).2) ?_
        show Go p_ e_ bl_ _ (T0.setTop (mkF m_ 331 #[.val (.int mode), .val (.int pick), .val (.int pos), .val (.int c1), .val (.int c2), .val (.int c3), .val (.int ((pick &&& (2147483647 : Int32)) % (3 : Int32))), .val (.int (pos &&& (2147483647 : Int32))), .val (.int (c1 &&& (255 : Int32))), .val (.int (c2 &&& (255 : Int32))), .val (.int (c3 &&& (255 : Int32))), .unset] []))
        refine Go.st (fun _ => XS.iloadN W0.here W0.ex rfl (hb hby d1_331) rfl) ?_
        show Go p_ e_ bl_ _ (T0.setTop (mkF m_ 332 #[.val (.int mode), .val (.int pick), .val (.int pos), .val (.int c1), .val (.int c2), .val (.int c3), .val (.int ((pick &&& (2147483647 : Int32)) % (3 : Int32))), .val (.int (pos &&& (2147483647 : Int32))), .val (.int (c1 &&& (255 : Int32))), .val (.int (c2 &&& (255 : Int32))), .val (.int (c3 &&& (255 : Int32))), .unset] [(.int pick)]))
        refine Go.st (fun _ => W0.X.ldcInt W0.ex W0.ho (mvT W0.hZ (cx.w 4 rfl)) (g := (mkF m_ 332 #[.val (.int mode), .val (.int pick), .val (.int pos), .val (.int c1), .val (.int c2), .val (.int c3), .val (.int ((pick &&& (2147483647 : Int32)) % (3 : Int32))), .val (.int (pos &&& (2147483647 : Int32))), .val (.int (c1 &&& (255 : Int32))), .val (.int (c2 &&& (255 : Int32))), .val (.int (c3 &&& (255 : Int32))), .unset] [(.int pick)])) rfl (hb hby d1_332) _) ?_
        show Go p_ e_ bl_ _ (T0.setTop (mkF m_ 334 #[.val (.int mode), .val (.int pick), .val (.int pos), .val (.int c1), .val (.int c2), .val (.int c3), .val (.int ((pick &&& (2147483647 : Int32)) % (3 : Int32))), .val (.int (pos &&& (2147483647 : Int32))), .val (.int (c1 &&& (255 : Int32))), .val (.int (c2 &&& (255 : Int32))), .val (.int (c3 &&& (255 : Int32))), .unset] [(.int (2147483647 : Int32)), (.int pick)]))
        refine Go.st (fun _ => XS.iand W0.here W0.ex rfl (hb hby d1_334) rfl) ?_
        show Go p_ e_ bl_ _ (T0.setTop (mkF m_ 335 #[.val (.int mode), .val (.int pick), .val (.int pos), .val (.int c1), .val (.int c2), .val (.int c3), .val (.int ((pick &&& (2147483647 : Int32)) % (3 : Int32))), .val (.int (pos &&& (2147483647 : Int32))), .val (.int (c1 &&& (255 : Int32))), .val (.int (c2 &&& (255 : Int32))), .val (.int (c3 &&& (255 : Int32))), .unset] [(.int (pick &&& (2147483647 : Int32)))]))
        refine Go.st (fun _ => XS.bipush W0.here W0.ex rfl (hb hby d1_335)) ?_
        show Go p_ e_ bl_ _ (T0.setTop (mkF m_ 337 #[.val (.int mode), .val (.int pick), .val (.int pos), .val (.int c1), .val (.int c2), .val (.int c3), .val (.int ((pick &&& (2147483647 : Int32)) % (3 : Int32))), .val (.int (pos &&& (2147483647 : Int32))), .val (.int (c1 &&& (255 : Int32))), .val (.int (c2 &&& (255 : Int32))), .val (.int (c3 &&& (255 : Int32))), .unset] [(.int (12 : Int32)), (.int (pick &&& (2147483647 : Int32)))]))
        refine Go.st (fun _ => iremM W0.X W0.ex rfl (hb hby d1_337) rfl (by decide)) ?_
        show Go p_ e_ bl_ _ (T0.setTop (mkF m_ 338 #[.val (.int mode), .val (.int pick), .val (.int pos), .val (.int c1), .val (.int c2), .val (.int c3), .val (.int ((pick &&& (2147483647 : Int32)) % (3 : Int32))), .val (.int (pos &&& (2147483647 : Int32))), .val (.int (c1 &&& (255 : Int32))), .val (.int (c2 &&& (255 : Int32))), .val (.int (c3 &&& (255 : Int32))), .unset] [(.int ((pick &&& (2147483647 : Int32)) % (12 : Int32)))]))
        obtain ⟨i12, hi12, e12⟩ := below_lit (d := 12) rfl (idxn pick 12 12 rfl (by decide))
        rw [e12]
        rcases lt12 hi12 with rfl | rfl | rfl | rfl | rfl | rfl | rfl | rfl | rfl | rfl | rfl | rfl
        · show Go p_ e_ bl_ _ (T0.setTop (mkF m_ 338 #[.val (.int mode), .val (.int pick), .val (.int pos), .val (.int c1), .val (.int c2), .val (.int c3), .val (.int ((pick &&& (2147483647 : Int32)) % (3 : Int32))), .val (.int (pos &&& (2147483647 : Int32))), .val (.int (c1 &&& (255 : Int32))), .val (.int (c2 &&& (255 : Int32))), .val (.int (c3 &&& (255 : Int32))), .unset] [(.int (0 : Int32))]))
          refine Go.st (fun _ => XS.istore W0.here W0.ex rfl (hb hby d1_338) rfl (l' := #[.val (.int mode), .val (.int pick), .val (.int pos), .val (.int c1), .val (.int c2), .val (.int c3), .val (.int ((pick &&& (2147483647 : Int32)) % (3 : Int32))), .val (.int (pos &&& (2147483647 : Int32))), .val (.int (c1 &&& (255 : Int32))), .val (.int (c2 &&& (255 : Int32))), .val (.int (c3 &&& (255 : Int32))), .val (.int (0 : Int32))]) rfl) ?_
          show Go p_ e_ bl_ _ (T0.setTop (mkF m_ 340 #[.val (.int mode), .val (.int pick), .val (.int pos), .val (.int c1), .val (.int c2), .val (.int c3), .val (.int ((pick &&& (2147483647 : Int32)) % (3 : Int32))), .val (.int (pos &&& (2147483647 : Int32))), .val (.int (c1 &&& (255 : Int32))), .val (.int (c2 &&& (255 : Int32))), .val (.int (c3 &&& (255 : Int32))), .val (.int (0 : Int32))] []))
          refine Go.st (fun _ => XS.iload W0.here W0.ex rfl (hb hby d1_340) rfl) ?_
          show Go p_ e_ bl_ _ (T0.setTop (mkF m_ 342 #[.val (.int mode), .val (.int pick), .val (.int pos), .val (.int c1), .val (.int c2), .val (.int c3), .val (.int ((pick &&& (2147483647 : Int32)) % (3 : Int32))), .val (.int (pos &&& (2147483647 : Int32))), .val (.int (c1 &&& (255 : Int32))), .val (.int (c2 &&& (255 : Int32))), .val (.int (c3 &&& (255 : Int32))), .val (.int (0 : Int32))] [(.int (0 : Int32))]))
          refine Go.st (fun _ => XS.tswIn W0.here W0.ex rfl (g := (mkF m_ 342 #[.val (.int mode), .val (.int pick), .val (.int pos), .val (.int c1), .val (.int c2), .val (.int c3), .val (.int ((pick &&& (2147483647 : Int32)) % (3 : Int32))), .val (.int (pos &&& (2147483647 : Int32))), .val (.int (c1 &&& (255 : Int32))), .val (.int (c2 &&& (255 : Int32))), .val (.int (c3 &&& (255 : Int32))), .val (.int (0 : Int32))] [(.int (0 : Int32))])) (pc0 := 342) (pc' := 400) rfl (hb hby d1_342) rfl (by decide +kernel) (o := 58) (by decide +kernel) (by decide) (by decide)) ?_
          show Go p_ e_ bl_ _ (T0.setTop (mkF m_ 400 #[.val (.int mode), .val (.int pick), .val (.int pos), .val (.int c1), .val (.int c2), .val (.int c3), .val (.int ((pick &&& (2147483647 : Int32)) % (3 : Int32))), .val (.int (pos &&& (2147483647 : Int32))), .val (.int (c1 &&& (255 : Int32))), .val (.int (c2 &&& (255 : Int32))), .val (.int (c3 &&& (255 : Int32))), .val (.int (0 : Int32))] []))
          refine W0.ldc (cx.w 116 rfl) cx.str (EL := consts_1) (List.mem_of_getElem? (i := 3) rfl) (vs := (litV 116)) (z := 4) ⟨by decide, rfl⟩ (by decide) rfl (hb hby d1_400) (j := 16) (by decide) (by decide) (k' := 2) (n' := 20) rfl rfl (by decide) (by decide) ?_
          intro vm50 T50 h50 a50 d50 kA_d50 W50 E50 E_a50 F_coder_a50 F_value_a50 V_d50 nl50
          replace K0 := K0.ext E50
          show Go p_ e_ bl_ _ (T50.setTop (mkF m_ 402 #[.val (.int mode), .val (.int pick), .val (.int pos), .val (.int c1), .val (.int c2), .val (.int c3), .val (.int ((pick &&& (2147483647 : Int32)) % (3 : Int32))), .val (.int (pos &&& (2147483647 : Int32))), .val (.int (c1 &&& (255 : Int32))), .val (.int (c2 &&& (255 : Int32))), .val (.int (c3 &&& (255 : Int32))), .val (.int (0 : Int32))] [(.ref a50)]))
          have S_a50 : StrAt Z h50 a50 d50 (litC 116) := ⟨E_a50, F_coder_a50, F_value_a50, ⟨_, V_d50⟩, (by decide +kernel : ∀ c ∈ litC 116, ¬ c < 0 ∧ ¬ (255 : Int32) < c), (by decide +kernel : (litC 116).length ≤ 4000)⟩
          exact W50.retA hret rfl rfl (hb hby d1_402) (by decide) (by decide) fun _ _ => ⟨K0, Or.inr ⟨a50, _, _, rfl, S_a50⟩⟩
        · show Go p_ e_ bl_ _ (T0.setTop (mkF m_ 338 #[.val (.int mode), .val (.int pick), .val (.int pos), .val (.int c1), .val (.int c2), .val (.int c3), .val (.int ((pick &&& (2147483647 : Int32)) % (3 : Int32))), .val (.int (pos &&& (2147483647 : Int32))), .val (.int (c1 &&& (255 : Int32))), .val (.int (c2 &&& (255 : Int32))), .val (.int (c3 &&& (255 : Int32))), .unset] [(.int (1 : Int32))]))
          refine Go.st (fun _ => XS.istore W0.here W0.ex rfl (hb hby d1_338) rfl (l' := #[.val (.int mode), .val (.int pick), .val (.int pos), .val (.int c1), .val (.int c2), .val (.int c3), .val (.int ((pick &&& (2147483647 : Int32)) % (3 : Int32))), .val (.int (pos &&& (2147483647 : Int32))), .val (.int (c1 &&& (255 : Int32))), .val (.int (c2 &&& (255 : Int32))), .val (.int (c3 &&& (255 : Int32))), .val (.int (1 : Int32))]) rfl) ?_
          show Go p_ e_ bl_ _ (T0.setTop (mkF m_ 340 #[.val (.int mode), .val (.int pick), .val (.int pos), .val (.int c1), .val (.int c2), .val (.int c3), .val (.int ((pick &&& (2147483647 : Int32)) % (3 : Int32))), .val (.int (pos &&& (2147483647 : Int32))), .val (.int (c1 &&& (255 : Int32))), .val (.int (c2 &&& (255 : Int32))), .val (.int (c3 &&& (255 : Int32))), .val (.int (1 : Int32))] []))
          refine Go.st (fun _ => XS.iload W0.here W0.ex rfl (hb hby d1_340) rfl) ?_
          show Go p_ e_ bl_ _ (T0.setTop (mkF m_ 342 #[.val (.int mode), .val (.int pick), .val (.int pos), .val (.int c1), .val (.int c2), .val (.int c3), .val (.int ((pick &&& (2147483647 : Int32)) % (3 : Int32))), .val (.int (pos &&& (2147483647 : Int32))), .val (.int (c1 &&& (255 : Int32))), .val (.int (c2 &&& (255 : Int32))), .val (.int (c3 &&& (255 : Int32))), .val (.int (1 : Int32))] [(.int (1 : Int32))]))
          refine Go.st (fun _ => XS.tswIn W0.here W0.ex rfl (g := (mkF m_ 342 #[.val (.int mode), .val (.int pick), .val (.int pos), .val (.int c1), .val (.int c2), .val (.int c3), .val (.int ((pick &&& (2147483647 : Int32)) % (3 : Int32))), .val (.int (pos &&& (2147483647 : Int32))), .val (.int (c1 &&& (255 : Int32))), .val (.int (c2 &&& (255 : Int32))), .val (.int (c3 &&& (255 : Int32))), .val (.int (1 : Int32))] [(.int (1 : Int32))])) (pc0 := 342) (pc' := 403) rfl (hb hby d1_342) rfl (by decide +kernel) (o := 61) (by decide +kernel) (by decide) (by decide)) ?_
          show Go p_ e_ bl_ _ (T0.setTop (mkF m_ 403 #[.val (.int mode), .val (.int pick), .val (.int pos), .val (.int c1), .val (.int c2), .val (.int c3), .val (.int ((pick &&& (2147483647 : Int32)) % (3 : Int32))), .val (.int (pos &&& (2147483647 : Int32))), .val (.int (c1 &&& (255 : Int32))), .val (.int (c2 &&& (255 : Int32))), .val (.int (c3 &&& (255 : Int32))), .val (.int (1 : Int32))] []))
          refine W0.ldc (cx.w 136 rfl) cx.str (EL := consts_1) (List.mem_of_getElem? (i := 4) rfl) (vs := (litV 136)) (z := 11) ⟨by decide, rfl⟩ (by decide) rfl (hb hby d1_403) (j := 44) (by decide) (by decide) (k' := 2) (n' := 48) rfl rfl (by decide) (by decide) ?_
          intro vm51 T51 h51 a51 d51 kA_d51 W51 E51 E_a51 F_coder_a51 F_value_a51 V_d51 nl51
          replace K0 := K0.ext E51
          show Go p_ e_ bl_ _ (T51.setTop (mkF m_ 405 #[.val (.int mode), .val (.int pick), .val (.int pos), .val (.int c1), .val (.int c2), .val (.int c3), .val (.int ((pick &&& (2147483647 : Int32)) % (3 : Int32))), .val (.int (pos &&& (2147483647 : Int32))), .val (.int (c1 &&& (255 : Int32))), .val (.int (c2 &&& (255 : Int32))), .val (.int (c3 &&& (255 : Int32))), .val (.int (1 : Int32))] [(.ref a51)]))
          have S_a51 : StrAt Z h51 a51 d51 (litC 136) := ⟨E_a51, F_coder_a51, F_value_a51, ⟨_, V_d51⟩, (by decide +kernel : ∀ c ∈ litC 136, ¬ c < 0 ∧ ¬ (255 : Int32) < c), (by decide +kernel : (litC 136).length ≤ 4000)⟩
          exact W51.retA hret rfl rfl (hb hby d1_405) (by decide) (by decide) fun _ _ => ⟨K0, Or.inr ⟨a51, _, _, rfl, S_a51⟩⟩
        · show Go p_ e_ bl_ _ (T0.setTop (mkF m_ 338 #[.val (.int mode), .val (.int pick), .val (.int pos), .val (.int c1), .val (.int c2), .val (.int c3), .val (.int ((pick &&& (2147483647 : Int32)) % (3 : Int32))), .val (.int (pos &&& (2147483647 : Int32))), .val (.int (c1 &&& (255 : Int32))), .val (.int (c2 &&& (255 : Int32))), .val (.int (c3 &&& (255 : Int32))), .unset] [(.int (2 : Int32))]))
          refine Go.st (fun _ => XS.istore W0.here W0.ex rfl (hb hby d1_338) rfl (l' := #[.val (.int mode), .val (.int pick), .val (.int pos), .val (.int c1), .val (.int c2), .val (.int c3), .val (.int ((pick &&& (2147483647 : Int32)) % (3 : Int32))), .val (.int (pos &&& (2147483647 : Int32))), .val (.int (c1 &&& (255 : Int32))), .val (.int (c2 &&& (255 : Int32))), .val (.int (c3 &&& (255 : Int32))), .val (.int (2 : Int32))]) rfl) ?_
          show Go p_ e_ bl_ _ (T0.setTop (mkF m_ 340 #[.val (.int mode), .val (.int pick), .val (.int pos), .val (.int c1), .val (.int c2), .val (.int c3), .val (.int ((pick &&& (2147483647 : Int32)) % (3 : Int32))), .val (.int (pos &&& (2147483647 : Int32))), .val (.int (c1 &&& (255 : Int32))), .val (.int (c2 &&& (255 : Int32))), .val (.int (c3 &&& (255 : Int32))), .val (.int (2 : Int32))] []))
          refine Go.st (fun _ => XS.iload W0.here W0.ex rfl (hb hby d1_340) rfl) ?_
          show Go p_ e_ bl_ _ (T0.setTop (mkF m_ 342 #[.val (.int mode), .val (.int pick), .val (.int pos), .val (.int c1), .val (.int c2), .val (.int c3), .val (.int ((pick &&& (2147483647 : Int32)) % (3 : Int32))), .val (.int (pos &&& (2147483647 : Int32))), .val (.int (c1 &&& (255 : Int32))), .val (.int (c2 &&& (255 : Int32))), .val (.int (c3 &&& (255 : Int32))), .val (.int (2 : Int32))] [(.int (2 : Int32))]))
          refine Go.st (fun _ => XS.tswIn W0.here W0.ex rfl (g := (mkF m_ 342 #[.val (.int mode), .val (.int pick), .val (.int pos), .val (.int c1), .val (.int c2), .val (.int c3), .val (.int ((pick &&& (2147483647 : Int32)) % (3 : Int32))), .val (.int (pos &&& (2147483647 : Int32))), .val (.int (c1 &&& (255 : Int32))), .val (.int (c2 &&& (255 : Int32))), .val (.int (c3 &&& (255 : Int32))), .val (.int (2 : Int32))] [(.int (2 : Int32))])) (pc0 := 342) (pc' := 406) rfl (hb hby d1_342) rfl (by decide +kernel) (o := 64) (by decide +kernel) (by decide) (by decide)) ?_
          show Go p_ e_ bl_ _ (T0.setTop (mkF m_ 406 #[.val (.int mode), .val (.int pick), .val (.int pos), .val (.int c1), .val (.int c2), .val (.int c3), .val (.int ((pick &&& (2147483647 : Int32)) % (3 : Int32))), .val (.int (pos &&& (2147483647 : Int32))), .val (.int (c1 &&& (255 : Int32))), .val (.int (c2 &&& (255 : Int32))), .val (.int (c3 &&& (255 : Int32))), .val (.int (2 : Int32))] []))
          refine W0.ldc (cx.w 119 rfl) cx.str (EL := consts_1) (List.mem_of_getElem? (i := 5) rfl) (vs := (litV 119)) (z := 5) ⟨by decide, rfl⟩ (by decide) rfl (hb hby d1_406) (j := 20) (by decide) (by decide) (k' := 2) (n' := 24) rfl rfl (by decide) (by decide) ?_
          intro vm52 T52 h52 a52 d52 kA_d52 W52 E52 E_a52 F_coder_a52 F_value_a52 V_d52 nl52
          replace K0 := K0.ext E52
          show Go p_ e_ bl_ _ (T52.setTop (mkF m_ 408 #[.val (.int mode), .val (.int pick), .val (.int pos), .val (.int c1), .val (.int c2), .val (.int c3), .val (.int ((pick &&& (2147483647 : Int32)) % (3 : Int32))), .val (.int (pos &&& (2147483647 : Int32))), .val (.int (c1 &&& (255 : Int32))), .val (.int (c2 &&& (255 : Int32))), .val (.int (c3 &&& (255 : Int32))), .val (.int (2 : Int32))] [(.ref a52)]))
          have S_a52 : StrAt Z h52 a52 d52 (litC 119) := ⟨E_a52, F_coder_a52, F_value_a52, ⟨_, V_d52⟩, (by decide +kernel : ∀ c ∈ litC 119, ¬ c < 0 ∧ ¬ (255 : Int32) < c), (by decide +kernel : (litC 119).length ≤ 4000)⟩
          exact W52.retA hret rfl rfl (hb hby d1_408) (by decide) (by decide) fun _ _ => ⟨K0, Or.inr ⟨a52, _, _, rfl, S_a52⟩⟩
        · show Go p_ e_ bl_ _ (T0.setTop (mkF m_ 338 #[.val (.int mode), .val (.int pick), .val (.int pos), .val (.int c1), .val (.int c2), .val (.int c3), .val (.int ((pick &&& (2147483647 : Int32)) % (3 : Int32))), .val (.int (pos &&& (2147483647 : Int32))), .val (.int (c1 &&& (255 : Int32))), .val (.int (c2 &&& (255 : Int32))), .val (.int (c3 &&& (255 : Int32))), .unset] [(.int (3 : Int32))]))
          refine Go.st (fun _ => XS.istore W0.here W0.ex rfl (hb hby d1_338) rfl (l' := #[.val (.int mode), .val (.int pick), .val (.int pos), .val (.int c1), .val (.int c2), .val (.int c3), .val (.int ((pick &&& (2147483647 : Int32)) % (3 : Int32))), .val (.int (pos &&& (2147483647 : Int32))), .val (.int (c1 &&& (255 : Int32))), .val (.int (c2 &&& (255 : Int32))), .val (.int (c3 &&& (255 : Int32))), .val (.int (3 : Int32))]) rfl) ?_
          show Go p_ e_ bl_ _ (T0.setTop (mkF m_ 340 #[.val (.int mode), .val (.int pick), .val (.int pos), .val (.int c1), .val (.int c2), .val (.int c3), .val (.int ((pick &&& (2147483647 : Int32)) % (3 : Int32))), .val (.int (pos &&& (2147483647 : Int32))), .val (.int (c1 &&& (255 : Int32))), .val (.int (c2 &&& (255 : Int32))), .val (.int (c3 &&& (255 : Int32))), .val (.int (3 : Int32))] []))
          refine Go.st (fun _ => XS.iload W0.here W0.ex rfl (hb hby d1_340) rfl) ?_
          show Go p_ e_ bl_ _ (T0.setTop (mkF m_ 342 #[.val (.int mode), .val (.int pick), .val (.int pos), .val (.int c1), .val (.int c2), .val (.int c3), .val (.int ((pick &&& (2147483647 : Int32)) % (3 : Int32))), .val (.int (pos &&& (2147483647 : Int32))), .val (.int (c1 &&& (255 : Int32))), .val (.int (c2 &&& (255 : Int32))), .val (.int (c3 &&& (255 : Int32))), .val (.int (3 : Int32))] [(.int (3 : Int32))]))
          refine Go.st (fun _ => XS.tswIn W0.here W0.ex rfl (g := (mkF m_ 342 #[.val (.int mode), .val (.int pick), .val (.int pos), .val (.int c1), .val (.int c2), .val (.int c3), .val (.int ((pick &&& (2147483647 : Int32)) % (3 : Int32))), .val (.int (pos &&& (2147483647 : Int32))), .val (.int (c1 &&& (255 : Int32))), .val (.int (c2 &&& (255 : Int32))), .val (.int (c3 &&& (255 : Int32))), .val (.int (3 : Int32))] [(.int (3 : Int32))])) (pc0 := 342) (pc' := 409) rfl (hb hby d1_342) rfl (by decide +kernel) (o := 67) (by decide +kernel) (by decide) (by decide)) ?_
          show Go p_ e_ bl_ _ (T0.setTop (mkF m_ 409 #[.val (.int mode), .val (.int pick), .val (.int pos), .val (.int c1), .val (.int c2), .val (.int c3), .val (.int ((pick &&& (2147483647 : Int32)) % (3 : Int32))), .val (.int (pos &&& (2147483647 : Int32))), .val (.int (c1 &&& (255 : Int32))), .val (.int (c2 &&& (255 : Int32))), .val (.int (c3 &&& (255 : Int32))), .val (.int (3 : Int32))] []))
          refine W0.ldc (cx.w 138 rfl) cx.str (EL := consts_1) (List.mem_of_getElem? (i := 6) rfl) (vs := (litV 138)) (z := 8) ⟨by decide, rfl⟩ (by decide) rfl (hb hby d1_409) (j := 32) (by decide) (by decide) (k' := 2) (n' := 36) rfl rfl (by decide) (by decide) ?_
          intro vm53 T53 h53 a53 d53 kA_d53 W53 E53 E_a53 F_coder_a53 F_value_a53 V_d53 nl53
          replace K0 := K0.ext E53
          show Go p_ e_ bl_ _ (T53.setTop (mkF m_ 411 #[.val (.int mode), .val (.int pick), .val (.int pos), .val (.int c1), .val (.int c2), .val (.int c3), .val (.int ((pick &&& (2147483647 : Int32)) % (3 : Int32))), .val (.int (pos &&& (2147483647 : Int32))), .val (.int (c1 &&& (255 : Int32))), .val (.int (c2 &&& (255 : Int32))), .val (.int (c3 &&& (255 : Int32))), .val (.int (3 : Int32))] [(.ref a53)]))
          have S_a53 : StrAt Z h53 a53 d53 (litC 138) := ⟨E_a53, F_coder_a53, F_value_a53, ⟨_, V_d53⟩, (by decide +kernel : ∀ c ∈ litC 138, ¬ c < 0 ∧ ¬ (255 : Int32) < c), (by decide +kernel : (litC 138).length ≤ 4000)⟩
          exact W53.retA hret rfl rfl (hb hby d1_411) (by decide) (by decide) fun _ _ => ⟨K0, Or.inr ⟨a53, _, _, rfl, S_a53⟩⟩
        · show Go p_ e_ bl_ _ (T0.setTop (mkF m_ 338 #[.val (.int mode), .val (.int pick), .val (.int pos), .val (.int c1), .val (.int c2), .val (.int c3), .val (.int ((pick &&& (2147483647 : Int32)) % (3 : Int32))), .val (.int (pos &&& (2147483647 : Int32))), .val (.int (c1 &&& (255 : Int32))), .val (.int (c2 &&& (255 : Int32))), .val (.int (c3 &&& (255 : Int32))), .unset] [(.int (4 : Int32))]))
          refine Go.st (fun _ => XS.istore W0.here W0.ex rfl (hb hby d1_338) rfl (l' := #[.val (.int mode), .val (.int pick), .val (.int pos), .val (.int c1), .val (.int c2), .val (.int c3), .val (.int ((pick &&& (2147483647 : Int32)) % (3 : Int32))), .val (.int (pos &&& (2147483647 : Int32))), .val (.int (c1 &&& (255 : Int32))), .val (.int (c2 &&& (255 : Int32))), .val (.int (c3 &&& (255 : Int32))), .val (.int (4 : Int32))]) rfl) ?_
          show Go p_ e_ bl_ _ (T0.setTop (mkF m_ 340 #[.val (.int mode), .val (.int pick), .val (.int pos), .val (.int c1), .val (.int c2), .val (.int c3), .val (.int ((pick &&& (2147483647 : Int32)) % (3 : Int32))), .val (.int (pos &&& (2147483647 : Int32))), .val (.int (c1 &&& (255 : Int32))), .val (.int (c2 &&& (255 : Int32))), .val (.int (c3 &&& (255 : Int32))), .val (.int (4 : Int32))] []))
          refine Go.st (fun _ => XS.iload W0.here W0.ex rfl (hb hby d1_340) rfl) ?_
          show Go p_ e_ bl_ _ (T0.setTop (mkF m_ 342 #[.val (.int mode), .val (.int pick), .val (.int pos), .val (.int c1), .val (.int c2), .val (.int c3), .val (.int ((pick &&& (2147483647 : Int32)) % (3 : Int32))), .val (.int (pos &&& (2147483647 : Int32))), .val (.int (c1 &&& (255 : Int32))), .val (.int (c2 &&& (255 : Int32))), .val (.int (c3 &&& (255 : Int32))), .val (.int (4 : Int32))] [(.int (4 : Int32))]))
          refine Go.st (fun _ => XS.tswIn W0.here W0.ex rfl (g := (mkF m_ 342 #[.val (.int mode), .val (.int pick), .val (.int pos), .val (.int c1), .val (.int c2), .val (.int c3), .val (.int ((pick &&& (2147483647 : Int32)) % (3 : Int32))), .val (.int (pos &&& (2147483647 : Int32))), .val (.int (c1 &&& (255 : Int32))), .val (.int (c2 &&& (255 : Int32))), .val (.int (c3 &&& (255 : Int32))), .val (.int (4 : Int32))] [(.int (4 : Int32))])) (pc0 := 342) (pc' := 412) rfl (hb hby d1_342) rfl (by decide +kernel) (o := 70) (by decide +kernel) (by decide) (by decide)) ?_
          show Go p_ e_ bl_ _ (T0.setTop (mkF m_ 412 #[.val (.int mode), .val (.int pick), .val (.int pos), .val (.int c1), .val (.int c2), .val (.int c3), .val (.int ((pick &&& (2147483647 : Int32)) % (3 : Int32))), .val (.int (pos &&& (2147483647 : Int32))), .val (.int (c1 &&& (255 : Int32))), .val (.int (c2 &&& (255 : Int32))), .val (.int (c3 &&& (255 : Int32))), .val (.int (4 : Int32))] []))
          refine W0.ldc (cx.w 140 rfl) cx.str (EL := consts_1) (List.mem_of_getElem? (i := 7) rfl) (vs := (litV 140)) (z := 4) ⟨by decide, rfl⟩ (by decide) rfl (hb hby d1_412) (j := 16) (by decide) (by decide) (k' := 2) (n' := 20) rfl rfl (by decide) (by decide) ?_
          intro vm54 T54 h54 a54 d54 kA_d54 W54 E54 E_a54 F_coder_a54 F_value_a54 V_d54 nl54
          replace K0 := K0.ext E54
          show Go p_ e_ bl_ _ (T54.setTop (mkF m_ 414 #[.val (.int mode), .val (.int pick), .val (.int pos), .val (.int c1), .val (.int c2), .val (.int c3), .val (.int ((pick &&& (2147483647 : Int32)) % (3 : Int32))), .val (.int (pos &&& (2147483647 : Int32))), .val (.int (c1 &&& (255 : Int32))), .val (.int (c2 &&& (255 : Int32))), .val (.int (c3 &&& (255 : Int32))), .val (.int (4 : Int32))] [(.ref a54)]))
          have S_a54 : StrAt Z h54 a54 d54 (litC 140) := ⟨E_a54, F_coder_a54, F_value_a54, ⟨_, V_d54⟩, (by decide +kernel : ∀ c ∈ litC 140, ¬ c < 0 ∧ ¬ (255 : Int32) < c), (by decide +kernel : (litC 140).length ≤ 4000)⟩
          exact W54.retA hret rfl rfl (hb hby d1_414) (by decide) (by decide) fun _ _ => ⟨K0, Or.inr ⟨a54, _, _, rfl, S_a54⟩⟩
        · show Go p_ e_ bl_ _ (T0.setTop (mkF m_ 338 #[.val (.int mode), .val (.int pick), .val (.int pos), .val (.int c1), .val (.int c2), .val (.int c3), .val (.int ((pick &&& (2147483647 : Int32)) % (3 : Int32))), .val (.int (pos &&& (2147483647 : Int32))), .val (.int (c1 &&& (255 : Int32))), .val (.int (c2 &&& (255 : Int32))), .val (.int (c3 &&& (255 : Int32))), .unset] [(.int (5 : Int32))]))
          refine Go.st (fun _ => XS.istore W0.here W0.ex rfl (hb hby d1_338) rfl (l' := #[.val (.int mode), .val (.int pick), .val (.int pos), .val (.int c1), .val (.int c2), .val (.int c3), .val (.int ((pick &&& (2147483647 : Int32)) % (3 : Int32))), .val (.int (pos &&& (2147483647 : Int32))), .val (.int (c1 &&& (255 : Int32))), .val (.int (c2 &&& (255 : Int32))), .val (.int (c3 &&& (255 : Int32))), .val (.int (5 : Int32))]) rfl) ?_
          show Go p_ e_ bl_ _ (T0.setTop (mkF m_ 340 #[.val (.int mode), .val (.int pick), .val (.int pos), .val (.int c1), .val (.int c2), .val (.int c3), .val (.int ((pick &&& (2147483647 : Int32)) % (3 : Int32))), .val (.int (pos &&& (2147483647 : Int32))), .val (.int (c1 &&& (255 : Int32))), .val (.int (c2 &&& (255 : Int32))), .val (.int (c3 &&& (255 : Int32))), .val (.int (5 : Int32))] []))
          refine Go.st (fun _ => XS.iload W0.here W0.ex rfl (hb hby d1_340) rfl) ?_
          show Go p_ e_ bl_ _ (T0.setTop (mkF m_ 342 #[.val (.int mode), .val (.int pick), .val (.int pos), .val (.int c1), .val (.int c2), .val (.int c3), .val (.int ((pick &&& (2147483647 : Int32)) % (3 : Int32))), .val (.int (pos &&& (2147483647 : Int32))), .val (.int (c1 &&& (255 : Int32))), .val (.int (c2 &&& (255 : Int32))), .val (.int (c3 &&& (255 : Int32))), .val (.int (5 : Int32))] [(.int (5 : Int32))]))
          refine Go.st (fun _ => XS.tswIn W0.here W0.ex rfl (g := (mkF m_ 342 #[.val (.int mode), .val (.int pick), .val (.int pos), .val (.int c1), .val (.int c2), .val (.int c3), .val (.int ((pick &&& (2147483647 : Int32)) % (3 : Int32))), .val (.int (pos &&& (2147483647 : Int32))), .val (.int (c1 &&& (255 : Int32))), .val (.int (c2 &&& (255 : Int32))), .val (.int (c3 &&& (255 : Int32))), .val (.int (5 : Int32))] [(.int (5 : Int32))])) (pc0 := 342) (pc' := 415) rfl (hb hby d1_342) rfl (by decide +kernel) (o := 73) (by decide +kernel) (by decide) (by decide)) ?_
          show Go p_ e_ bl_ _ (T0.setTop (mkF m_ 415 #[.val (.int mode), .val (.int pick), .val (.int pos), .val (.int c1), .val (.int c2), .val (.int c3), .val (.int ((pick &&& (2147483647 : Int32)) % (3 : Int32))), .val (.int (pos &&& (2147483647 : Int32))), .val (.int (c1 &&& (255 : Int32))), .val (.int (c2 &&& (255 : Int32))), .val (.int (c3 &&& (255 : Int32))), .val (.int (5 : Int32))] []))
          refine W0.ldc (cx.w 117 rfl) cx.str (EL := consts_1) (List.mem_of_getElem? (i := 8) rfl) (vs := (litV 117)) (z := 7) ⟨by decide, rfl⟩ (by decide) rfl (hb hby d1_415) (j := 28) (by decide) (by decide) (k' := 2) (n' := 32) rfl rfl (by decide) (by decide) ?_
          intro vm55 T55 h55 a55 d55 kA_d55 W55 E55 E_a55 F_coder_a55 F_value_a55 V_d55 nl55
          replace K0 := K0.ext E55
          show Go p_ e_ bl_ _ (T55.setTop (mkF m_ 417 #[.val (.int mode), .val (.int pick), .val (.int pos), .val (.int c1), .val (.int c2), .val (.int c3), .val (.int ((pick &&& (2147483647 : Int32)) % (3 : Int32))), .val (.int (pos &&& (2147483647 : Int32))), .val (.int (c1 &&& (255 : Int32))), .val (.int (c2 &&& (255 : Int32))), .val (.int (c3 &&& (255 : Int32))), .val (.int (5 : Int32))] [(.ref a55)]))
          have S_a55 : StrAt Z h55 a55 d55 (litC 117) := ⟨E_a55, F_coder_a55, F_value_a55, ⟨_, V_d55⟩, (by decide +kernel : ∀ c ∈ litC 117, ¬ c < 0 ∧ ¬ (255 : Int32) < c), (by decide +kernel : (litC 117).length ≤ 4000)⟩
          exact W55.retA hret rfl rfl (hb hby d1_417) (by decide) (by decide) fun _ _ => ⟨K0, Or.inr ⟨a55, _, _, rfl, S_a55⟩⟩
        · show Go p_ e_ bl_ _ (T0.setTop (mkF m_ 338 #[.val (.int mode), .val (.int pick), .val (.int pos), .val (.int c1), .val (.int c2), .val (.int c3), .val (.int ((pick &&& (2147483647 : Int32)) % (3 : Int32))), .val (.int (pos &&& (2147483647 : Int32))), .val (.int (c1 &&& (255 : Int32))), .val (.int (c2 &&& (255 : Int32))), .val (.int (c3 &&& (255 : Int32))), .unset] [(.int (6 : Int32))]))
          refine Go.st (fun _ => XS.istore W0.here W0.ex rfl (hb hby d1_338) rfl (l' := #[.val (.int mode), .val (.int pick), .val (.int pos), .val (.int c1), .val (.int c2), .val (.int c3), .val (.int ((pick &&& (2147483647 : Int32)) % (3 : Int32))), .val (.int (pos &&& (2147483647 : Int32))), .val (.int (c1 &&& (255 : Int32))), .val (.int (c2 &&& (255 : Int32))), .val (.int (c3 &&& (255 : Int32))), .val (.int (6 : Int32))]) rfl) ?_
          show Go p_ e_ bl_ _ (T0.setTop (mkF m_ 340 #[.val (.int mode), .val (.int pick), .val (.int pos), .val (.int c1), .val (.int c2), .val (.int c3), .val (.int ((pick &&& (2147483647 : Int32)) % (3 : Int32))), .val (.int (pos &&& (2147483647 : Int32))), .val (.int (c1 &&& (255 : Int32))), .val (.int (c2 &&& (255 : Int32))), .val (.int (c3 &&& (255 : Int32))), .val (.int (6 : Int32))] []))
          refine Go.st (fun _ => XS.iload W0.here W0.ex rfl (hb hby d1_340) rfl) ?_
          show Go p_ e_ bl_ _ (T0.setTop (mkF m_ 342 #[.val (.int mode), .val (.int pick), .val (.int pos), .val (.int c1), .val (.int c2), .val (.int c3), .val (.int ((pick &&& (2147483647 : Int32)) % (3 : Int32))), .val (.int (pos &&& (2147483647 : Int32))), .val (.int (c1 &&& (255 : Int32))), .val (.int (c2 &&& (255 : Int32))), .val (.int (c3 &&& (255 : Int32))), .val (.int (6 : Int32))] [(.int (6 : Int32))]))
          refine Go.st (fun _ => XS.tswIn W0.here W0.ex rfl (g := (mkF m_ 342 #[.val (.int mode), .val (.int pick), .val (.int pos), .val (.int c1), .val (.int c2), .val (.int c3), .val (.int ((pick &&& (2147483647 : Int32)) % (3 : Int32))), .val (.int (pos &&& (2147483647 : Int32))), .val (.int (c1 &&& (255 : Int32))), .val (.int (c2 &&& (255 : Int32))), .val (.int (c3 &&& (255 : Int32))), .val (.int (6 : Int32))] [(.int (6 : Int32))])) (pc0 := 342) (pc' := 418) rfl (hb hby d1_342) rfl (by decide +kernel) (o := 76) (by decide +kernel) (by decide) (by decide)) ?_
          show Go p_ e_ bl_ _ (T0.setTop (mkF m_ 418 #[.val (.int mode), .val (.int pick), .val (.int pos), .val (.int c1), .val (.int c2), .val (.int c3), .val (.int ((pick &&& (2147483647 : Int32)) % (3 : Int32))), .val (.int (pos &&& (2147483647 : Int32))), .val (.int (c1 &&& (255 : Int32))), .val (.int (c2 &&& (255 : Int32))), .val (.int (c3 &&& (255 : Int32))), .val (.int (6 : Int32))] []))
          refine W0.ldc (cx.w 137 rfl) cx.str (EL := consts_1) (List.mem_of_getElem? (i := 9) rfl) (vs := (litV 137)) (z := 9) ⟨by decide, rfl⟩ (by decide) rfl (hb hby d1_418) (j := 36) (by decide) (by decide) (k' := 2) (n' := 40) rfl rfl (by decide) (by decide) ?_
          intro vm56 T56 h56 a56 d56 kA_d56 W56 E56 E_a56 F_coder_a56 F_value_a56 V_d56 nl56
          replace K0 := K0.ext E56
          show Go p_ e_ bl_ _ (T56.setTop (mkF m_ 420 #[.val (.int mode), .val (.int pick), .val (.int pos), .val (.int c1), .val (.int c2), .val (.int c3), .val (.int ((pick &&& (2147483647 : Int32)) % (3 : Int32))), .val (.int (pos &&& (2147483647 : Int32))), .val (.int (c1 &&& (255 : Int32))), .val (.int (c2 &&& (255 : Int32))), .val (.int (c3 &&& (255 : Int32))), .val (.int (6 : Int32))] [(.ref a56)]))
          have S_a56 : StrAt Z h56 a56 d56 (litC 137) := ⟨E_a56, F_coder_a56, F_value_a56, ⟨_, V_d56⟩, (by decide +kernel : ∀ c ∈ litC 137, ¬ c < 0 ∧ ¬ (255 : Int32) < c), (by decide +kernel : (litC 137).length ≤ 4000)⟩
          exact W56.retA hret rfl rfl (hb hby d1_420) (by decide) (by decide) fun _ _ => ⟨K0, Or.inr ⟨a56, _, _, rfl, S_a56⟩⟩
        · show Go p_ e_ bl_ _ (T0.setTop (mkF m_ 338 #[.val (.int mode), .val (.int pick), .val (.int pos), .val (.int c1), .val (.int c2), .val (.int c3), .val (.int ((pick &&& (2147483647 : Int32)) % (3 : Int32))), .val (.int (pos &&& (2147483647 : Int32))), .val (.int (c1 &&& (255 : Int32))), .val (.int (c2 &&& (255 : Int32))), .val (.int (c3 &&& (255 : Int32))), .unset] [(.int (7 : Int32))]))
          refine Go.st (fun _ => XS.istore W0.here W0.ex rfl (hb hby d1_338) rfl (l' := #[.val (.int mode), .val (.int pick), .val (.int pos), .val (.int c1), .val (.int c2), .val (.int c3), .val (.int ((pick &&& (2147483647 : Int32)) % (3 : Int32))), .val (.int (pos &&& (2147483647 : Int32))), .val (.int (c1 &&& (255 : Int32))), .val (.int (c2 &&& (255 : Int32))), .val (.int (c3 &&& (255 : Int32))), .val (.int (7 : Int32))]) rfl) ?_
          show Go p_ e_ bl_ _ (T0.setTop (mkF m_ 340 #[.val (.int mode), .val (.int pick), .val (.int pos), .val (.int c1), .val (.int c2), .val (.int c3), .val (.int ((pick &&& (2147483647 : Int32)) % (3 : Int32))), .val (.int (pos &&& (2147483647 : Int32))), .val (.int (c1 &&& (255 : Int32))), .val (.int (c2 &&& (255 : Int32))), .val (.int (c3 &&& (255 : Int32))), .val (.int (7 : Int32))] []))
          refine Go.st (fun _ => XS.iload W0.here W0.ex rfl (hb hby d1_340) rfl) ?_
          show Go p_ e_ bl_ _ (T0.setTop (mkF m_ 342 #[.val (.int mode), .val (.int pick), .val (.int pos), .val (.int c1), .val (.int c2), .val (.int c3), .val (.int ((pick &&& (2147483647 : Int32)) % (3 : Int32))), .val (.int (pos &&& (2147483647 : Int32))), .val (.int (c1 &&& (255 : Int32))), .val (.int (c2 &&& (255 : Int32))), .val (.int (c3 &&& (255 : Int32))), .val (.int (7 : Int32))] [(.int (7 : Int32))]))
          refine Go.st (fun _ => XS.tswIn W0.here W0.ex rfl (g := (mkF m_ 342 #[.val (.int mode), .val (.int pick), .val (.int pos), .val (.int c1), .val (.int c2), .val (.int c3), .val (.int ((pick &&& (2147483647 : Int32)) % (3 : Int32))), .val (.int (pos &&& (2147483647 : Int32))), .val (.int (c1 &&& (255 : Int32))), .val (.int (c2 &&& (255 : Int32))), .val (.int (c3 &&& (255 : Int32))), .val (.int (7 : Int32))] [(.int (7 : Int32))])) (pc0 := 342) (pc' := 421) rfl (hb hby d1_342) rfl (by decide +kernel) (o := 79) (by decide +kernel) (by decide) (by decide)) ?_
          show Go p_ e_ bl_ _ (T0.setTop (mkF m_ 421 #[.val (.int mode), .val (.int pick), .val (.int pos), .val (.int c1), .val (.int c2), .val (.int c3), .val (.int ((pick &&& (2147483647 : Int32)) % (3 : Int32))), .val (.int (pos &&& (2147483647 : Int32))), .val (.int (c1 &&& (255 : Int32))), .val (.int (c2 &&& (255 : Int32))), .val (.int (c3 &&& (255 : Int32))), .val (.int (7 : Int32))] []))
          refine W0.ldc (cx.w 121 rfl) cx.str (EL := consts_1) (List.mem_of_getElem? (i := 10) rfl) (vs := (litV 121)) (z := 9) ⟨by decide, rfl⟩ (by decide) rfl (hb hby d1_421) (j := 36) (by decide) (by decide) (k' := 2) (n' := 40) rfl rfl (by decide) (by decide) ?_
          intro vm57 T57 h57 a57 d57 kA_d57 W57 E57 E_a57 F_coder_a57 F_value_a57 V_d57 nl57
          replace K0 := K0.ext E57
          show Go p_ e_ bl_ _ (T57.setTop (mkF m_ 423 #[.val (.int mode), .val (.int pick), .val (.int pos), .val (.int c1), .val (.int c2), .val (.int c3), .val (.int ((pick &&& (2147483647 : Int32)) % (3 : Int32))), .val (.int (pos &&& (2147483647 : Int32))), .val (.int (c1 &&& (255 : Int32))), .val (.int (c2 &&& (255 : Int32))), .val (.int (c3 &&& (255 : Int32))), .val (.int (7 : Int32))] [(.ref a57)]))
          have S_a57 : StrAt Z h57 a57 d57 (litC 121) := ⟨E_a57, F_coder_a57, F_value_a57, ⟨_, V_d57⟩, (by decide +kernel : ∀ c ∈ litC 121, ¬ c < 0 ∧ ¬ (255 : Int32) < c), (by decide +kernel : (litC 121).length ≤ 4000)⟩
          exact W57.retA hret rfl rfl (hb hby d1_423) (by decide) (by decide) fun _ _ => ⟨K0, Or.inr ⟨a57, _, _, rfl, S_a57⟩⟩
        · show Go p_ e_ bl_ _ (T0.setTop (mkF m_ 338 #[.val (.int mode), .val (.int pick), .val (.int pos), .val (.int c1), .val (.int c2), .val (.int c3), .val (.int ((pick &&& (2147483647 : Int32)) % (3 : Int32))), .val (.int (pos &&& (2147483647 : Int32))), .val (.int (c1 &&& (255 : Int32))), .val (.int (c2 &&& (255 : Int32))), .val (.int (c3 &&& (255 : Int32))), .unset] [(.int (8 : Int32))]))
          refine Go.st (fun _ => XS.istore W0.here W0.ex rfl (hb hby d1_338) rfl (l' := #[.val (.int mode), .val (.int pick), .val (.int pos), .val (.int c1), .val (.int c2), .val (.int c3), .val (.int ((pick &&& (2147483647 : Int32)) % (3 : Int32))), .val (.int (pos &&& (2147483647 : Int32))), .val (.int (c1 &&& (255 : Int32))), .val (.int (c2 &&& (255 : Int32))), .val (.int (c3 &&& (255 : Int32))), .val (.int (8 : Int32))]) rfl) ?_
          show Go p_ e_ bl_ _ (T0.setTop (mkF m_ 340 #[.val (.int mode), .val (.int pick), .val (.int pos), .val (.int c1), .val (.int c2), .val (.int c3), .val (.int ((pick &&& (2147483647 : Int32)) % (3 : Int32))), .val (.int (pos &&& (2147483647 : Int32))), .val (.int (c1 &&& (255 : Int32))), .val (.int (c2 &&& (255 : Int32))), .val (.int (c3 &&& (255 : Int32))), .val (.int (8 : Int32))] []))
          refine Go.st (fun _ => XS.iload W0.here W0.ex rfl (hb hby d1_340) rfl) ?_
          show Go p_ e_ bl_ _ (T0.setTop (mkF m_ 342 #[.val (.int mode), .val (.int pick), .val (.int pos), .val (.int c1), .val (.int c2), .val (.int c3), .val (.int ((pick &&& (2147483647 : Int32)) % (3 : Int32))), .val (.int (pos &&& (2147483647 : Int32))), .val (.int (c1 &&& (255 : Int32))), .val (.int (c2 &&& (255 : Int32))), .val (.int (c3 &&& (255 : Int32))), .val (.int (8 : Int32))] [(.int (8 : Int32))]))
          refine Go.st (fun _ => XS.tswIn W0.here W0.ex rfl (g := (mkF m_ 342 #[.val (.int mode), .val (.int pick), .val (.int pos), .val (.int c1), .val (.int c2), .val (.int c3), .val (.int ((pick &&& (2147483647 : Int32)) % (3 : Int32))), .val (.int (pos &&& (2147483647 : Int32))), .val (.int (c1 &&& (255 : Int32))), .val (.int (c2 &&& (255 : Int32))), .val (.int (c3 &&& (255 : Int32))), .val (.int (8 : Int32))] [(.int (8 : Int32))])) (pc0 := 342) (pc' := 424) rfl (hb hby d1_342) rfl (by decide +kernel) (o := 82) (by decide +kernel) (by decide) (by decide)) ?_
          show Go p_ e_ bl_ _ (T0.setTop (mkF m_ 424 #[.val (.int mode), .val (.int pick), .val (.int pos), .val (.int c1), .val (.int c2), .val (.int c3), .val (.int ((pick &&& (2147483647 : Int32)) % (3 : Int32))), .val (.int (pos &&& (2147483647 : Int32))), .val (.int (c1 &&& (255 : Int32))), .val (.int (c2 &&& (255 : Int32))), .val (.int (c3 &&& (255 : Int32))), .val (.int (8 : Int32))] []))
          refine W0.ldc (cx.w 139 rfl) cx.str (EL := consts_1) (List.mem_of_getElem? (i := 11) rfl) (vs := (litV 139)) (z := 15) ⟨by decide, rfl⟩ (by decide) rfl (hb hby d1_424) (j := 60) (by decide) (by decide) (k' := 2) (n' := 64) rfl rfl (by decide) (by decide) ?_
          intro vm58 T58 h58 a58 d58 kA_d58 W58 E58 E_a58 F_coder_a58 F_value_a58 V_d58 nl58
          replace K0 := K0.ext E58
          show Go p_ e_ bl_ _ (T58.setTop (mkF m_ 426 #[.val (.int mode), .val (.int pick), .val (.int pos), .val (.int c1), .val (.int c2), .val (.int c3), .val (.int ((pick &&& (2147483647 : Int32)) % (3 : Int32))), .val (.int (pos &&& (2147483647 : Int32))), .val (.int (c1 &&& (255 : Int32))), .val (.int (c2 &&& (255 : Int32))), .val (.int (c3 &&& (255 : Int32))), .val (.int (8 : Int32))] [(.ref a58)]))
          have S_a58 : StrAt Z h58 a58 d58 (litC 139) := ⟨E_a58, F_coder_a58, F_value_a58, ⟨_, V_d58⟩, (by decide +kernel : ∀ c ∈ litC 139, ¬ c < 0 ∧ ¬ (255 : Int32) < c), (by decide +kernel : (litC 139).length ≤ 4000)⟩
          exact W58.retA hret rfl rfl (hb hby d1_426) (by decide) (by decide) fun _ _ => ⟨K0, Or.inr ⟨a58, _, _, rfl, S_a58⟩⟩
        · show Go p_ e_ bl_ _ (T0.setTop (mkF m_ 338 #[.val (.int mode), .val (.int pick), .val (.int pos), .val (.int c1), .val (.int c2), .val (.int c3), .val (.int ((pick &&& (2147483647 : Int32)) % (3 : Int32))), .val (.int (pos &&& (2147483647 : Int32))), .val (.int (c1 &&& (255 : Int32))), .val (.int (c2 &&& (255 : Int32))), .val (.int (c3 &&& (255 : Int32))), .unset] [(.int (9 : Int32))]))
          refine Go.st (fun _ => XS.istore W0.here W0.ex rfl (hb hby d1_338) rfl (l' := #[.val (.int mode), .val (.int pick), .val (.int pos), .val (.int c1), .val (.int c2), .val (.int c3), .val (.int ((pick &&& (2147483647 : Int32)) % (3 : Int32))), .val (.int (pos &&& (2147483647 : Int32))), .val (.int (c1 &&& (255 : Int32))), .val (.int (c2 &&& (255 : Int32))), .val (.int (c3 &&& (255 : Int32))), .val (.int (9 : Int32))]) rfl) ?_
          show Go p_ e_ bl_ _ (T0.setTop (mkF m_ 340 #[.val (.int mode), .val (.int pick), .val (.int pos), .val (.int c1), .val (.int c2), .val (.int c3), .val (.int ((pick &&& (2147483647 : Int32)) % (3 : Int32))), .val (.int (pos &&& (2147483647 : Int32))), .val (.int (c1 &&& (255 : Int32))), .val (.int (c2 &&& (255 : Int32))), .val (.int (c3 &&& (255 : Int32))), .val (.int (9 : Int32))] []))
          refine Go.st (fun _ => XS.iload W0.here W0.ex rfl (hb hby d1_340) rfl) ?_
          show Go p_ e_ bl_ _ (T0.setTop (mkF m_ 342 #[.val (.int mode), .val (.int pick), .val (.int pos), .val (.int c1), .val (.int c2), .val (.int c3), .val (.int ((pick &&& (2147483647 : Int32)) % (3 : Int32))), .val (.int (pos &&& (2147483647 : Int32))), .val (.int (c1 &&& (255 : Int32))), .val (.int (c2 &&& (255 : Int32))), .val (.int (c3 &&& (255 : Int32))), .val (.int (9 : Int32))] [(.int (9 : Int32))]))
          refine Go.st (fun _ => XS.tswIn W0.here W0.ex rfl (g := (mkF m_ 342 #[.val (.int mode), .val (.int pick), .val (.int pos), .val (.int c1), .val (.int c2), .val (.int c3), .val (.int ((pick &&& (2147483647 : Int32)) % (3 : Int32))), .val (.int (pos &&& (2147483647 : Int32))), .val (.int (c1 &&& (255 : Int32))), .val (.int (c2 &&& (255 : Int32))), .val (.int (c3 &&& (255 : Int32))), .val (.int (9 : Int32))] [(.int (9 : Int32))])) (pc0 := 342) (pc' := 427) rfl (hb hby d1_342) rfl (by decide +kernel) (o := 85) (by decide +kernel) (by decide) (by decide)) ?_
          show Go p_ e_ bl_ _ (T0.setTop (mkF m_ 427 #[.val (.int mode), .val (.int pick), .val (.int pos), .val (.int c1), .val (.int c2), .val (.int c3), .val (.int ((pick &&& (2147483647 : Int32)) % (3 : Int32))), .val (.int (pos &&& (2147483647 : Int32))), .val (.int (c1 &&& (255 : Int32))), .val (.int (c2 &&& (255 : Int32))), .val (.int (c3 &&& (255 : Int32))), .val (.int (9 : Int32))] []))
          refine W0.ldc (cx.w 122 rfl) cx.str (EL := consts_1) (List.mem_of_getElem? (i := 12) rfl) (vs := []) (z := 0) ⟨by decide, rfl⟩ (by decide) rfl (hb hby d1_427) (j := 0) (by decide) (by decide) (k' := 2) (n' := 4) rfl rfl (by decide) (by decide) ?_
          intro vm59 T59 h59 a59 d59 kA_d59 W59 E59 E_a59 F_coder_a59 F_value_a59 V_d59 nl59
          replace K0 := K0.ext E59
          show Go p_ e_ bl_ _ (T59.setTop (mkF m_ 429 #[.val (.int mode), .val (.int pick), .val (.int pos), .val (.int c1), .val (.int c2), .val (.int c3), .val (.int ((pick &&& (2147483647 : Int32)) % (3 : Int32))), .val (.int (pos &&& (2147483647 : Int32))), .val (.int (c1 &&& (255 : Int32))), .val (.int (c2 &&& (255 : Int32))), .val (.int (c3 &&& (255 : Int32))), .val (.int (9 : Int32))] [(.ref a59)]))
          have S_a59 : StrAt Z h59 a59 d59 (litC 122) := ⟨E_a59, F_coder_a59, F_value_a59, ⟨_, V_d59⟩, (by decide +kernel : ∀ c ∈ litC 122, ¬ c < 0 ∧ ¬ (255 : Int32) < c), (by decide +kernel : (litC 122).length ≤ 4000)⟩
          exact W59.retA hret rfl rfl (hb hby d1_429) (by decide) (by decide) fun _ _ => ⟨K0, Or.inr ⟨a59, _, _, rfl, S_a59⟩⟩
        · show Go p_ e_ bl_ _ (T0.setTop (mkF m_ 338 #[.val (.int mode), .val (.int pick), .val (.int pos), .val (.int c1), .val (.int c2), .val (.int c3), .val (.int ((pick &&& (2147483647 : Int32)) % (3 : Int32))), .val (.int (pos &&& (2147483647 : Int32))), .val (.int (c1 &&& (255 : Int32))), .val (.int (c2 &&& (255 : Int32))), .val (.int (c3 &&& (255 : Int32))), .unset] [(.int (10 : Int32))]))
          refine Go.st (fun _ => XS.istore W0.here W0.ex rfl (hb hby d1_338) rfl (l' := #[.val (.int mode), .val (.int pick), .val (.int pos), .val (.int c1), .val (.int c2), .val (.int c3), .val (.int ((pick &&& (2147483647 : Int32)) % (3 : Int32))), .val (.int (pos &&& (2147483647 : Int32))), .val (.int (c1 &&& (255 : Int32))), .val (.int (c2 &&& (255 : Int32))), .val (.int (c3 &&& (255 : Int32))), .val (.int (10 : Int32))]) rfl) ?_
          show Go p_ e_ bl_ _ (T0.setTop (mkF m_ 340 #[.val (.int mode), .val (.int pick), .val (.int pos), .val (.int c1), .val (.int c2), .val (.int c3), .val (.int ((pick &&& (2147483647 : Int32)) % (3 : Int32))), .val (.int (pos &&& (2147483647 : Int32))), .val (.int (c1 &&& (255 : Int32))), .val (.int (c2 &&& (255 : Int32))), .val (.int (c3 &&& (255 : Int32))), .val (.int (10 : Int32))] []))
          refine Go.st (fun _ => XS.iload W0.here W0.ex rfl (hb hby d1_340) rfl) ?_
          show Go p_ e_ bl_ _ (T0.setTop (mkF m_ 342 #[.val (.int mode), .val (.int pick), .val (.int pos), .val (.int c1), .val (.int c2), .val (.int c3), .val (.int ((pick &&& (2147483647 : Int32)) % (3 : Int32))), .val (.int (pos &&& (2147483647 : Int32))), .val (.int (c1 &&& (255 : Int32))), .val (.int (c2 &&& (255 : Int32))), .val (.int (c3 &&& (255 : Int32))), .val (.int (10 : Int32))] [(.int (10 : Int32))]))
          refine Go.st (fun _ => XS.tswIn W0.here W0.ex rfl (g := (mkF m_ 342 #[.val (.int mode), .val (.int pick), .val (.int pos), .val (.int c1), .val (.int c2), .val (.int c3), .val (.int ((pick &&& (2147483647 : Int32)) % (3 : Int32))), .val (.int (pos &&& (2147483647 : Int32))), .val (.int (c1 &&& (255 : Int32))), .val (.int (c2 &&& (255 : Int32))), .val (.int (c3 &&& (255 : Int32))), .val (.int (10 : Int32))] [(.int (10 : Int32))])) (pc0 := 342) (pc' := 430) rfl (hb hby d1_342) rfl (by decide +kernel) (o := 88) (by decide +kernel) (by decide) (by decide)) ?_
          show Go p_ e_ bl_ _ (T0.setTop (mkF m_ 430 #[.val (.int mode), .val (.int pick), .val (.int pos), .val (.int c1), .val (.int c2), .val (.int c3), .val (.int ((pick &&& (2147483647 : Int32)) % (3 : Int32))), .val (.int (pos &&& (2147483647 : Int32))), .val (.int (c1 &&& (255 : Int32))), .val (.int (c2 &&& (255 : Int32))), .val (.int (c3 &&& (255 : Int32))), .val (.int (10 : Int32))] []))
          refine W0.ldc (cx.w 123 rfl) cx.str (EL := consts_1) (List.mem_of_getElem? (i := 13) rfl) (vs := (litV 123)) (z := 8) ⟨by decide, rfl⟩ (by decide) rfl (hb hby d1_430) (j := 32) (by decide) (by decide) (k' := 2) (n' := 36) rfl rfl (by decide) (by decide) ?_
          intro vm60 T60 h60 a60 d60 kA_d60 W60 E60 E_a60 F_coder_a60 F_value_a60 V_d60 nl60
          replace K0 := K0.ext E60
          show Go p_ e_ bl_ _ (T60.setTop (mkF m_ 432 #[.val (.int mode), .val (.int pick), .val (.int pos), .val (.int c1), .val (.int c2), .val (.int c3), .val (.int ((pick &&& (2147483647 : Int32)) % (3 : Int32))), .val (.int (pos &&& (2147483647 : Int32))), .val (.int (c1 &&& (255 : Int32))), .val (.int (c2 &&& (255 : Int32))), .val (.int (c3 &&& (255 : Int32))), .val (.int (10 : Int32))] [(.ref a60)]))
          have S_a60 : StrAt Z h60 a60 d60 (litC 123) := ⟨E_a60, F_coder_a60, F_value_a60, ⟨_, V_d60⟩, (by decide +kernel : ∀ c ∈ litC 123, ¬ c < 0 ∧ ¬ (255 : Int32) < c), (by decide +kernel : (litC 123).length ≤ 4000)⟩
          exact W60.retA hret rfl rfl (hb hby d1_432) (by decide) (by decide) fun _ _ => ⟨K0, Or.inr ⟨a60, _, _, rfl, S_a60⟩⟩
        · show Go p_ e_ bl_ _ (T0.setTop (mkF m_ 338 #[.val (.int mode), .val (.int pick), .val (.int pos), .val (.int c1), .val (.int c2), .val (.int c3), .val (.int ((pick &&& (2147483647 : Int32)) % (3 : Int32))), .val (.int (pos &&& (2147483647 : Int32))), .val (.int (c1 &&& (255 : Int32))), .val (.int (c2 &&& (255 : Int32))), .val (.int (c3 &&& (255 : Int32))), .unset] [(.int (11 : Int32))]))
          refine Go.st (fun _ => XS.istore W0.here W0.ex rfl (hb hby d1_338) rfl (l' := #[.val (.int mode), .val (.int pick), .val (.int pos), .val (.int c1), .val (.int c2), .val (.int c3), .val (.int ((pick &&& (2147483647 : Int32)) % (3 : Int32))), .val (.int (pos &&& (2147483647 : Int32))), .val (.int (c1 &&& (255 : Int32))), .val (.int (c2 &&& (255 : Int32))), .val (.int (c3 &&& (255 : Int32))), .val (.int (11 : Int32))]) rfl) ?_
          show Go p_ e_ bl_ _ (T0.setTop (mkF m_ 340 #[.val (.int mode), .val (.int pick), .val (.int pos), .val (.int c1), .val (.int c2), .val (.int c3), .val (.int ((pick &&& (2147483647 : Int32)) % (3 : Int32))), .val (.int (pos &&& (2147483647 : Int32))), .val (.int (c1 &&& (255 : Int32))), .val (.int (c2 &&& (255 : Int32))), .val (.int (c3 &&& (255 : Int32))), .val (.int (11 : Int32))] []))
          refine Go.st (fun _ => XS.iload W0.here W0.ex rfl (hb hby d1_340) rfl) ?_
          show Go p_ e_ bl_ _ (T0.setTop (mkF m_ 342 #[.val (.int mode), .val (.int pick), .val (.int pos), .val (.int c1), .val (.int c2), .val (.int c3), .val (.int ((pick &&& (2147483647 : Int32)) % (3 : Int32))), .val (.int (pos &&& (2147483647 : Int32))), .val (.int (c1 &&& (255 : Int32))), .val (.int (c2 &&& (255 : Int32))), .val (.int (c3 &&& (255 : Int32))), .val (.int (11 : Int32))] [(.int (11 : Int32))]))
          refine Go.st (fun _ => XS.tswOut W0.here W0.ex rfl (g := (mkF m_ 342 #[.val (.int mode), .val (.int pick), .val (.int pos), .val (.int c1), .val (.int c2), .val (.int c3), .val (.int ((pick &&& (2147483647 : Int32)) % (3 : Int32))), .val (.int (pos &&& (2147483647 : Int32))), .val (.int (c1 &&& (255 : Int32))), .val (.int (c2 &&& (255 : Int32))), .val (.int (c3 &&& (255 : Int32))), .val (.int (11 : Int32))] [(.int (11 : Int32))])) (pc0 := 342) (pc' := 433) rfl (hb hby d1_342) rfl (by decide +kernel) (by decide) (by decide)) ?_
          show Go p_ e_ bl_ _ (T0.setTop (mkF m_ 433 #[.val (.int mode), .val (.int pick), .val (.int pos), .val (.int c1), .val (.int c2), .val (.int c3), .val (.int ((pick &&& (2147483647 : Int32)) % (3 : Int32))), .val (.int (pos &&& (2147483647 : Int32))), .val (.int (c1 &&& (255 : Int32))), .val (.int (c2 &&& (255 : Int32))), .val (.int (c3 &&& (255 : Int32))), .val (.int (11 : Int32))] []))
          refine Go.st (fun _ => XS.aconstNull W0.here W0.ex rfl (hb hby d1_433)) ?_
          show Go p_ e_ bl_ _ (T0.setTop (mkF m_ 434 #[.val (.int mode), .val (.int pick), .val (.int pos), .val (.int c1), .val (.int c2), .val (.int c3), .val (.int ((pick &&& (2147483647 : Int32)) % (3 : Int32))), .val (.int (pos &&& (2147483647 : Int32))), .val (.int (c1 &&& (255 : Int32))), .val (.int (c2 &&& (255 : Int32))), .val (.int (c3 &&& (255 : Int32))), .val (.int (11 : Int32))] [.null]))
          exact W0.retA hret rfl rfl (hb hby d1_434) (by decide) (by decide) fun _ _ => ⟨K0, Or.inl rfl⟩
      · refine Go.st (fun _ => XS.icmpYes W0.here W0.ex rfl (pc0 := 328) (pc' := 435) rfl (hb hby d1_328) rfl (feq (hm2 : ¬ (mode = (2 : Int32)))).2 (by decide) (by decide)) ?_
        show Go p_ e_ bl_ _ (T0.setTop (mkF m_ 435 #[.val (.int mode), .val (.int pick), .val (.int pos), .val (.int c1), .val (.int c2), .val (.int c3), .val (.int ((pick &&& (2147483647 : Int32)) % (3 : Int32))), .val (.int (pos &&& (2147483647 : Int32))), .val (.int (c1 &&& (255 : Int32))), .val (.int (c2 &&& (255 : Int32))), .val (.int (c3 &&& (255 : Int32))), .unset] []))
        refine Go.st (fun _ => XS.iloadN W0.here W0.ex rfl (hb hby d1_435) rfl) ?_
        show Go p_ e_ bl_ _ (T0.setTop (mkF m_ 436 #[.val (.int mode), .val (.int pick), .val (.int pos), .val (.int c1), .val (.int c2), .val (.int c3), .val (.int ((pick &&& (2147483647 : Int32)) % (3 : Int32))), .val (.int (pos &&& (2147483647 : Int32))), .val (.int (c1 &&& (255 : Int32))), .val (.int (c2 &&& (255 : Int32))), .val (.int (c3 &&& (255 : Int32))), .unset] [(.int pick)]))
        refine Go.st (fun _ => XS.iconst W0.here W0.ex rfl (hb hby d1_436)) ?_
        show Go p_ e_ bl_ _ (T0.setTop (mkF m_ 437 #[.val (.int mode), .val (.int pick), .val (.int pos), .val (.int c1), .val (.int c2), .val (.int c3), .val (.int ((pick &&& (2147483647 : Int32)) % (3 : Int32))), .val (.int (pos &&& (2147483647 : Int32))), .val (.int (c1 &&& (255 : Int32))), .val (.int (c2 &&& (255 : Int32))), .val (.int (c3 &&& (255 : Int32))), .unset] [(.int (3 : Int32)), (.int pick)]))
        refine Go.st (fun _ => XS.iand W0.here W0.ex rfl (hb hby d1_437) rfl) ?_
        show Go p_ e_ bl_ _ (T0.setTop (mkF m_ 438 #[.val (.int mode), .val (.int pick), .val (.int pos), .val (.int c1), .val (.int c2), .val (.int c3), .val (.int ((pick &&& (2147483647 : Int32)) % (3 : Int32))), .val (.int (pos &&& (2147483647 : Int32))), .val (.int (c1 &&& (255 : Int32))), .val (.int (c2 &&& (255 : Int32))), .val (.int (c3 &&& (255 : Int32))), .unset] [(.int (pick &&& (3 : Int32)))]))
        refine Go.st (fun _ => XS.istore W0.here W0.ex rfl (hb hby d1_438) rfl (l' := #[.val (.int mode), .val (.int pick), .val (.int pos), .val (.int c1), .val (.int c2), .val (.int c3), .val (.int ((pick &&& (2147483647 : Int32)) % (3 : Int32))), .val (.int (pos &&& (2147483647 : Int32))), .val (.int (c1 &&& (255 : Int32))), .val (.int (c2 &&& (255 : Int32))), .val (.int (c3 &&& (255 : Int32))), .val (.int (pick &&& (3 : Int32)))]) rfl) ?_
        show Go p_ e_ bl_ _ (T0.setTop (mkF m_ 440 #[.val (.int mode), .val (.int pick), .val (.int pos), .val (.int c1), .val (.int c2), .val (.int c3), .val (.int ((pick &&& (2147483647 : Int32)) % (3 : Int32))), .val (.int (pos &&& (2147483647 : Int32))), .val (.int (c1 &&& (255 : Int32))), .val (.int (c2 &&& (255 : Int32))), .val (.int (c3 &&& (255 : Int32))), .val (.int (pick &&& (3 : Int32)))] []))
        refine Go.st (fun _ => XS.iload W0.here W0.ex rfl (hb hby d1_440) rfl) ?_
        show Go p_ e_ bl_ _ (T0.setTop (mkF m_ 442 #[.val (.int mode), .val (.int pick), .val (.int pos), .val (.int c1), .val (.int c2), .val (.int c3), .val (.int ((pick &&& (2147483647 : Int32)) % (3 : Int32))), .val (.int (pos &&& (2147483647 : Int32))), .val (.int (c1 &&& (255 : Int32))), .val (.int (c2 &&& (255 : Int32))), .val (.int (c3 &&& (255 : Int32))), .val (.int (pick &&& (3 : Int32)))] [(.int (pick &&& (3 : Int32)))]))
        by_cases hn0 : (pick &&& (3 : Int32)) = (0 : Int32)
        · refine Go.st (fun _ => XS.ifNo W0.here W0.ex rfl (hb hby d1_442) rfl ((if0 _ _).trans (teq (hn0 : (pick &&& (3 : Int32)) = (0 : Int32))).2)) ?_
          show Go p_ e_ bl_ _ (T0.setTop (mkF m_ 445 #[.val (.int mode), .val (.int pick), .val (.int pos), .val (.int c1), .val (.int c2), .val (.int c3), .val (.int ((pick &&& (2147483647 : Int32)) % (3 : Int32))), .val (.int (pos &&& (2147483647 : Int32))), .val (.int (c1 &&& (255 : Int32))), .val (.int (c2 &&& (255 : Int32))), .val (.int (c3 &&& (255 : Int32))), .val (.int (pick &&& (3 : Int32)))] []))
          refine W0.newO (cx.w 93 rfl) (cx.w 7 rfl) (cx.w 6 rfl) (hb hby d1_445) (k' := 1) (n' := 4) rfl rfl (by decide) (by decide) ?_
          intro T61 h61 b61 hb61 g_b61 W61 E61 E_b61 D61
          have sz_b61 : h.size ≤ b61 := Nat.le_trans K0.1 (Nat.le_of_eq hb61.symm)
          replace K0 := K0.ext E61
          have F_value_b61 : Fld Z h61 b61 "java/lang/String" "value" "[B" .null := D61 (Or.inr (cx.w 9 rfl)) (ty := (.array .byte)) (by decide)
          have F_coder_b61 : Fld Z h61 b61 "java/lang/String" "coder" "B" (.int (0 : Int32)) := D61 (Or.inr (cx.w 10 rfl)) (ty := .byte) (by decide)
          show Go p_ e_ bl_ _ (T61.setTop (mkF m_ 448 #[.val (.int mode), .val (.int pick), .val (.int pos), .val (.int c1), .val (.int c2), .val (.int c3), .val (.int ((pick &&& (2147483647 : Int32)) % (3 : Int32))), .val (.int (pos &&& (2147483647 : Int32))), .val (.int (c1 &&& (255 : Int32))), .val (.int (c2 &&& (255 : Int32))), .val (.int (c3 &&& (255 : Int32))), .val (.int (pick &&& (3 : Int32)))] [(.ref b61)]))
          refine Go.st (fun _ => XS.dup W61.here W61.ex rfl (hb hby d1_448) rfl rfl) ?_
          show Go p_ e_ bl_ _ (T61.setTop (mkF m_ 449 #[.val (.int mode), .val (.int pick), .val (.int pos), .val (.int c1), .val (.int c2), .val (.int c3), .val (.int ((pick &&& (2147483647 : Int32)) % (3 : Int32))), .val (.int (pos &&& (2147483647 : Int32))), .val (.int (c1 &&& (255 : Int32))), .val (.int (c2 &&& (255 : Int32))), .val (.int (c3 &&& (255 : Int32))), .val (.int (pick &&& (3 : Int32)))] [(.ref b61), (.ref b61)]))
          refine Go.st (fun _ => XS.iconst W61.here W61.ex rfl (hb hby d1_449)) ?_
          show Go p_ e_ bl_ _ (T61.setTop (mkF m_ 450 #[.val (.int mode), .val (.int pick), .val (.int pos), .val (.int c1), .val (.int c2), .val (.int c3), .val (.int ((pick &&& (2147483647 : Int32)) % (3 : Int32))), .val (.int (pos &&& (2147483647 : Int32))), .val (.int (c1 &&& (255 : Int32))), .val (.int (c2 &&& (255 : Int32))), .val (.int (c3 &&& (255 : Int32))), .val (.int (pick &&& (3 : Int32)))] [(.int (0 : Int32)), (.ref b61), (.ref b61)]))
          refine W61.newP (ty := .char) (dv := .int 0) rfl rfl (cx.w 92 rfl) (hb hby d1_450) (z := (0 : Int32)) (by decide) (cap := 0) (by decide) (by decide) (k' := 2) (n' := 4) rfl rfl (by decide) (by decide) ?_
          intro T62 h62 b62 kA_b62 hb62 g_b62 W62 E62 V_b62
          have ne_b61_b62 : b61 ≠ b62 := Nat.ne_of_lt (Nat.lt_of_lt_of_le E_b61.lt (Nat.le_of_eq hb62.symm))
          have sz_b62 : h.size ≤ b62 := Nat.le_trans K0.1 (Nat.le_of_eq hb62.symm)
          replace E_b61 := E_b61.ext E62
          replace F_value_b61 := F_value_b61.ext E62
          replace F_coder_b61 := F_coder_b61.ext E62
          replace K0 := K0.ext E62
          replace V_b62 : Arv Z h62 b62 kA_b62 .char (0 : Int32) [] (.int 0) := V_b62
          show Go p_ e_ bl_ _ (T62.setTop (mkF m_ 452 #[.val (.int mode), .val (.int pick), .val (.int pos), .val (.int c1), .val (.int c2), .val (.int c3), .val (.int ((pick &&& (2147483647 : Int32)) % (3 : Int32))), .val (.int (pos &&& (2147483647 : Int32))), .val (.int (c1 &&& (255 : Int32))), .val (.int (c2 &&& (255 : Int32))), .val (.int (c3 &&& (255 : Int32))), .val (.int (pick &&& (3 : Int32)))] [(.ref b62), (.ref b61), (.ref b61)]))
          refine W62.callI (y := (⟨"java/lang/String", "<init>", "([C)V"⟩ : MethodName)) rfl (cx.w 94 rfl) (cx.w 95 rfl) (cx.w 6 rfl) (cx.w 96 rfl) (by decide) (ct_i1e cx W62.old b61 b62 E_b61 F_value_b61 F_coder_b61 g_b61 V_b62) (allS (List.mem_of_getElem? (i := 1) rfl) all0) (by decide) (Wd := 1) (by decide) (k' := 6) (n' := 12) rfl rfl (by decide) (by decide) (by rw [hml]; rfl) (a := b61) (argsL := [(.ref b62)]) (rest := [(.ref b61)]) rfl (lenOf pd6 rfl) rfl (Nat.le_of_eq rfl) (hb hby d1_452) ?_
          intro v64 vm64 T64 h64 L64 W64 q64
          obtain ⟨rfl, Ke63, ts, S_n⟩ := q64
          replace E_b61 := E_b61.keep Ke63
          replace V_b62 := V_b62.keep Ke63 (ninS (Ne.symm ne_b61_b62) nin0)
          replace K0 := K0.trans Ke63 (allS (Or.inr sz_b61) all0)
          show Go p_ e_ bl_ _ (T64.setTop (mkF m_ 455 #[.val (.int mode), .val (.int pick), .val (.int pos), .val (.int c1), .val (.int c2), .val (.int c3), .val (.int ((pick &&& (2147483647 : Int32)) % (3 : Int32))), .val (.int (pos &&& (2147483647 : Int32))), .val (.int (c1 &&& (255 : Int32))), .val (.int (c2 &&& (255 : Int32))), .val (.int (c3 &&& (255 : Int32))), .val (.int (pick &&& (3 : Int32)))] [(.ref b61)]))
          have S_b61 : StrAt Z h64 b61 ts [] := S_n
          exact W64.retA hret rfl rfl (hb hby d1_455) (by decide) (by decide) fun _ _ => ⟨K0, Or.inr ⟨b61, _, _, rfl, S_b61⟩⟩
        · refine Go.st (fun _ => XS.ifYes W0.here W0.ex rfl (pc0 := 442) (pc' := 456) rfl (hb hby d1_442) rfl ((if0 _ _).trans (feq (hn0 : ¬ ((pick &&& (3 : Int32)) = (0 : Int32)))).2) (by decide) (by decide)) ?_
          show Go p_ e_ bl_ _ (T0.setTop (mkF m_ 456 #[.val (.int mode), .val (.int pick), .val (.int pos), .val (.int c1), .val (.int c2), .val (.int c3), .val (.int ((pick &&& (2147483647 : Int32)) % (3 : Int32))), .val (.int (pos &&& (2147483647 : Int32))), .val (.int (c1 &&& (255 : Int32))), .val (.int (c2 &&& (255 : Int32))), .val (.int (c3 &&& (255 : Int32))), .val (.int (pick &&& (3 : Int32)))] []))
          refine Go.st (fun _ => XS.iload W0.here W0.ex rfl (hb hby d1_456) rfl) ?_
          show Go p_ e_ bl_ _ (T0.setTop (mkF m_ 458 #[.val (.int mode), .val (.int pick), .val (.int pos), .val (.int c1), .val (.int c2), .val (.int c3), .val (.int ((pick &&& (2147483647 : Int32)) % (3 : Int32))), .val (.int (pos &&& (2147483647 : Int32))), .val (.int (c1 &&& (255 : Int32))), .val (.int (c2 &&& (255 : Int32))), .val (.int (c3 &&& (255 : Int32))), .val (.int (pick &&& (3 : Int32)))] [(.int (pick &&& (3 : Int32)))]))
          refine Go.st (fun _ => XS.iconst W0.here W0.ex rfl (hb hby d1_458)) ?_
          show Go p_ e_ bl_ _ (T0.setTop (mkF m_ 459 #[.val (.int mode), .val (.int pick), .val (.int pos), .val (.int c1), .val (.int c2), .val (.int c3), .val (.int ((pick &&& (2147483647 : Int32)) % (3 : Int32))), .val (.int (pos &&& (2147483647 : Int32))), .val (.int (c1 &&& (255 : Int32))), .val (.int (c2 &&& (255 : Int32))), .val (.int (c3 &&& (255 : Int32))), .val (.int (pick &&& (3 : Int32)))] [(.int (1 : Int32)), (.int (pick &&& (3 : Int32)))]))
          by_cases hn1 : (pick &&& (3 : Int32)) = (1 : Int32)
          · refine Go.st (fun _ => XS.icmpNo W0.here W0.ex rfl (hb hby d1_459) rfl (teq (hn1 : (pick &&& (3 : Int32)) = (1 : Int32))).2) ?_
            show Go p_ e_ bl_ _ (T0.setTop (mkF m_ 462 #[.val (.int mode), .val (.int pick), .val (.int pos), .val (.int c1), .val (.int c2), .val (.int c3), .val (.int ((pick &&& (2147483647 : Int32)) % (3 : Int32))), .val (.int (pos &&& (2147483647 : Int32))), .val (.int (c1 &&& (255 : Int32))), .val (.int (c2 &&& (255 : Int32))), .val (.int (c3 &&& (255 : Int32))), .val (.int (pick &&& (3 : Int32)))] []))
            refine Go.st (fun _ => XS.iload W0.here W0.ex rfl (hb hby d1_462) rfl) ?_
            show Go p_ e_ bl_ _ (T0.setTop (mkF m_ 464 #[.val (.int mode), .val (.int pick), .val (.int pos), .val (.int c1), .val (.int c2), .val (.int c3), .val (.int ((pick &&& (2147483647 : Int32)) % (3 : Int32))), .val (.int (pos &&& (2147483647 : Int32))), .val (.int (c1 &&& (255 : Int32))), .val (.int (c2 &&& (255 : Int32))), .val (.int (c3 &&& (255 : Int32))), .val (.int (pick &&& (3 : Int32)))] [(.int (c1 &&& (255 : Int32)))]))
            refine W0.callS (y := (⟨"java/lang/String", "valueOf", "(C)Ljava/lang/String;"⟩ : MethodName)) (cx.w 124 rfl) (cx.w 125 rfl) (cx.w 6 rfl) (cx.w 126 rfl) (by decide) (ct_valueOf cx W0.old (c1 &&& (255 : Int32)) (and255 c1)) all0 (by decide) (Wd := 0) (by decide) (k' := 2) (n' := 5) rfl rfl (by decide) (by decide) (by rw [hml]; rfl) (argsL := [(.int (c1 &&& (255 : Int32)))]) (rest := []) rfl (lenOf pd7 rfl) rfl (Nat.le_of_eq rfl) (hb hby d1_464) ?_
            intro v66 vm66 T66 h66 L66 W66 q66
            obtain ⟨sv, tv, rfl, hz_sv, g_sv, Ko65, S_sv⟩ := q66
            have sz_sv : h.size ≤ sv := Nat.le_trans K0.1 hz_sv
            replace K0 := K0.trans Ko65 all0
            show Go p_ e_ bl_ _ (T66.setTop (mkF m_ 467 #[.val (.int mode), .val (.int pick), .val (.int pos), .val (.int c1), .val (.int c2), .val (.int c3), .val (.int ((pick &&& (2147483647 : Int32)) % (3 : Int32))), .val (.int (pos &&& (2147483647 : Int32))), .val (.int (c1 &&& (255 : Int32))), .val (.int (c2 &&& (255 : Int32))), .val (.int (c3 &&& (255 : Int32))), .val (.int (pick &&& (3 : Int32)))] [(.ref sv)]))
            exact W66.retA hret rfl rfl (hb hby d1_467) (by decide) (by decide) fun _ _ => ⟨K0, Or.inr ⟨sv, _, _, rfl, S_sv⟩⟩
          · refine Go.st (fun _ => XS.icmpYes W0.here W0.ex rfl (pc0 := 459) (pc' := 468) rfl (hb hby d1_459) rfl (feq (hn1 : ¬ ((pick &&& (3 : Int32)) = (1 : Int32)))).2 (by decide) (by decide)) ?_
            show Go p_ e_ bl_ _ (T0.setTop (mkF m_ 468 #[.val (.int mode), .val (.int pick), .val (.int pos), .val (.int c1), .val (.int c2), .val (.int c3), .val (.int ((pick &&& (2147483647 : Int32)) % (3 : Int32))), .val (.int (pos &&& (2147483647 : Int32))), .val (.int (c1 &&& (255 : Int32))), .val (.int (c2 &&& (255 : Int32))), .val (.int (c3 &&& (255 : Int32))), .val (.int (pick &&& (3 : Int32)))] []))
            refine Go.st (fun _ => XS.iload W0.here W0.ex rfl (hb hby d1_468) rfl) ?_
            show Go p_ e_ bl_ _ (T0.setTop (mkF m_ 470 #[.val (.int mode), .val (.int pick), .val (.int pos), .val (.int c1), .val (.int c2), .val (.int c3), .val (.int ((pick &&& (2147483647 : Int32)) % (3 : Int32))), .val (.int (pos &&& (2147483647 : Int32))), .val (.int (c1 &&& (255 : Int32))), .val (.int (c2 &&& (255 : Int32))), .val (.int (c3 &&& (255 : Int32))), .val (.int (pick &&& (3 : Int32)))] [(.int (pick &&& (3 : Int32)))]))
            refine Go.st (fun _ => XS.iconst W0.here W0.ex rfl (hb hby d1_470)) ?_
            show Go p_ e_ bl_ _ (T0.setTop (mkF m_ 471 #[.val (.int mode), .val (.int pick), .val (.int pos), .val (.int c1), .val (.int c2), .val (.int c3), .val (.int ((pick &&& (2147483647 : Int32)) % (3 : Int32))), .val (.int (pos &&& (2147483647 : Int32))), .val (.int (c1 &&& (255 : Int32))), .val (.int (c2 &&& (255 : Int32))), .val (.int (c3 &&& (255 : Int32))), .val (.int (pick &&& (3 : Int32)))] [(.int (2 : Int32)), (.int (pick &&& (3 : Int32)))]))
            by_cases hn2 : (pick &&& (3 : Int32)) = (2 : Int32)
            · refine Go.st (fun _ => XS.icmpNo W0.here W0.ex rfl (hb hby d1_471) rfl (teq (hn2 : (pick &&& (3 : Int32)) = (2 : Int32))).2) ?_
              show Go p_ e_ bl_ _ (T0.setTop (mkF m_ 474 #[.val (.int mode), .val (.int pick), .val (.int pos), .val (.int c1), .val (.int c2), .val (.int c3), .val (.int ((pick &&& (2147483647 : Int32)) % (3 : Int32))), .val (.int (pos &&& (2147483647 : Int32))), .val (.int (c1 &&& (255 : Int32))), .val (.int (c2 &&& (255 : Int32))), .val (.int (c3 &&& (255 : Int32))), .val (.int (pick &&& (3 : Int32)))] []))
              refine W0.newO (cx.w 93 rfl) (cx.w 7 rfl) (cx.w 6 rfl) (hb hby d1_474) (k' := 1) (n' := 4) rfl rfl (by decide) (by decide) ?_
              intro T67 h67 b67 hb67 g_b67 W67 E67 E_b67 D67
              have sz_b67 : h.size ≤ b67 := Nat.le_trans K0.1 (Nat.le_of_eq hb67.symm)
              replace K0 := K0.ext E67
              have F_value_b67 : Fld Z h67 b67 "java/lang/String" "value" "[B" .null := D67 (Or.inr (cx.w 9 rfl)) (ty := (.array .byte)) (by decide)
              have F_coder_b67 : Fld Z h67 b67 "java/lang/String" "coder" "B" (.int (0 : Int32)) := D67 (Or.inr (cx.w 10 rfl)) (ty := .byte) (by decide)
              show Go p_ e_ bl_ _ (T67.setTop (mkF m_ 477 #[.val (.int mode), .val (.int pick), .val (.int pos), .val (.int c1), .val (.int c2), .val (.int c3), .val (.int ((pick &&& (2147483647 : Int32)) % (3 : Int32))), .val (.int (pos &&& (2147483647 : Int32))), .val (.int (c1 &&& (255 : Int32))), .val (.int (c2 &&& (255 : Int32))), .val (.int (c3 &&& (255 : Int32))), .val (.int (pick &&& (3 : Int32)))] [(.ref b67)]))
              refine Go.st (fun _ => XS.dup W67.here W67.ex rfl (hb hby d1_477) rfl rfl) ?_
              show Go p_ e_ bl_ _ (T67.setTop (mkF m_ 478 #[.val (.int mode), .val (.int pick), .val (.int pos), .val (.int c1), .val (.int c2), .val (.int c3), .val (.int ((pick &&& (2147483647 : Int32)) % (3 : Int32))), .val (.int (pos &&& (2147483647 : Int32))), .val (.int (c1 &&& (255 : Int32))), .val (.int (c2 &&& (255 : Int32))), .val (.int (c3 &&& (255 : Int32))), .val (.int (pick &&& (3 : Int32)))] [(.ref b67), (.ref b67)]))
              refine Go.st (fun _ => XS.iconst W67.here W67.ex rfl (hb hby d1_478)) ?_
              show Go p_ e_ bl_ _ (T67.setTop (mkF m_ 479 #[.val (.int mode), .val (.int pick), .val (.int pos), .val (.int c1), .val (.int c2), .val (.int c3), .val (.int ((pick &&& (2147483647 : Int32)) % (3 : Int32))), .val (.int (pos &&& (2147483647 : Int32))), .val (.int (c1 &&& (255 : Int32))), .val (.int (c2 &&& (255 : Int32))), .val (.int (c3 &&& (255 : Int32))), .val (.int (pick &&& (3 : Int32)))] [(.int (2 : Int32)), (.ref b67), (.ref b67)]))
              refine W67.newP (ty := .char) (dv := .int 0) rfl rfl (cx.w 92 rfl) (hb hby d1_479) (z := (2 : Int32)) (by decide) (cap := 2) (by decide) (by decide) (k' := 2) (n' := 6) rfl rfl (by decide) (by decide) ?_
              intro T68 h68 b68 kA_b68 hb68 g_b68 W68 E68 V_b68
              have ne_b67_b68 : b67 ≠ b68 := Nat.ne_of_lt (Nat.lt_of_lt_of_le E_b67.lt (Nat.le_of_eq hb68.symm))
              have sz_b68 : h.size ≤ b68 := Nat.le_trans K0.1 (Nat.le_of_eq hb68.symm)
              replace E_b67 := E_b67.ext E68
              replace F_value_b67 := F_value_b67.ext E68
              replace F_coder_b67 := F_coder_b67.ext E68
              replace K0 := K0.ext E68
              replace V_b68 : Arv Z h68 b68 kA_b68 .char (2 : Int32) [(.int 0), (.int 0)] (.int 0) := V_b68
              show Go p_ e_ bl_ _ (T68.setTop (mkF m_ 481 #[.val (.int mode), .val (.int pick), .val (.int pos), .val (.int c1), .val (.int c2), .val (.int c3), .val (.int ((pick &&& (2147483647 : Int32)) % (3 : Int32))), .val (.int (pos &&& (2147483647 : Int32))), .val (.int (c1 &&& (255 : Int32))), .val (.int (c2 &&& (255 : Int32))), .val (.int (c3 &&& (255 : Int32))), .val (.int (pick &&& (3 : Int32)))] [(.ref b68), (.ref b67), (.ref b67)]))
              refine Go.st (fun _ => XS.dup W68.here W68.ex rfl (hb hby d1_481) rfl rfl) ?_
              show Go p_ e_ bl_ _ (T68.setTop (mkF m_ 482 #[.val (.int mode), .val (.int pick), .val (.int pos), .val (.int c1), .val (.int c2), .val (.int c3), .val (.int ((pick &&& (2147483647 : Int32)) % (3 : Int32))), .val (.int (pos &&& (2147483647 : Int32))), .val (.int (c1 &&& (255 : Int32))), .val (.int (c2 &&& (255 : Int32))), .val (.int (c3 &&& (255 : Int32))), .val (.int (pick &&& (3 : Int32)))] [(.ref b68), (.ref b68), (.ref b67), (.ref b67)]))
              refine Go.st (fun _ => XS.iconst W68.here W68.ex rfl (hb hby d1_482)) ?_
              show Go p_ e_ bl_ _ (T68.setTop (mkF m_ 483 #[.val (.int mode), .val (.int pick), .val (.int pos), .val (.int c1), .val (.int c2), .val (.int c3), .val (.int ((pick &&& (2147483647 : Int32)) % (3 : Int32))), .val (.int (pos &&& (2147483647 : Int32))), .val (.int (c1 &&& (255 : Int32))), .val (.int (c2 &&& (255 : Int32))), .val (.int (c3 &&& (255 : Int32))), .val (.int (pick &&& (3 : Int32)))] [(.int (0 : Int32)), (.ref b68), (.ref b68), (.ref b67), (.ref b67)]))
              refine Go.st (fun _ => XS.iload W68.here W68.ex rfl (hb hby d1_483) rfl) ?_
              show Go p_ e_ bl_ _ (T68.setTop (mkF m_ 485 #[.val (.int mode), .val (.int pick), .val (.int pos), .val (.int c1), .val (.int c2), .val (.int c3), .val (.int ((pick &&& (2147483647 : Int32)) % (3 : Int32))), .val (.int (pos &&& (2147483647 : Int32))), .val (.int (c1 &&& (255 : Int32))), .val (.int (c2 &&& (255 : Int32))), .val (.int (c3 &&& (255 : Int32))), .val (.int (pick &&& (3 : Int32)))] [(.int (c1 &&& (255 : Int32))), (.int (0 : Int32)), (.ref b68), (.ref b68), (.ref b67), (.ref b67)]))
              refine W68.stC V_b68 (j := (0 : Int32)) (x := (c1 &&& (255 : Int32))) ⟨by decide, by decide⟩ 0 rfl (Nat.le_of_ble_eq_true rfl) (List.mem_of_getElem? (i := 0) rfl) g_b68 (hb hby d1_485) ?_
              intro T69 h69 L69 W69 w69 V_new
              replace E_b67 := E_b67.wr w69
              replace F_value_b67 := F_value_b67.other w69 (Or.inl ne_b67_b68)
              replace F_coder_b67 := F_coder_b67.other w69 (Or.inl ne_b67_b68)
              replace K0 := K0.wr w69 (Or.inr sz_b68)
              rw [nar_char (and255 c1)] at V_new
              replace V_b68 : Arv Z h69 b68 kA_b68 .char (2 : Int32) [(.int (c1 &&& (255 : Int32))), (.int 0)] (.int 0) := V_new
              clear V_new
              show Go p_ e_ bl_ _ (T69.setTop (mkF m_ 486 #[.val (.int mode), .val (.int pick), .val (.int pos), .val (.int c1), .val (.int c2), .val (.int c3), .val (.int ((pick &&& (2147483647 : Int32)) % (3 : Int32))), .val (.int (pos &&& (2147483647 : Int32))), .val (.int (c1 &&& (255 : Int32))), .val (.int (c2 &&& (255 : Int32))), .val (.int (c3 &&& (255 : Int32))), .val (.int (pick &&& (3 : Int32)))] [(.ref b68), (.ref b67), (.ref b67)]))
              refine Go.st (fun _ => XS.dup W69.here W69.ex rfl (hb hby d1_486) rfl rfl) ?_
              show Go p_ e_ bl_ _ (T69.setTop (mkF m_ 487 #[.val (.int mode), .val (.int pick), .val (.int pos), .val (.int c1), .val (.int c2), .val (.int c3), .val (.int ((pick &&& (2147483647 : Int32)) % (3 : Int32))), .val (.int (pos &&& (2147483647 : Int32))), .val (.int (c1 &&& (255 : Int32))), .val (.int (c2 &&& (255 : Int32))), .val (.int (c3 &&& (255 : Int32))), .val (.int (pick &&& (3 : Int32)))] [(.ref b68), (.ref b68), (.ref b67), (.ref b67)]))
              refine Go.st (fun _ => XS.iconst W69.here W69.ex rfl (hb hby d1_487)) ?_
              show Go p_ e_ bl_ _ (T69.setTop (mkF m_ 488 #[.val (.int mode), .val (.int pick), .val (.int pos), .val (.int c1), .val (.int c2), .val (.int c3), .val (.int ((pick &&& (2147483647 : Int32)) % (3 : Int32))), .val (.int (pos &&& (2147483647 : Int32))), .val (.int (c1 &&& (255 : Int32))), .val (.int (c2 &&& (255 : Int32))), .val (.int (c3 &&& (255 : Int32))), .val (.int (pick &&& (3 : Int32)))] [(.int (1 : Int32)), (.ref b68), (.ref b68), (.ref b67), (.ref b67)]))
              refine Go.st (fun _ => XS.iload W69.here W69.ex rfl (hb hby d1_488) rfl) ?_
              show Go p_ e_ bl_ _ (T69.setTop (mkF m_ 490 #[.val (.int mode), .val (.int pick), .val (.int pos), .val (.int c1), .val (.int c2), .val (.int c3), .val (.int ((pick &&& (2147483647 : Int32)) % (3 : Int32))), .val (.int (pos &&& (2147483647 : Int32))), .val (.int (c1 &&& (255 : Int32))), .val (.int (c2 &&& (255 : Int32))), .val (.int (c3 &&& (255 : Int32))), .val (.int (pick &&& (3 : Int32)))] [(.int (c2 &&& (255 : Int32))), (.int (1 : Int32)), (.ref b68), (.ref b68), (.ref b67), (.ref b67)]))
              refine W69.stC V_b68 (j := (1 : Int32)) (x := (c2 &&& (255 : Int32))) ⟨by decide, by decide⟩ 1 rfl (Nat.le_of_ble_eq_true rfl) (List.mem_of_getElem? (i := 0) rfl) g_b68 (hb hby d1_490) ?_
              intro T70 h70 L70 W70 w70 V_new
              replace E_b67 := E_b67.wr w70
              replace F_value_b67 := F_value_b67.other w70 (Or.inl ne_b67_b68)
              replace F_coder_b67 := F_coder_b67.other w70 (Or.inl ne_b67_b68)
              replace K0 := K0.wr w70 (Or.inr sz_b68)
              rw [nar_char (and255 c2)] at V_new
              replace V_b68 : Arv Z h70 b68 kA_b68 .char (2 : Int32) [(.int (c1 &&& (255 : Int32))), (.int (c2 &&& (255 : Int32)))] (.int 0) := V_new
              clear V_new
              show Go p_ e_ bl_ _ (T70.setTop (mkF m_ 491 #[.val (.int mode), .val (.int pick), .val (.int pos), .val (.int c1), .val (.int c2), .val (.int c3), .val (.int ((pick &&& (2147483647 : Int32)) % (3 : Int32))), .val (.int (pos &&& (2147483647 : Int32))), .val (.int (c1 &&& (255 : Int32))), .val (.int (c2 &&& (255 : Int32))), .val (.int (c3 &&& (255 : Int32))), .val (.int (pick &&& (3 : Int32)))] [(.ref b68), (.ref b67), (.ref b67)]))
              refine W70.libI (y := (⟨"java/lang/String", "<init>", "([C)V"⟩ : MethodName)) rfl (cx.w 94 rfl) (cx.w 95 rfl) (cx.w 96 rfl) (by decide) (Q := StrChars.Road.QV Z b67 (2 : Int32) ((([(c1 &&& (255 : Int32)), (c2 &&& (255 : Int32))] : List Int32)).map (fun c => c.toInt8.toInt32)) h70 n0) (ws := [b67]) (Wd := 1) (ck := 1) (cn := 2) (StrChars.Road.backV (W := 1) W70.hZ cx.vw (kI := 4) (cx.w 7 rfl) (cs := ([(c1 &&& (255 : Int32)), (c2 &&& (255 : Int32))] : List Int32)) (bs := (([(c1 &&& (255 : Int32)), (c2 &&& (255 : Int32))] : List Int32)).map (fun c => c.toInt8.toInt32)) (n := 2) g_b67 W70.n0le E_b67 F_value_b67 F_coder_b67 V_b68 (cx.cmp.ext W70.e0) cx.g1 rfl rfl (by decide) (by decide) (Ch8.cons (and255 c1) (Ch8.cons (and255 c2) Ch8.nil)) rfl (by decide) (by decide)) (fun v h' L' q => ⟨q.2.1, q.2.2.1⟩) (allS (List.mem_of_getElem? (i := 1) rfl) all0) (allS g_b67 all0) (k' := 3) (n' := 8) rfl rfl (by decide) (by decide) (by rw [hml]; rfl) (a := b67) (argsL := [(.ref b68)]) (rest := [(.ref b67)]) rfl (lenOf pd6 rfl) rfl (Nat.le_of_eq rfl) (hb hby d1_491) ?_
              intro v72 T72 h72 M72 L72 W72 q72
              obtain ⟨rfl, -, Kv71, E_n, F_cn, ts, k_ts, g_ts, hz_ts, -, F_vn, V_n⟩ := q72
              have ne_b67_ts : b67 ≠ ts := Nat.ne_of_lt (Nat.lt_of_lt_of_le E_b67.lt hz_ts)
              have ne_b68_ts : b68 ≠ ts := Nat.ne_of_lt (Nat.lt_of_lt_of_le V_b68.lt hz_ts)
              have sz_ts : h.size ≤ ts := Nat.le_trans K0.1 hz_ts
              replace E_b67 := E_b67.keep Kv71
              replace V_b68 := V_b68.keep Kv71 (ninS (Ne.symm ne_b67_b68) nin0)
              replace K0 := K0.trans Kv71 (allS (Or.inr sz_b67) all0)
              show Go p_ e_ bl_ _ (T72.setTop (mkF m_ 494 #[.val (.int mode), .val (.int pick), .val (.int pos), .val (.int c1), .val (.int c2), .val (.int c3), .val (.int ((pick &&& (2147483647 : Int32)) % (3 : Int32))), .val (.int (pos &&& (2147483647 : Int32))), .val (.int (c1 &&& (255 : Int32))), .val (.int (c2 &&& (255 : Int32))), .val (.int (c3 &&& (255 : Int32))), .val (.int (pick &&& (3 : Int32)))] [(.ref b67)]))
              have S_b67 : StrAt Z h72 b67 ts ([(c1 &&& (255 : Int32)), (c2 &&& (255 : Int32))] : List Int32) := ⟨E_n, F_cn, F_vn, ⟨_, V_n⟩, (Ch8.cons (and255 c1) (Ch8.cons (and255 c2) Ch8.nil)), Nat.le_of_ble_eq_true rfl⟩
              exact W72.retA hret rfl rfl (hb hby d1_494) (by decide) (by decide) fun _ _ => ⟨K0, Or.inr ⟨b67, _, _, rfl, S_b67⟩⟩
            · refine Go.st (fun _ => XS.icmpYes W0.here W0.ex rfl (pc0 := 471) (pc' := 495) rfl (hb hby d1_471) rfl (feq (hn2 : ¬ ((pick &&& (3 : Int32)) = (2 : Int32)))).2 (by decide) (by decide)) ?_
              show Go p_ e_ bl_ _ (T0.setTop (mkF m_ 495 #[.val (.int mode), .val (.int pick), .val (.int pos), .val (.int c1), .val (.int c2), .val (.int c3), .val (.int ((pick &&& (2147483647 : Int32)) % (3 : Int32))), .val (.int (pos &&& (2147483647 : Int32))), .val (.int (c1 &&& (255 : Int32))), .val (.int (c2 &&& (255 : Int32))), .val (.int (c3 &&& (255 : Int32))), .val (.int (pick &&& (3 : Int32)))] []))
              refine W0.newO (cx.w 93 rfl) (cx.w 7 rfl) (cx.w 6 rfl) (hb hby d1_495) (k' := 1) (n' := 4) rfl rfl (by decide) (by decide) ?_
              intro T73 h73 b73 hb73 g_b73 W73 E73 E_b73 D73
              have sz_b73 : h.size ≤ b73 := Nat.le_trans K0.1 (Nat.le_of_eq hb73.symm)
              replace K0 := K0.ext E73
              have F_value_b73 : Fld Z h73 b73 "java/lang/String" "value" "[B" .null := D73 (Or.inr (cx.w 9 rfl)) (ty := (.array .byte)) (by decide)
              have F_coder_b73 : Fld Z h73 b73 "java/lang/String" "coder" "B" (.int (0 : Int32)) := D73 (Or.inr (cx.w 10 rfl)) (ty := .byte) (by decide)
              show Go p_ e_ bl_ _ (T73.setTop (mkF m_ 498 #[.val (.int mode), .val (.int pick), .val (.int pos), .val (.int c1), .val (.int c2), .val (.int c3), .val (.int ((pick &&& (2147483647 : Int32)) % (3 : Int32))), .val (.int (pos &&& (2147483647 : Int32))), .val (.int (c1 &&& (255 : Int32))), .val (.int (c2 &&& (255 : Int32))), .val (.int (c3 &&& (255 : Int32))), .val (.int (pick &&& (3 : Int32)))] [(.ref b73)]))
              refine Go.st (fun _ => XS.dup W73.here W73.ex rfl (hb hby d1_498) rfl rfl) ?_
              show Go p_ e_ bl_ _ (T73.setTop (mkF m_ 499 #[.val (.int mode), .val (.int pick), .val (.int pos), .val (.int c1), .val (.int c2), .val (.int c3), .val (.int ((pick &&& (2147483647 : Int32)) % (3 : Int32))), .val (.int (pos &&& (2147483647 : Int32))), .val (.int (c1 &&& (255 : Int32))), .val (.int (c2 &&& (255 : Int32))), .val (.int (c3 &&& (255 : Int32))), .val (.int (pick &&& (3 : Int32)))] [(.ref b73), (.ref b73)]))
              refine Go.st (fun _ => XS.iconst W73.here W73.ex rfl (hb hby d1_499)) ?_
              show Go p_ e_ bl_ _ (T73.setTop (mkF m_ 500 #[.val (.int mode), .val (.int pick), .val (.int pos), .val (.int c1), .val (.int c2), .val (.int c3), .val (.int ((pick &&& (2147483647 : Int32)) % (3 : Int32))), .val (.int (pos &&& (2147483647 : Int32))), .val (.int (c1 &&& (255 : Int32))), .val (.int (c2 &&& (255 : Int32))), .val (.int (c3 &&& (255 : Int32))), .val (.int (pick &&& (3 : Int32)))] [(.int (3 : Int32)), (.ref b73), (.ref b73)]))
              refine W73.newP (ty := .char) (dv := .int 0) rfl rfl (cx.w 92 rfl) (hb hby d1_500) (z := (3 : Int32)) (by decide) (cap := 3) (by decide) (by decide) (k' := 2) (n' := 7) rfl rfl (by decide) (by decide) ?_
              intro T74 h74 b74 kA_b74 hb74 g_b74 W74 E74 V_b74
              have ne_b73_b74 : b73 ≠ b74 := Nat.ne_of_lt (Nat.lt_of_lt_of_le E_b73.lt (Nat.le_of_eq hb74.symm))
              have sz_b74 : h.size ≤ b74 := Nat.le_trans K0.1 (Nat.le_of_eq hb74.symm)
              replace E_b73 := E_b73.ext E74
              replace F_value_b73 := F_value_b73.ext E74
              replace F_coder_b73 := F_coder_b73.ext E74
              replace K0 := K0.ext E74
              replace V_b74 : Arv Z h74 b74 kA_b74 .char (3 : Int32) [(.int 0), (.int 0), (.int 0)] (.int 0) := V_b74
              show Go p_ e_ bl_ _ (T74.setTop (mkF m_ 502 #[.val (.int mode), .val (.int pick), .val (.int pos), .val (.int c1), .val (.int c2), .val (.int c3), .val (.int ((pick &&& (2147483647 : Int32)) % (3 : Int32))), .val (.int (pos &&& (2147483647 : Int32))), .val (.int (c1 &&& (255 : Int32))), .val (.int (c2 &&& (255 : Int32))), .val (.int (c3 &&& (255 : Int32))), .val (.int (pick &&& (3 : Int32)))] [(.ref b74), (.ref b73), (.ref b73)]))
              refine Go.st (fun _ => XS.dup W74.here W74.ex rfl (hb hby d1_502) rfl rfl) ?_
              show Go p_ e_ bl_ _ (T74.setTop (mkF m_ 503 #[.val (.int mode), .val (.int pick), .val (.int pos), .val (.int c1), .val (.int c2), .val (.int c3), .val (.int ((pick &&& (2147483647 : Int32)) % (3 : Int32))), .val (.int (pos &&& (2147483647 : Int32))), .val (.int (c1 &&& (255 : Int32))), .val (.int (c2 &&& (255 : Int32))), .val (.int (c3 &&& (255 : Int32))), .val (.int (pick &&& (3 : Int32)))] [(.ref b74), (.ref b74), (.ref b73), (.ref b73)]))
              refine Go.st (fun _ => XS.iconst W74.here W74.ex rfl (hb hby d1_503)) ?_
              show Go p_ e_ bl_ _ (T74.setTop (mkF m_ 504 #[.val (.int mode), .val (.int pick), .val (.int pos), .val (.int c1), .val (.int c2), .val (.int c3), .val (.int ((pick &&& (2147483647 : Int32)) % (3 : Int32))), .val (.int (pos &&& (2147483647 : Int32))), .val (.int (c1 &&& (255 : Int32))), .val (.int (c2 &&& (255 : Int32))), .val (.int (c3 &&& (255 : Int32))), .val (.int (pick &&& (3 : Int32)))] [(.int (0 : Int32)), (.ref b74), (.ref b74), (.ref b73), (.ref b73)]))
              refine Go.st (fun _ => XS.iload W74.here W74.ex rfl (hb hby d1_504) rfl) ?_
              show Go p_ e_ bl_ _ (T74.setTop (mkF m_ 506 #[.val (.int mode), .val (.int pick), .val (.int pos), .val (.int c1), .val (.int c2), .val (.int c3), .val (.int ((pick &&& (2147483647 : Int32)) % (3 : Int32))), .val (.int (pos &&& (2147483647 : Int32))), .val (.int (c1 &&& (255 : Int32))), .val (.int (c2 &&& (255 : Int32))), .val (.int (c3 &&& (255 : Int32))), .val (.int (pick &&& (3 : Int32)))] [(.int (c1 &&& (255 : Int32))), (.int (0 : Int32)), (.ref b74), (.ref b74), (.ref b73), (.ref b73)]))
              refine W74.stC V_b74 (j := (0 : Int32)) (x := (c1 &&& (255 : Int32))) ⟨by decide, by decide⟩ 0 rfl (Nat.le_of_ble_eq_true rfl) (List.mem_of_getElem? (i := 0) rfl) g_b74 (hb hby d1_506) ?_
              intro T75 h75 L75 W75 w75 V_new
              replace E_b73 := E_b73.wr w75
              replace F_value_b73 := F_value_b73.other w75 (Or.inl ne_b73_b74)
              replace F_coder_b73 := F_coder_b73.other w75 (Or.inl ne_b73_b74)
              replace K0 := K0.wr w75 (Or.inr sz_b74)
              rw [nar_char (and255 c1)] at V_new
              replace V_b74 : Arv Z h75 b74 kA_b74 .char (3 : Int32) [(.int (c1 &&& (255 : Int32))), (.int 0), (.int 0)] (.int 0) := V_new
              clear V_new
              show Go p_ e_ bl_ _ (T75.setTop (mkF m_ 507 #[.val (.int mode), .val (.int pick), .val (.int pos), .val (.int c1), .val (.int c2), .val (.int c3), .val (.int ((pick &&& (2147483647 : Int32)) % (3 : Int32))), .val (.int (pos &&& (2147483647 : Int32))), .val (.int (c1 &&& (255 : Int32))), .val (.int (c2 &&& (255 : Int32))), .val (.int (c3 &&& (255 : Int32))), .val (.int (pick &&& (3 : Int32)))] [(.ref b74), (.ref b73), (.ref b73)]))
              refine Go.st (fun _ => XS.dup W75.here W75.ex rfl (hb hby d1_507) rfl rfl) ?_
              show Go p_ e_ bl_ _ (T75.setTop (mkF m_ 508 #[.val (.int mode), .val (.int pick), .val (.int pos), .val (.int c1), .val (.int c2), .val (.int c3), .val (.int ((pick &&& (2147483647 : Int32)) % (3 : Int32))), .val (.int (pos &&& (2147483647 : Int32))), .val (.int (c1 &&& (255 : Int32))), .val (.int (c2 &&& (255 : Int32))), .val (.int (c3 &&& (255 : Int32))), .val (.int (pick &&& (3 : Int32)))] [(.ref b74), (.ref b74), (.ref b73), (.ref b73)]))
              refine Go.st (fun _ => XS.iconst W75.here W75.ex rfl (hb hby d1_508)) ?_
              show Go p_ e_ bl_ _ (T75.setTop (mkF m_ 509 #[.val (.int mode), .val (.int pick), .val (.int pos), .val (.int c1), .val (.int c2), .val (.int c3), .val (.int ((pick &&& (2147483647 : Int32)) % (3 : Int32))), .val (.int (pos &&& (2147483647 : Int32))), .val (.int (c1 &&& (255 : Int32))), .val (.int (c2 &&& (255 : Int32))), .val (.int (c3 &&& (255 : Int32))), .val (.int (pick &&& (3 : Int32)))] [(.int (1 : Int32)), (.ref b74), (.ref b74), (.ref b73), (.ref b73)]))
              refine Go.st (fun _ => XS.iload W75.here W75.ex rfl (hb hby d1_509) rfl) ?_
              show Go p_ e_ bl_ _ (T75.setTop (mkF m_ 511 #[.val (.int mode), .val (.int pick), .val (.int pos), .val (.int c1), .val (.int c2), .val (.int c3), .val (.int ((pick &&& (2147483647 : Int32)) % (3 : Int32))), .val (.int (pos &&& (2147483647 : Int32))), .val (.int (c1 &&& (255 : Int32))), .val (.int (c2 &&& (255 : Int32))), .val (.int (c3 &&& (255 : Int32))), .val (.int (pick &&& (3 : Int32)))] [(.int (c2 &&& (255 : Int32))), (.int (1 : Int32)), (.ref b74), (.ref b74), (.ref b73), (.ref b73)]))
              refine W75.stC V_b74 (j := (1 : Int32)) (x := (c2 &&& (255 : Int32))) ⟨by decide, by decide⟩ 1 rfl (Nat.le_of_ble_eq_true rfl) (List.mem_of_getElem? (i := 0) rfl) g_b74 (hb hby d1_511) ?_
              intro T76 h76 L76 W76 w76 V_new
              replace E_b73 := E_b73.wr w76
              replace F_value_b73 := F_value_b73.other w76 (Or.inl ne_b73_b74)
              replace F_coder_b73 := F_coder_b73.other w76 (Or.inl ne_b73_b74)
              replace K0 := K0.wr w76 (Or.inr sz_b74)
              rw [nar_char (and255 c2)] at V_new
              replace V_b74 : Arv Z h76 b74 kA_b74 .char (3 : Int32) [(.int (c1 &&& (255 : Int32))), (.int (c2 &&& (255 : Int32))), (.int 0)] (.int 0) := V_new
              clear V_new
              show Go p_ e_ bl_ _ (T76.setTop (mkF m_ 512 #[.val (.int mode), .val (.int pick), .val (.int pos), .val (.int c1), .val (.int c2), .val (.int c3), .val (.int ((pick &&& (2147483647 : Int32)) % (3 : Int32))), .val (.int (pos &&& (2147483647 : Int32))), .val (.int (c1 &&& (255 : Int32))), .val (.int (c2 &&& (255 : Int32))), .val (.int (c3 &&& (255 : Int32))), .val (.int (pick &&& (3 : Int32)))] [(.ref b74), (.ref b73), (.ref b73)]))
              refine Go.st (fun _ => XS.dup W76.here W76.ex rfl (hb hby d1_512) rfl rfl) ?_
              show Go p_ e_ bl_ _ (T76.setTop (mkF m_ 513 #[.val (.int mode), .val (.int pick), .val (.int pos), .val (.int c1), .val (.int c2), .val (.int c3), .val (.int ((pick &&& (2147483647 : Int32)) % (3 : Int32))), .val (.int (pos &&& (2147483647 : Int32))), .val (.int (c1 &&& (255 : Int32))), .val (.int (c2 &&& (255 : Int32))), .val (.int (c3 &&& (255 : Int32))), .val (.int (pick &&& (3 : Int32)))] [(.ref b74), (.ref b74), (.ref b73), (.ref b73)]))
              refine Go.st (fun _ => XS.iconst W76.here W76.ex rfl (hb hby d1_513)) ?_
              show Go p_ e_ bl_ _ (T76.setTop (mkF m_ 514 #[.val (.int mode), .val (.int pick), .val (.int pos), .val (.int c1), .val (.int c2), .val (.int c3), .val (.int ((pick &&& (2147483647 : Int32)) % (3 : Int32))), .val (.int (pos &&& (2147483647 : Int32))), .val (.int (c1 &&& (255 : Int32))), .val (.int (c2 &&& (255 : Int32))), .val (.int (c3 &&& (255 : Int32))), .val (.int (pick &&& (3 : Int32)))] [(.int (2 : Int32)), (.ref b74), (.ref b74), (.ref b73), (.ref b73)]))
              refine Go.st (fun _ => XS.iload W76.here W76.ex rfl (hb hby d1_514) rfl) ?_
              show Go p_ e_ bl_ _ (T76.setTop (mkF m_ 516 #[.val (.int mode), .val (.int pick), .val (.int pos), .val (.int c1), .val (.int c2), .val (.int c3), .val (.int ((pick &&& (2147483647 : Int32)) % (3 : Int32))), .val (.int (pos &&& (2147483647 : Int32))), .val (.int (c1 &&& (255 : Int32))), .val (.int (c2 &&& (255 : Int32))), .val (.int (c3 &&& (255 : Int32))), .val (.int (pick &&& (3 : Int32)))] [(.int (c3 &&& (255 : Int32))), (.int (2 : Int32)), (.ref b74), (.ref b74), (.ref b73), (.ref b73)]))
              refine W76.stC V_b74 (j := (2 : Int32)) (x := (c3 &&& (255 : Int32))) ⟨by decide, by decide⟩ 2 rfl (Nat.le_of_ble_eq_true rfl) (List.mem_of_getElem? (i := 0) rfl) g_b74 (hb hby d1_516) ?_
              intro T77 h77 L77 W77 w77 V_new
              replace E_b73 := E_b73.wr w77
              replace F_value_b73 := F_value_b73.other w77 (Or.inl ne_b73_b74)
              replace F_coder_b73 := F_coder_b73.other w77 (Or.inl ne_b73_b74)
              replace K0 := K0.wr w77 (Or.inr sz_b74)
              rw [nar_char (and255 c3)] at V_new
              replace V_b74 : Arv Z h77 b74 kA_b74 .char (3 : Int32) [(.int (c1 &&& (255 : Int32))), (.int (c2 &&& (255 : Int32))), (.int (c3 &&& (255 : Int32)))] (.int 0) := V_new
              clear V_new
              show Go p_ e_ bl_ _ (T77.setTop (mkF m_ 517 #[.val (.int mode), .val (.int pick), .val (.int pos), .val (.int c1), .val (.int c2), .val (.int c3), .val (.int ((pick &&& (2147483647 : Int32)) % (3 : Int32))), .val (.int (pos &&& (2147483647 : Int32))), .val (.int (c1 &&& (255 : Int32))), .val (.int (c2 &&& (255 : Int32))), .val (.int (c3 &&& (255 : Int32))), .val (.int (pick &&& (3 : Int32)))] [(.ref b74), (.ref b73), (.ref b73)]))
              refine W77.libI (y := (⟨"java/lang/String", "<init>", "([C)V"⟩ : MethodName)) rfl (cx.w 94 rfl) (cx.w 95 rfl) (cx.w 96 rfl) (by decide) (Q := StrChars.Road.QV Z b73 (3 : Int32) ((([(c1 &&& (255 : Int32)), (c2 &&& (255 : Int32)), (c3 &&& (255 : Int32))] : List Int32)).map (fun c => c.toInt8.toInt32)) h77 n0) (ws := [b73]) (Wd := 1) (ck := 1) (cn := 3) (StrChars.Road.backV (W := 1) W77.hZ cx.vw (kI := 4) (cx.w 7 rfl) (cs := ([(c1 &&& (255 : Int32)), (c2 &&& (255 : Int32)), (c3 &&& (255 : Int32))] : List Int32)) (bs := (([(c1 &&& (255 : Int32)), (c2 &&& (255 : Int32)), (c3 &&& (255 : Int32))] : List Int32)).map (fun c => c.toInt8.toInt32)) (n := 3) g_b73 W77.n0le E_b73 F_value_b73 F_coder_b73 V_b74 (cx.cmp.ext W77.e0) cx.g1 rfl rfl (by decide) (by decide) (Ch8.cons (and255 c1) (Ch8.cons (and255 c2) (Ch8.cons (and255 c3) Ch8.nil))) rfl (by decide) (by decide)) (fun v h' L' q => ⟨q.2.1, q.2.2.1⟩) (allS (List.mem_of_getElem? (i := 1) rfl) all0) (allS g_b73 all0) (k' := 3) (n' := 10) rfl rfl (by decide) (by decide) (by rw [hml]; rfl) (a := b73) (argsL := [(.ref b74)]) (rest := [(.ref b73)]) rfl (lenOf pd6 rfl) rfl (Nat.le_of_eq rfl) (hb hby d1_517) ?_
              intro v79 T79 h79 M79 L79 W79 q79
              obtain ⟨rfl, -, Kv78, E_n, F_cn, ts, k_ts, g_ts, hz_ts, -, F_vn, V_n⟩ := q79
              have ne_b73_ts : b73 ≠ ts := Nat.ne_of_lt (Nat.lt_of_lt_of_le E_b73.lt hz_ts)
              have ne_b74_ts : b74 ≠ ts := Nat.ne_of_lt (Nat.lt_of_lt_of_le V_b74.lt hz_ts)
              have sz_ts : h.size ≤ ts := Nat.le_trans K0.1 hz_ts
              replace E_b73 := E_b73.keep Kv78
              replace V_b74 := V_b74.keep Kv78 (ninS (Ne.symm ne_b73_b74) nin0)
              replace K0 := K0.trans Kv78 (allS (Or.inr sz_b73) all0)
              show Go p_ e_ bl_ _ (T79.setTop (mkF m_ 520 #[.val (.int mode), .val (.int pick), .val (.int pos), .val (.int c1), .val (.int c2), .val (.int c3), .val (.int ((pick &&& (2147483647 : Int32)) % (3 : Int32))), .val (.int (pos &&& (2147483647 : Int32))), .val (.int (c1 &&& (255 : Int32))), .val (.int (c2 &&& (255 : Int32))), .val (.int (c3 &&& (255 : Int32))), .val (.int (pick &&& (3 : Int32)))] [(.ref b73)]))
              have S_b73 : StrAt Z h79 b73 ts ([(c1 &&& (255 : Int32)), (c2 &&& (255 : Int32)), (c3 &&& (255 : Int32))] : List Int32) := ⟨E_n, F_cn, F_vn, ⟨_, V_n⟩, (Ch8.cons (and255 c1) (Ch8.cons (and255 c2) (Ch8.cons (and255 c3) Ch8.nil))), Nat.le_of_ble_eq_true rfl⟩
              exact W79.retA hret rfl rfl (hb hby d1_520) (by decide) (by decide) fun _ _ => ⟨K0, Or.inr ⟨b73, _, _, rfl, S_b73⟩⟩
set_option maxRecDepth 65536 in
set_option maxHeartbeats 40000000 in
theorem ct_refN {l : Launch} {Z : State} {a0 : Array Value} {n0 : Nat} {g1 : Int32} {e0 e1 e2 va q0 q1 q2 r0 r1 r2 : Addr} {kva : ClassId} {em : Addr} (cx : Ctx Z a0 n0 g1 e0 e1 e2 va q0 q1 q2 r0 r1 r2 kva em) {h : Heap} (O : Old Z n0 h)   :
    Ct l Z consts_1 n0 [] (⟨"com/example/loginconv/loginconv/AuthorizableKindOfPrimaryTypePinLaw", "reference", "(Ljava/lang/String;)Lcom/example/loginconv/loginconv/AuthorizableKind;"⟩ : MethodName) method_3_code 1 (some (.object "com/example/loginconv/loginconv/AuthorizableKind")) ({ frames := 1, cells := 6, slots := 136, locals := 14 } : Room) #[.null] [] h (fun v _ h' => v = some .null ∧ Keep h h' []) := by
  refine Ct.intro (plainFor_of_name pn5) O cx.ew ?_
  intro p_ e_ s_ m_ bl_ mt_ c_ T0 W0 hby hml hret hnm
  refine Go.st (fun t_ k_ => castTop (g' := mkF m_ 0 #[.val .null] []) (by first | (simp [entryFrame, mkF, argsToLocals, Value.category]; done) | rfl) k_) ?_
  show Go p_ e_ bl_ _ (T0.setTop (mkF m_ 0 #[.val .null] []))
  have K0 : Keep h h [] := Keep.refl _ _
  refine W0.ldc (cx.w 5 rfl) cx.str (EL := consts_1) (List.mem_of_getElem? (i := 0) rfl) (vs := (litV 5)) (z := 8) ⟨by decide, rfl⟩ (by decide) rfl (hb hby d2_0) (j := 32) (by decide) (by decide) (k' := 2) (n' := 36) rfl rfl (by decide) (by decide) ?_
  intro vm1 T1 h1 a1 d1 kA_d1 W1 E1 E_a1 F_coder_a1 F_value_a1 V_d1 nl1
  replace K0 := K0.ext E1
  show Go p_ e_ bl_ _ (T1.setTop (mkF m_ 2 #[.val .null] [(.ref a1)]))
  refine Go.st (fun _ => XS.aloadN W1.here W1.ex rfl (hb hby d2_2) rfl rfl) ?_
  show Go p_ e_ bl_ _ (T1.setTop (mkF m_ 3 #[.val .null] [.null, (.ref a1)]))
  refine W1.callV (y := (⟨"java/lang/String", "equals", "(Ljava/lang/Object;)Z"⟩ : MethodName)) (z := (⟨"java/lang/String", "equals", "(Ljava/lang/Object;)Z"⟩ : MethodName)) (cx.w 16 rfl) (cx.w 17 rfl) (cx.w 19 rfl) (cx.w 18 rfl) (cx.w 6 rfl) (cx.w 20 rfl) (W1.nf (cx.w 19 rfl)) (by decide) E_a1 (ct_eqNull cx W1.old a1) all0 (by decide) (Wd := 0) (by decide) (k' := 2) (n' := 36) rfl rfl (by decide) (by decide) (by rw [hml]; rfl) (a := a1) (argsL := [.null]) (rest := []) rfl (lenOf pd8 rfl) rfl (Nat.le_of_eq rfl) (hb hby d2_3) ?_
  intro v2 vm2 T2 h2 L2 W2 q2
  obtain ⟨rfl, eh_⟩ := q2
  subst h2
  show Go p_ e_ bl_ _ (T2.setTop (mkF m_ 6 #[.val .null] [(.int (0 : Int32))]))
  refine Go.st (fun _ => XS.ifYes W2.here W2.ex rfl (pc0 := 6) (pc' := 13) rfl (hb hby d2_6) rfl ((if0 _ _).trans (teq (rfl : (0 : Int32) = (0 : Int32))).1) (by decide) (by decide)) ?_
  show Go p_ e_ bl_ _ (T2.setTop (mkF m_ 13 #[.val .null] []))
  refine W2.ldc (cx.w 90 rfl) cx.str (EL := consts_1) (List.mem_of_getElem? (i := 1) rfl) (vs := (litV 90)) (z := 14) ⟨by decide, rfl⟩ (by decide) rfl (hb hby d2_13) (j := 56) (by decide) (by decide) (k' := 4) (n' := 96) rfl rfl (by decide) (by decide) ?_
  intro vm3 T3 h3 a3 d3 kA_d3 W3 E3 E_a3 F_coder_a3 F_value_a3 V_d3 nl3
  replace E_a1 := E_a1.ext E3
  replace F_coder_a1 := F_coder_a1.ext E3
  replace F_value_a1 := F_value_a1.ext E3
  replace V_d1 := V_d1.ext E3
  replace K0 := K0.ext E3
  show Go p_ e_ bl_ _ (T3.setTop (mkF m_ 15 #[.val .null] [(.ref a3)]))
  refine Go.st (fun _ => XS.aloadN W3.here W3.ex rfl (hb hby d2_15) rfl rfl) ?_
  show Go p_ e_ bl_ _ (T3.setTop (mkF m_ 16 #[.val .null] [.null, (.ref a3)]))
  refine W3.callV (y := (⟨"java/lang/String", "equals", "(Ljava/lang/Object;)Z"⟩ : MethodName)) (z := (⟨"java/lang/String", "equals", "(Ljava/lang/Object;)Z"⟩ : MethodName)) (cx.w 16 rfl) (cx.w 17 rfl) (cx.w 19 rfl) (cx.w 18 rfl) (cx.w 6 rfl) (cx.w 20 rfl) (W3.nf (cx.w 19 rfl)) (by decide) E_a3 (ct_eqNull cx W3.old a3) all0 (by decide) (Wd := 0) (by decide) (k' := 4) (n' := 96) rfl rfl (by decide) (by decide) (by rw [hml]; rfl) (a := a3) (argsL := [.null]) (rest := []) rfl (lenOf pd8 rfl) rfl (Nat.le_of_eq rfl) (hb hby d2_16) ?_
  intro v4 vm4 T4 h4 L4 W4 q4
  obtain ⟨rfl, eh_⟩ := q4
  subst h4
  show Go p_ e_ bl_ _ (T4.setTop (mkF m_ 19 #[.val .null] [(.int (0 : Int32))]))
  refine Go.st (fun _ => XS.ifYes W4.here W4.ex rfl (pc0 := 19) (pc' := 26) rfl (hb hby d2_19) rfl ((if0 _ _).trans (teq (rfl : (0 : Int32) = (0 : Int32))).1) (by decide) (by decide)) ?_
  show Go p_ e_ bl_ _ (T4.setTop (mkF m_ 26 #[.val .null] []))
  refine W4.ldc (cx.w 111 rfl) cx.str (EL := consts_1) (List.mem_of_getElem? (i := 2) rfl) (vs := (litV 111)) (z := 9) ⟨by decide, rfl⟩ (by decide) rfl (hb hby d2_26) (j := 36) (by decide) (by decide) (k' := 6) (n' := 136) rfl rfl (by decide) (by decide) ?_
  intro vm5 T5 h5 a5 d5 kA_d5 W5 E5 E_a5 F_coder_a5 F_value_a5 V_d5 nl5
  replace E_a1 := E_a1.ext E5
  replace F_coder_a1 := F_coder_a1.ext E5
  replace F_value_a1 := F_value_a1.ext E5
  replace V_d1 := V_d1.ext E5
  replace E_a3 := E_a3.ext E5
  replace F_coder_a3 := F_coder_a3.ext E5
  replace F_value_a3 := F_value_a3.ext E5
  replace V_d3 := V_d3.ext E5
  replace K0 := K0.ext E5
  show Go p_ e_ bl_ _ (T5.setTop (mkF m_ 28 #[.val .null] [(.ref a5)]))
  refine Go.st (fun _ => XS.aloadN W5.here W5.ex rfl (hb hby d2_28) rfl rfl) ?_
  show Go p_ e_ bl_ _ (T5.setTop (mkF m_ 29 #[.val .null] [.null, (.ref a5)]))
  refine W5.callV (y := (⟨"java/lang/String", "equals", "(Ljava/lang/Object;)Z"⟩ : MethodName)) (z := (⟨"java/lang/String", "equals", "(Ljava/lang/Object;)Z"⟩ : MethodName)) (cx.w 16 rfl) (cx.w 17 rfl) (cx.w 19 rfl) (cx.w 18 rfl) (cx.w 6 rfl) (cx.w 20 rfl) (W5.nf (cx.w 19 rfl)) (by decide) E_a5 (ct_eqNull cx W5.old a5) all0 (by decide) (Wd := 0) (by decide) (k' := 6) (n' := 136) rfl rfl (by decide) (by decide) (by rw [hml]; rfl) (a := a5) (argsL := [.null]) (rest := []) rfl (lenOf pd8 rfl) rfl (Nat.le_of_eq rfl) (hb hby d2_29) ?_
  intro v6 vm6 T6 h6 L6 W6 q6
  obtain ⟨rfl, eh_⟩ := q6
  subst h6
  show Go p_ e_ bl_ _ (T6.setTop (mkF m_ 32 #[.val .null] [(.int (0 : Int32))]))
  refine Go.st (fun _ => XS.ifYes W6.here W6.ex rfl (pc0 := 32) (pc' := 39) rfl (hb hby d2_32) rfl ((if0 _ _).trans (teq (rfl : (0 : Int32) = (0 : Int32))).1) (by decide) (by decide)) ?_
  show Go p_ e_ bl_ _ (T6.setTop (mkF m_ 39 #[.val .null] []))
  refine Go.st (fun _ => XS.aconstNull W6.here W6.ex rfl (hb hby d2_39)) ?_
  show Go p_ e_ bl_ _ (T6.setTop (mkF m_ 40 #[.val .null] [.null]))
  exact W6.retA hret rfl rfl (hb hby d2_40) (by decide) (by decide) fun _ _ => ⟨rfl, K0⟩
set_option maxRecDepth 65536 in
set_option maxHeartbeats 40000000 in
theorem ct_ref {l : Launch} {Z : State} {a0 : Array Value} {n0 : Nat} {g1 : Int32} {e0 e1 e2 va q0 q1 q2 r0 r1 r2 : Addr} {kva : ClassId} {em : Addr} (cx : Ctx Z a0 n0 g1 e0 e1 e2 va q0 q1 q2 r0 r1 r2 kva em) {h : Heap} (O : Old Z n0 h) (a t : Addr) (cs : List Int32) (S_a : StrAt Z h a t cs) :
    Ct l Z consts_1 n0 [] (⟨"com/example/loginconv/loginconv/AuthorizableKindOfPrimaryTypePinLaw", "reference", "(Ljava/lang/String;)Lcom/example/loginconv/loginconv/AuthorizableKind;"⟩ : MethodName) method_3_code 1 (some (.object "com/example/loginconv/loginconv/AuthorizableKind")) ({ frames := 2, cells := 6, slots := 136, locals := 28 } : Room) #[(.ref a)] [] h (fun v _ h' => v = some (K3 cs e0 e1 e2) ∧ Keep h h' []) := by
  refine Ct.intro (plainFor_of_name pn5) O cx.ew ?_
  intro p_ e_ s_ m_ bl_ mt_ c_ T0 W0 hby hml hret hnm
  refine Go.st (fun t_ k_ => castTop (g' := mkF m_ 0 #[.val (.ref a)] []) (by first | (simp [entryFrame, mkF, argsToLocals, Value.category]; done) | rfl) k_) ?_
  show Go p_ e_ bl_ _ (T0.setTop (mkF m_ 0 #[.val (.ref a)] []))
  have K0 : Keep h h [] := Keep.refl _ _
  refine W0.ldc (cx.w 5 rfl) cx.str (EL := consts_1) (List.mem_of_getElem? (i := 0) rfl) (vs := (litV 5)) (z := 8) ⟨by decide, rfl⟩ (by decide) rfl (hb hby d2_0) (j := 32) (by decide) (by decide) (k' := 2) (n' := 36) rfl rfl (by decide) (by decide) ?_
  intro vm1 T1 h1 a1 d1 kA_d1 W1 E1 E_a1 F_coder_a1 F_value_a1 V_d1 nl1
  replace S_a := S_a.ext E1
  replace K0 := K0.ext E1
  show Go p_ e_ bl_ _ (T1.setTop (mkF m_ 2 #[.val (.ref a)] [(.ref a1)]))
  have S_a1 : StrAt Z h1 a1 d1 (litC 5) := ⟨E_a1, F_coder_a1, F_value_a1, ⟨_, V_d1⟩, (by decide +kernel : ∀ c ∈ litC 5, ¬ c < 0 ∧ ¬ (255 : Int32) < c), (by decide +kernel : (litC 5).length ≤ 4000)⟩
  show Go p_ e_ bl_ _ (T1.setTop (mkF m_ 2 #[.val (.ref a)] [(.ref a1)]))
  refine Go.st (fun _ => XS.aloadN W1.here W1.ex rfl (hb hby d2_2) rfl rfl) ?_
  show Go p_ e_ bl_ _ (T1.setTop (mkF m_ 3 #[.val (.ref a)] [(.ref a), (.ref a1)]))
  obtain ⟨k1_2, V1_2⟩ := S_a1.kb
  obtain ⟨k2_2, V2_2⟩ := S_a.kb
  have E1_2 := S_a1.E
  refine W1.libV (y := (⟨"java/lang/String", "equals", "(Ljava/lang/Object;)Z"⟩ : MethodName)) (z := (⟨"java/lang/String", "equals", "(Ljava/lang/Object;)Z"⟩ : MethodName)) (cx.w 16 rfl) (cx.w 17 rfl) (cx.w 19 rfl) (cx.w 18 rfl) (W1.nf (cx.w 19 rfl)) (by decide) E1_2 (Q := fun v h' L' => ((v = some (.int 1) ∧ (litC 5) = cs) ∨ (v = some (.int 0) ∧ ¬ (litC 5) = cs)) ∧ L' = [] ∧ h' = h1) (ws := []) (Wd := 0) (ck := 0) (cn := 0) (StrChars.Road.eqW (W := 0) W1.hZ cx.qw (kI := 4) (cx.w 7 rfl) (cs := (litC 5)) S_a1.1 S_a1.2.2.1 S_a1.2.1 V1_2 (StrChars.Road.codOf rfl fun c hc => (S_a1.ch c hc).2) S_a1.ch.up S_a1.le (ds := cs) S_a.1 S_a.2.2.1 S_a.2.1 V2_2 (StrChars.Road.codOf rfl fun c hc => (S_a.ch c hc).2) S_a.ch.up S_a.le (cx.cmp.ext W1.e0) cx.g1 (by decide) (by decide)) (fun v h' L' q => ⟨by rw [q.2.1]; exact Fr.nil _, by rw [q.2.2]; exact Keep.refl _ _⟩) all0 all0 (k' := 2) (n' := 36) rfl rfl (by decide) (by decide) (by rw [hml]; rfl) (a := a1) (argsL := [(.ref a)]) (rest := []) rfl (lenOf pd8 rfl) rfl (Nat.le_of_eq rfl) (hb hby d2_3) ?_
  intro v3 T3 h3 M3 L3 W3 q3
  rcases q3 with ⟨⟨rfl, he⟩ | ⟨rfl, he⟩, -, eh_⟩
  · subst h3
    show Go p_ e_ bl_ _ (T3.setTop (mkF m_ 6 #[.val (.ref a)] [(.int (1 : Int32))]))
    refine Go.st (fun _ => XS.ifNo W3.here W3.ex rfl (hb hby d2_6) rfl ((if0 _ _).trans (feq ((by decide) : ¬ ((1 : Int32) = (0 : Int32)))).1)) ?_
    show Go p_ e_ bl_ _ (T3.setTop (mkF m_ 9 #[.val (.ref a)] []))
    refine W3.getS (cx.w 21 rfl) Via.refl (cx.st0.ext W3.e0) (hb hby d2_9) ?_
    intro T4 W4
    show Go p_ e_ bl_ _ (T4.setTop (mkF m_ 12 #[.val (.ref a)] [(.ref e0)]))
    exact W4.retA hret rfl rfl (hb hby d2_12) (by decide) (by decide) fun _ _ => ⟨congrArg some (by simp only [K3, if_pos he.symm] : K3 cs e0 e1 e2 = .ref e0).symm, K0⟩
  · subst h3
    show Go p_ e_ bl_ _ (T3.setTop (mkF m_ 6 #[.val (.ref a)] [(.int (0 : Int32))]))
    have hn0 := he
    refine Go.st (fun _ => XS.ifYes W3.here W3.ex rfl (pc0 := 6) (pc' := 13) rfl (hb hby d2_6) rfl ((if0 _ _).trans (teq (rfl : (0 : Int32) = (0 : Int32))).1) (by decide) (by decide)) ?_
    show Go p_ e_ bl_ _ (T3.setTop (mkF m_ 13 #[.val (.ref a)] []))
    refine W3.ldc (cx.w 90 rfl) cx.str (EL := consts_1) (List.mem_of_getElem? (i := 1) rfl) (vs := (litV 90)) (z := 14) ⟨by decide, rfl⟩ (by decide) rfl (hb hby d2_13) (j := 56) (by decide) (by decide) (k' := 4) (n' := 96) rfl rfl (by decide) (by decide) ?_
    intro vm5 T5 h5 a5 d5 kA_d5 W5 E5 E_a5 F_coder_a5 F_value_a5 V_d5 nl5
    replace S_a := S_a.ext E5
    replace S_a1 := S_a1.ext E5
    replace E1_2 := E1_2.ext E5
    replace K0 := K0.ext E5
    show Go p_ e_ bl_ _ (T5.setTop (mkF m_ 15 #[.val (.ref a)] [(.ref a5)]))
    have S_a5 : StrAt Z h5 a5 d5 (litC 90) := ⟨E_a5, F_coder_a5, F_value_a5, ⟨_, V_d5⟩, (by decide +kernel : ∀ c ∈ litC 90, ¬ c < 0 ∧ ¬ (255 : Int32) < c), (by decide +kernel : (litC 90).length ≤ 4000)⟩
    show Go p_ e_ bl_ _ (T5.setTop (mkF m_ 15 #[.val (.ref a)] [(.ref a5)]))
    refine Go.st (fun _ => XS.aloadN W5.here W5.ex rfl (hb hby d2_15) rfl rfl) ?_
    show Go p_ e_ bl_ _ (T5.setTop (mkF m_ 16 #[.val (.ref a)] [(.ref a), (.ref a5)]))
    obtain ⟨k1_6, V1_6⟩ := S_a5.kb
    obtain ⟨k2_6, V2_6⟩ := S_a.kb
    have E1_6 := S_a5.E
    refine W5.libV (y := (⟨"java/lang/String", "equals", "(Ljava/lang/Object;)Z"⟩ : MethodName)) (z := (⟨"java/lang/String", "equals", "(Ljava/lang/Object;)Z"⟩ : MethodName)) (cx.w 16 rfl) (cx.w 17 rfl) (cx.w 19 rfl) (cx.w 18 rfl) (W5.nf (cx.w 19 rfl)) (by decide) E1_6 (Q := fun v h' L' => ((v = some (.int 1) ∧ (litC 90) = cs) ∨ (v = some (.int 0) ∧ ¬ (litC 90) = cs)) ∧ L' = [] ∧ h' = h5) (ws := []) (Wd := 0) (ck := 0) (cn := 0) (StrChars.Road.eqW (W := 0) W5.hZ cx.qw (kI := 4) (cx.w 7 rfl) (cs := (litC 90)) S_a5.1 S_a5.2.2.1 S_a5.2.1 V1_6 (StrChars.Road.codOf rfl fun c hc => (S_a5.ch c hc).2) S_a5.ch.up S_a5.le (ds := cs) S_a.1 S_a.2.2.1 S_a.2.1 V2_6 (StrChars.Road.codOf rfl fun c hc => (S_a.ch c hc).2) S_a.ch.up S_a.le (cx.cmp.ext W5.e0) cx.g1 (by decide) (by decide)) (fun v h' L' q => ⟨by rw [q.2.1]; exact Fr.nil _, by rw [q.2.2]; exact Keep.refl _ _⟩) all0 all0 (k' := 4) (n' := 96) rfl rfl (by decide) (by decide) (by rw [hml]; rfl) (a := a5) (argsL := [(.ref a)]) (rest := []) rfl (lenOf pd8 rfl) rfl (Nat.le_of_eq rfl) (hb hby d2_16) ?_
    intro v7 T7 h7 M7 L7 W7 q7
    rcases q7 with ⟨⟨rfl, he⟩ | ⟨rfl, he⟩, -, eh_⟩
    · subst h7
      show Go p_ e_ bl_ _ (T7.setTop (mkF m_ 19 #[.val (.ref a)] [(.int (1 : Int32))]))
      refine Go.st (fun _ => XS.ifNo W7.here W7.ex rfl (hb hby d2_19) rfl ((if0 _ _).trans (feq ((by decide) : ¬ ((1 : Int32) = (0 : Int32)))).1)) ?_
      show Go p_ e_ bl_ _ (T7.setTop (mkF m_ 22 #[.val (.ref a)] []))
      refine W7.getS (cx.w 91 rfl) Via.refl (cx.st1.ext W7.e0) (hb hby d2_22) ?_
      intro T8 W8
      show Go p_ e_ bl_ _ (T8.setTop (mkF m_ 25 #[.val (.ref a)] [(.ref e1)]))
      exact W8.retA hret rfl rfl (hb hby d2_25) (by decide) (by decide) fun _ _ => ⟨congrArg some (by simp only [K3, if_neg (Ne.symm hn0), if_pos he.symm] : K3 cs e0 e1 e2 = .ref e1).symm, K0⟩
    · subst h7
      show Go p_ e_ bl_ _ (T7.setTop (mkF m_ 19 #[.val (.ref a)] [(.int (0 : Int32))]))
      have hn1 := he
      refine Go.st (fun _ => XS.ifYes W7.here W7.ex rfl (pc0 := 19) (pc' := 26) rfl (hb hby d2_19) rfl ((if0 _ _).trans (teq (rfl : (0 : Int32) = (0 : Int32))).1) (by decide) (by decide)) ?_
      show Go p_ e_ bl_ _ (T7.setTop (mkF m_ 26 #[.val (.ref a)] []))
      refine W7.ldc (cx.w 111 rfl) cx.str (EL := consts_1) (List.mem_of_getElem? (i := 2) rfl) (vs := (litV 111)) (z := 9) ⟨by decide, rfl⟩ (by decide) rfl (hb hby d2_26) (j := 36) (by decide) (by decide) (k' := 6) (n' := 136) rfl rfl (by decide) (by decide) ?_
      intro vm9 T9 h9 a9 d9 kA_d9 W9 E9 E_a9 F_coder_a9 F_value_a9 V_d9 nl9
      replace S_a := S_a.ext E9
      replace S_a1 := S_a1.ext E9
      replace E1_2 := E1_2.ext E9
      replace S_a5 := S_a5.ext E9
      replace E1_6 := E1_6.ext E9
      replace K0 := K0.ext E9
      show Go p_ e_ bl_ _ (T9.setTop (mkF m_ 28 #[.val (.ref a)] [(.ref a9)]))
      have S_a9 : StrAt Z h9 a9 d9 (litC 111) := ⟨E_a9, F_coder_a9, F_value_a9, ⟨_, V_d9⟩, (by decide +kernel : ∀ c ∈ litC 111, ¬ c < 0 ∧ ¬ (255 : Int32) < c), (by decide +kernel : (litC 111).length ≤ 4000)⟩
      show Go p_ e_ bl_ _ (T9.setTop (mkF m_ 28 #[.val (.ref a)] [(.ref a9)]))
      refine Go.st (fun _ => XS.aloadN W9.here W9.ex rfl (hb hby d2_28) rfl rfl) ?_
      show Go p_ e_ bl_ _ (T9.setTop (mkF m_ 29 #[.val (.ref a)] [(.ref a), (.ref a9)]))
      obtain ⟨k1_10, V1_10⟩ := S_a9.kb
      obtain ⟨k2_10, V2_10⟩ := S_a.kb
      have E1_10 := S_a9.E
      refine W9.libV (y := (⟨"java/lang/String", "equals", "(Ljava/lang/Object;)Z"⟩ : MethodName)) (z := (⟨"java/lang/String", "equals", "(Ljava/lang/Object;)Z"⟩ : MethodName)) (cx.w 16 rfl) (cx.w 17 rfl) (cx.w 19 rfl) (cx.w 18 rfl) (W9.nf (cx.w 19 rfl)) (by decide) E1_10 (Q := fun v h' L' => ((v = some (.int 1) ∧ (litC 111) = cs) ∨ (v = some (.int 0) ∧ ¬ (litC 111) = cs)) ∧ L' = [] ∧ h' = h9) (ws := []) (Wd := 0) (ck := 0) (cn := 0) (StrChars.Road.eqW (W := 0) W9.hZ cx.qw (kI := 4) (cx.w 7 rfl) (cs := (litC 111)) S_a9.1 S_a9.2.2.1 S_a9.2.1 V1_10 (StrChars.Road.codOf rfl fun c hc => (S_a9.ch c hc).2) S_a9.ch.up S_a9.le (ds := cs) S_a.1 S_a.2.2.1 S_a.2.1 V2_10 (StrChars.Road.codOf rfl fun c hc => (S_a.ch c hc).2) S_a.ch.up S_a.le (cx.cmp.ext W9.e0) cx.g1 (by decide) (by decide)) (fun v h' L' q => ⟨by rw [q.2.1]; exact Fr.nil _, by rw [q.2.2]; exact Keep.refl _ _⟩) all0 all0 (k' := 6) (n' := 136) rfl rfl (by decide) (by decide) (by rw [hml]; rfl) (a := a9) (argsL := [(.ref a)]) (rest := []) rfl (lenOf pd8 rfl) rfl (Nat.le_of_eq rfl) (hb hby d2_29) ?_
      intro v11 T11 h11 M11 L11 W11 q11
      rcases q11 with ⟨⟨rfl, he⟩ | ⟨rfl, he⟩, -, eh_⟩
      · subst h11
        show Go p_ e_ bl_ _ (T11.setTop (mkF m_ 32 #[.val (.ref a)] [(.int (1 : Int32))]))
        refine Go.st (fun _ => XS.ifNo W11.here W11.ex rfl (hb hby d2_32) rfl ((if0 _ _).trans (feq ((by decide) : ¬ ((1 : Int32) = (0 : Int32)))).1)) ?_
        show Go p_ e_ bl_ _ (T11.setTop (mkF m_ 35 #[.val (.ref a)] []))
        refine W11.getS (cx.w 118 rfl) Via.refl (cx.st2.ext W11.e0) (hb hby d2_35) ?_
        intro T12 W12
        show Go p_ e_ bl_ _ (T12.setTop (mkF m_ 38 #[.val (.ref a)] [(.ref e2)]))
        exact W12.retA hret rfl rfl (hb hby d2_38) (by decide) (by decide) fun _ _ => ⟨congrArg some (by simp only [K3, if_neg (Ne.symm hn0), if_neg (Ne.symm hn1), if_pos he.symm] : K3 cs e0 e1 e2 = .ref e2).symm, K0⟩
      · subst h11
        show Go p_ e_ bl_ _ (T11.setTop (mkF m_ 32 #[.val (.ref a)] [(.int (0 : Int32))]))
        have hn2 := he
        refine Go.st (fun _ => XS.ifYes W11.here W11.ex rfl (pc0 := 32) (pc' := 39) rfl (hb hby d2_32) rfl ((if0 _ _).trans (teq (rfl : (0 : Int32) = (0 : Int32))).1) (by decide) (by decide)) ?_
        show Go p_ e_ bl_ _ (T11.setTop (mkF m_ 39 #[.val (.ref a)] []))
        refine Go.st (fun _ => XS.aconstNull W11.here W11.ex rfl (hb hby d2_39)) ?_
        show Go p_ e_ bl_ _ (T11.setTop (mkF m_ 40 #[.val (.ref a)] [.null]))
        exact W11.retA hret rfl rfl (hb hby d2_40) (by decide) (by decide) fun _ _ => ⟨congrArg some (by simp only [K3, if_neg (Ne.symm hn0), if_neg (Ne.symm hn1), if_neg (Ne.symm hn2)] : K3 cs e0 e1 e2 = .null).symm, K0⟩
set_option maxRecDepth 65536 in
set_option maxHeartbeats 40000000 in
theorem ct_fromNull {l : Launch} {Z : State} {a0 : Array Value} {n0 : Nat} {g1 : Int32} {e0 e1 e2 va q0 q1 q2 r0 r1 r2 : Addr} {kva : ClassId} {em : Addr} (cx : Ctx Z a0 n0 g1 e0 e1 e2 va q0 q1 q2 r0 r1 r2 kva em) {h : Heap} (O : Old Z n0 h)   :
    Ct l Z consts_1 n0 [] (⟨"com/example/loginconv/loginconv/AuthorizableKind", "ofPrimaryType", "(Ljava/lang/String;)Ljava/util/Optional;"⟩ : MethodName) prog_1_method_6_code 5 (some (.object "java/util/Optional")) ({ frames := 2, cells := 1, slots := 3, locals := 25 } : Room) #[.null] [] h (fun v _ h' => v = some (.ref em) ∧ Keep h h' []) := by
  refine Ct.intro (plainFor_of_name pn4) O cx.ew ?_
  intro p_ e_ s_ m_ bl_ mt_ c_ T0 W0 hby hml hret hnm
  refine Go.st (fun t_ k_ => castTop (g' := mkF m_ 0 #[.val .null, .unset, .unset, .unset, .unset] []) (by first | (simp [entryFrame, mkF, argsToLocals, Value.category]; done) | rfl) k_) ?_
  show Go p_ e_ bl_ _ (T0.setTop (mkF m_ 0 #[.val .null, .unset, .unset, .unset, .unset] []))
  have K0 : Keep h h [] := Keep.refl _ _
  have F_e0 := cx.fe0.ext W0.e0
  have S_q0 := cx.sq0.ext W0.e0
  have X_e0 := cx.ex0.ext W0.e0
  have F_e1 := cx.fe1.ext W0.e0
  have S_q1 := cx.sq1.ext W0.e0
  have X_e1 := cx.ex1.ext W0.e0
  have F_e2 := cx.fe2.ext W0.e0
  have S_q2 := cx.sq2.ext W0.e0
  have X_e2 := cx.ex2.ext W0.e0
  refine W0.callS (y := (⟨"com/example/loginconv/loginconv/AuthorizableKind", "values", "()[Lcom/example/loginconv/loginconv/AuthorizableKind;"⟩ : MethodName)) (cx.w 27 rfl) (cx.w 28 rfl) (cx.w 22 rfl) (cx.w 29 rfl) (by decide) (ct_values cx W0.old ) all0 (by decide) (Wd := 0) (by decide) (k' := 1) (n' := 3) rfl rfl (by decide) (by decide) (by rw [hml]; rfl) (argsL := []) (rest := []) rfl (lenOf pd9 rfl) rfl (Nat.le_of_eq rfl) (hb hby d4_0) ?_
  intro v1 vm1 T1 h1 L1 W1 q1
  obtain ⟨b, rfl, hz_b, K1, V_b⟩ := q1
  have ne_e0_b : e0 ≠ b := Nat.ne_of_lt (Nat.lt_of_lt_of_le F_e0.lt hz_b)
  have ne_q0_b : q0 ≠ b := Nat.ne_of_lt (Nat.lt_of_lt_of_le S_q0.lt hz_b)
  have ne_r0_b : r0 ≠ b := Nat.ne_of_lt (Nat.lt_of_lt_of_le S_q0.ltt hz_b)
  have ne_e1_b : e1 ≠ b := Nat.ne_of_lt (Nat.lt_of_lt_of_le F_e1.lt hz_b)
  have ne_q1_b : q1 ≠ b := Nat.ne_of_lt (Nat.lt_of_lt_of_le S_q1.lt hz_b)
  have ne_r1_b : r1 ≠ b := Nat.ne_of_lt (Nat.lt_of_lt_of_le S_q1.ltt hz_b)
  have ne_e2_b : e2 ≠ b := Nat.ne_of_lt (Nat.lt_of_lt_of_le F_e2.lt hz_b)
  have ne_q2_b : q2 ≠ b := Nat.ne_of_lt (Nat.lt_of_lt_of_le S_q2.lt hz_b)
  have ne_r2_b : r2 ≠ b := Nat.ne_of_lt (Nat.lt_of_lt_of_le S_q2.ltt hz_b)
  have sz_b : h.size ≤ b := Nat.le_trans K0.1 hz_b
  replace F_e0 := F_e0.keep K1 nin0
  replace S_q0 := S_q0.keep K1 nin0 nin0
  replace X_e0 := X_e0.keep K1
  replace F_e1 := F_e1.keep K1 nin0
  replace S_q1 := S_q1.keep K1 nin0 nin0
  replace X_e1 := X_e1.keep K1
  replace F_e2 := F_e2.keep K1 nin0
  replace S_q2 := S_q2.keep K1 nin0 nin0
  replace X_e2 := X_e2.keep K1
  replace K0 := K0.trans K1 all0
  show Go p_ e_ bl_ _ (T1.setTop (mkF m_ 3 #[.val .null, .unset, .unset, .unset, .unset] [(.ref b)]))
  refine Go.st (fun _ => XS.astoreN W1.here W1.ex rfl (hb hby d4_3) rfl rfl (l' := #[.val .null, .val (.ref b), .unset, .unset, .unset]) rfl) ?_
  show Go p_ e_ bl_ _ (T1.setTop (mkF m_ 4 #[.val .null, .val (.ref b), .unset, .unset, .unset] []))
  refine Go.st (fun _ => XS.aloadN W1.here W1.ex rfl (hb hby d4_4) rfl rfl) ?_
  show Go p_ e_ bl_ _ (T1.setTop (mkF m_ 5 #[.val .null, .val (.ref b), .unset, .unset, .unset] [(.ref b)]))
  refine W1.alen V_b (hb hby d4_5) ?_
  show Go p_ e_ bl_ _ (T1.setTop (mkF m_ 6 #[.val .null, .val (.ref b), .unset, .unset, .unset] [(.int (3 : Int32))]))
  refine Go.st (fun _ => XS.istoreN W1.here W1.ex rfl (hb hby d4_6) rfl (l' := #[.val .null, .val (.ref b), .val (.int (3 : Int32)), .unset, .unset]) rfl) ?_
  show Go p_ e_ bl_ _ (T1.setTop (mkF m_ 7 #[.val .null, .val (.ref b), .val (.int (3 : Int32)), .unset, .unset] []))
  refine Go.st (fun _ => XS.iconst W1.here W1.ex rfl (hb hby d4_7)) ?_
  show Go p_ e_ bl_ _ (T1.setTop (mkF m_ 8 #[.val .null, .val (.ref b), .val (.int (3 : Int32)), .unset, .unset] [(.int (0 : Int32))]))
  refine Go.st (fun _ => XS.istoreN W1.here W1.ex rfl (hb hby d4_8) rfl (l' := #[.val .null, .val (.ref b), .val (.int (3 : Int32)), .val (.int (0 : Int32)), .unset]) rfl) ?_
  show Go p_ e_ bl_ _ (T1.setTop (mkF m_ 9 #[.val .null, .val (.ref b), .val (.int (3 : Int32)), .val (.int (0 : Int32)), .unset] []))
  refine Go.st (fun _ => XS.iloadN W1.here W1.ex rfl (hb hby d4_9) rfl) ?_
  show Go p_ e_ bl_ _ (T1.setTop (mkF m_ 10 #[.val .null, .val (.ref b), .val (.int (3 : Int32)), .val (.int (0 : Int32)), .unset] [(.int (0 : Int32))]))
  refine Go.st (fun _ => XS.iloadN W1.here W1.ex rfl (hb hby d4_10) rfl) ?_
  show Go p_ e_ bl_ _ (T1.setTop (mkF m_ 11 #[.val .null, .val (.ref b), .val (.int (3 : Int32)), .val (.int (0 : Int32)), .unset] [(.int (3 : Int32)), (.int (0 : Int32))]))
  refine Go.st (fun _ => XS.icmpNo W1.here W1.ex rfl (hb hby d4_11) rfl (tlt ((by decide) : (0 : Int32) < (3 : Int32))).2.1) ?_
  show Go p_ e_ bl_ _ (T1.setTop (mkF m_ 14 #[.val .null, .val (.ref b), .val (.int (3 : Int32)), .val (.int (0 : Int32)), .unset] []))
  refine Go.st (fun _ => XS.aloadN W1.here W1.ex rfl (hb hby d4_14) rfl rfl) ?_
  show Go p_ e_ bl_ _ (T1.setTop (mkF m_ 15 #[.val .null, .val (.ref b), .val (.int (3 : Int32)), .val (.int (0 : Int32)), .unset] [(.ref b)]))
  refine Go.st (fun _ => XS.iloadN W1.here W1.ex rfl (hb hby d4_15) rfl) ?_
  show Go p_ e_ bl_ _ (T1.setTop (mkF m_ 16 #[.val .null, .val (.ref b), .val (.int (3 : Int32)), .val (.int (0 : Int32)), .unset] [(.int (0 : Int32)), (.ref b)]))
  refine W1.ldA V_b rfl (j := (0 : Int32)) (v := .ref e0) ⟨by decide, by decide⟩ rfl (hb hby d4_16) ?_
  show Go p_ e_ bl_ _ (T1.setTop (mkF m_ 17 #[.val .null, .val (.ref b), .val (.int (3 : Int32)), .val (.int (0 : Int32)), .unset] [(.ref e0)]))
  refine Go.st (fun _ => XS.astore W1.here W1.ex rfl (hb hby d4_17) rfl rfl (l' := #[.val .null, .val (.ref b), .val (.int (3 : Int32)), .val (.int (0 : Int32)), .val (.ref e0)]) rfl) ?_
  show Go p_ e_ bl_ _ (T1.setTop (mkF m_ 19 #[.val .null, .val (.ref b), .val (.int (3 : Int32)), .val (.int (0 : Int32)), .val (.ref e0)] []))
  refine Go.st (fun _ => XS.aload W1.here W1.ex rfl (hb hby d4_19) rfl rfl) ?_
  show Go p_ e_ bl_ _ (T1.setTop (mkF m_ 21 #[.val .null, .val (.ref b), .val (.int (3 : Int32)), .val (.int (0 : Int32)), .val (.ref e0)] [(.ref e0)]))
  refine W1.getF (cx.w 44 rfl) Via.refl F_e0 (hb hby d4_21) ?_
  intro T2 W2
  show Go p_ e_ bl_ _ (T2.setTop (mkF m_ 24 #[.val .null, .val (.ref b), .val (.int (3 : Int32)), .val (.int (0 : Int32)), .val (.ref e0)] [(.ref q0)]))
  refine Go.st (fun _ => XS.aloadN W2.here W2.ex rfl (hb hby d4_24) rfl rfl) ?_
  show Go p_ e_ bl_ _ (T2.setTop (mkF m_ 25 #[.val .null, .val (.ref b), .val (.int (3 : Int32)), .val (.int (0 : Int32)), .val (.ref e0)] [.null, (.ref q0)]))
  have Eq0 := S_q0.E
  refine W2.callV (y := (⟨"java/lang/String", "equals", "(Ljava/lang/Object;)Z"⟩ : MethodName)) (z := (⟨"java/lang/String", "equals", "(Ljava/lang/Object;)Z"⟩ : MethodName)) (cx.w 46 rfl) (cx.w 17 rfl) (cx.w 19 rfl) (cx.w 18 rfl) (cx.w 6 rfl) (cx.w 20 rfl) (W2.nf (cx.w 19 rfl)) (by decide) Eq0 (ct_eqNull cx W2.old q0) all0 (by decide) (Wd := 0) (by decide) (k' := 1) (n' := 3) rfl rfl (by decide) (by decide) (by rw [hml]; rfl) (a := q0) (argsL := [.null]) (rest := []) rfl (lenOf pd8 rfl) rfl (Nat.le_of_eq rfl) (hb hby d4_25) ?_
  intro v3 vm3 T3 h3 L3 W3 q3
  obtain ⟨rfl, eh_⟩ := q3
  subst h3
  show Go p_ e_ bl_ _ (T3.setTop (mkF m_ 28 #[.val .null, .val (.ref b), .val (.int (3 : Int32)), .val (.int (0 : Int32)), .val (.ref e0)] [(.int (0 : Int32))]))
  refine Go.st (fun _ => XS.ifYes W3.here W3.ex rfl (pc0 := 28) (pc' := 37) rfl (hb hby d4_28) rfl ((if0 _ _).trans (teq (rfl : (0 : Int32) = (0 : Int32))).1) (by decide) (by decide)) ?_
  show Go p_ e_ bl_ _ (T3.setTop (mkF m_ 37 #[.val .null, .val (.ref b), .val (.int (3 : Int32)), .val (.int (0 : Int32)), .val (.ref e0)] []))
  refine Go.st (fun _ => XS.iinc W3.here W3.ex rfl (hb hby d4_37) rfl (l' := #[.val .null, .val (.ref b), .val (.int (3 : Int32)), .val (.int (1 : Int32)), .val (.ref e0)]) rfl) ?_
  show Go p_ e_ bl_ _ (T3.setTop (mkF m_ 40 #[.val .null, .val (.ref b), .val (.int (3 : Int32)), .val (.int (1 : Int32)), .val (.ref e0)] []))
  refine Go.st (fun _ => XS.goto W3.here W3.ex rfl (pc0 := 40) (pc' := 9) rfl (hb hby d4_40) (by decide) (by decide)) ?_
  show Go p_ e_ bl_ _ (T3.setTop (mkF m_ 9 #[.val .null, .val (.ref b), .val (.int (3 : Int32)), .val (.int (1 : Int32)), .val (.ref e0)] []))
  refine Go.st (fun _ => XS.iloadN W3.here W3.ex rfl (hb hby d4_9) rfl) ?_
  show Go p_ e_ bl_ _ (T3.setTop (mkF m_ 10 #[.val .null, .val (.ref b), .val (.int (3 : Int32)), .val (.int (1 : Int32)), .val (.ref e0)] [(.int (1 : Int32))]))
  refine Go.st (fun _ => XS.iloadN W3.here W3.ex rfl (hb hby d4_10) rfl) ?_
  show Go p_ e_ bl_ _ (T3.setTop (mkF m_ 11 #[.val .null, .val (.ref b), .val (.int (3 : Int32)), .val (.int (1 : Int32)), .val (.ref e0)] [(.int (3 : Int32)), (.int (1 : Int32))]))
  refine Go.st (fun _ => XS.icmpNo W3.here W3.ex rfl (hb hby d4_11) rfl (tlt ((by decide) : (1 : Int32) < (3 : Int32))).2.1) ?_
  show Go p_ e_ bl_ _ (T3.setTop (mkF m_ 14 #[.val .null, .val (.ref b), .val (.int (3 : Int32)), .val (.int (1 : Int32)), .val (.ref e0)] []))
  refine Go.st (fun _ => XS.aloadN W3.here W3.ex rfl (hb hby d4_14) rfl rfl) ?_
  show Go p_ e_ bl_ _ (T3.setTop (mkF m_ 15 #[.val .null, .val (.ref b), .val (.int (3 : Int32)), .val (.int (1 : Int32)), .val (.ref e0)] [(.ref b)]))
  refine Go.st (fun _ => XS.iloadN W3.here W3.ex rfl (hb hby d4_15) rfl) ?_
  show Go p_ e_ bl_ _ (T3.setTop (mkF m_ 16 #[.val .null, .val (.ref b), .val (.int (3 : Int32)), .val (.int (1 : Int32)), .val (.ref e0)] [(.int (1 : Int32)), (.ref b)]))
  refine W3.ldA V_b rfl (j := (1 : Int32)) (v := .ref e1) ⟨by decide, by decide⟩ rfl (hb hby d4_16) ?_
  show Go p_ e_ bl_ _ (T3.setTop (mkF m_ 17 #[.val .null, .val (.ref b), .val (.int (3 : Int32)), .val (.int (1 : Int32)), .val (.ref e0)] [(.ref e1)]))
  refine Go.st (fun _ => XS.astore W3.here W3.ex rfl (hb hby d4_17) rfl rfl (l' := #[.val .null, .val (.ref b), .val (.int (3 : Int32)), .val (.int (1 : Int32)), .val (.ref e1)]) rfl) ?_
  show Go p_ e_ bl_ _ (T3.setTop (mkF m_ 19 #[.val .null, .val (.ref b), .val (.int (3 : Int32)), .val (.int (1 : Int32)), .val (.ref e1)] []))
  refine Go.st (fun _ => XS.aload W3.here W3.ex rfl (hb hby d4_19) rfl rfl) ?_
  show Go p_ e_ bl_ _ (T3.setTop (mkF m_ 21 #[.val .null, .val (.ref b), .val (.int (3 : Int32)), .val (.int (1 : Int32)), .val (.ref e1)] [(.ref e1)]))
  refine W3.getF (cx.w 44 rfl) Via.refl F_e1 (hb hby d4_21) ?_
  intro T4 W4
  show Go p_ e_ bl_ _ (T4.setTop (mkF m_ 24 #[.val .null, .val (.ref b), .val (.int (3 : Int32)), .val (.int (1 : Int32)), .val (.ref e1)] [(.ref q1)]))
  refine Go.st (fun _ => XS.aloadN W4.here W4.ex rfl (hb hby d4_24) rfl rfl) ?_
  show Go p_ e_ bl_ _ (T4.setTop (mkF m_ 25 #[.val .null, .val (.ref b), .val (.int (3 : Int32)), .val (.int (1 : Int32)), .val (.ref e1)] [.null, (.ref q1)]))
  have Eq1 := S_q1.E
  refine W4.callV (y := (⟨"java/lang/String", "equals", "(Ljava/lang/Object;)Z"⟩ : MethodName)) (z := (⟨"java/lang/String", "equals", "(Ljava/lang/Object;)Z"⟩ : MethodName)) (cx.w 46 rfl) (cx.w 17 rfl) (cx.w 19 rfl) (cx.w 18 rfl) (cx.w 6 rfl) (cx.w 20 rfl) (W4.nf (cx.w 19 rfl)) (by decide) Eq1 (ct_eqNull cx W4.old q1) all0 (by decide) (Wd := 0) (by decide) (k' := 1) (n' := 3) rfl rfl (by decide) (by decide) (by rw [hml]; rfl) (a := q1) (argsL := [.null]) (rest := []) rfl (lenOf pd8 rfl) rfl (Nat.le_of_eq rfl) (hb hby d4_25) ?_
  intro v5 vm5 T5 h5 L5 W5 q5
  obtain ⟨rfl, eh_⟩ := q5
  subst h5
  show Go p_ e_ bl_ _ (T5.setTop (mkF m_ 28 #[.val .null, .val (.ref b), .val (.int (3 : Int32)), .val (.int (1 : Int32)), .val (.ref e1)] [(.int (0 : Int32))]))
  refine Go.st (fun _ => XS.ifYes W5.here W5.ex rfl (pc0 := 28) (pc' := 37) rfl (hb hby d4_28) rfl ((if0 _ _).trans (teq (rfl : (0 : Int32) = (0 : Int32))).1) (by decide) (by decide)) ?_
  show Go p_ e_ bl_ _ (T5.setTop (mkF m_ 37 #[.val .null, .val (.ref b), .val (.int (3 : Int32)), .val (.int (1 : Int32)), .val (.ref e1)] []))
  refine Go.st (fun _ => XS.iinc W5.here W5.ex rfl (hb hby d4_37) rfl (l' := #[.val .null, .val (.ref b), .val (.int (3 : Int32)), .val (.int (2 : Int32)), .val (.ref e1)]) rfl) ?_
  show Go p_ e_ bl_ _ (T5.setTop (mkF m_ 40 #[.val .null, .val (.ref b), .val (.int (3 : Int32)), .val (.int (2 : Int32)), .val (.ref e1)] []))
  refine Go.st (fun _ => XS.goto W5.here W5.ex rfl (pc0 := 40) (pc' := 9) rfl (hb hby d4_40) (by decide) (by decide)) ?_
  show Go p_ e_ bl_ _ (T5.setTop (mkF m_ 9 #[.val .null, .val (.ref b), .val (.int (3 : Int32)), .val (.int (2 : Int32)), .val (.ref e1)] []))
  refine Go.st (fun _ => XS.iloadN W5.here W5.ex rfl (hb hby d4_9) rfl) ?_
  show Go p_ e_ bl_ _ (T5.setTop (mkF m_ 10 #[.val .null, .val (.ref b), .val (.int (3 : Int32)), .val (.int (2 : Int32)), .val (.ref e1)] [(.int (2 : Int32))]))
  refine Go.st (fun _ => XS.iloadN W5.here W5.ex rfl (hb hby d4_10) rfl) ?_
  show Go p_ e_ bl_ _ (T5.setTop (mkF m_ 11 #[.val .null, .val (.ref b), .val (.int (3 : Int32)), .val (.int (2 : Int32)), .val (.ref e1)] [(.int (3 : Int32)), (.int (2 : Int32))]))
  refine Go.st (fun _ => XS.icmpNo W5.here W5.ex rfl (hb hby d4_11) rfl (tlt ((by decide) : (2 : Int32) < (3 : Int32))).2.1) ?_
  show Go p_ e_ bl_ _ (T5.setTop (mkF m_ 14 #[.val .null, .val (.ref b), .val (.int (3 : Int32)), .val (.int (2 : Int32)), .val (.ref e1)] []))
  refine Go.st (fun _ => XS.aloadN W5.here W5.ex rfl (hb hby d4_14) rfl rfl) ?_
  show Go p_ e_ bl_ _ (T5.setTop (mkF m_ 15 #[.val .null, .val (.ref b), .val (.int (3 : Int32)), .val (.int (2 : Int32)), .val (.ref e1)] [(.ref b)]))
  refine Go.st (fun _ => XS.iloadN W5.here W5.ex rfl (hb hby d4_15) rfl) ?_
  show Go p_ e_ bl_ _ (T5.setTop (mkF m_ 16 #[.val .null, .val (.ref b), .val (.int (3 : Int32)), .val (.int (2 : Int32)), .val (.ref e1)] [(.int (2 : Int32)), (.ref b)]))
  refine W5.ldA V_b rfl (j := (2 : Int32)) (v := .ref e2) ⟨by decide, by decide⟩ rfl (hb hby d4_16) ?_
  show Go p_ e_ bl_ _ (T5.setTop (mkF m_ 17 #[.val .null, .val (.ref b), .val (.int (3 : Int32)), .val (.int (2 : Int32)), .val (.ref e1)] [(.ref e2)]))
  refine Go.st (fun _ => XS.astore W5.here W5.ex rfl (hb hby d4_17) rfl rfl (l' := #[.val .null, .val (.ref b), .val (.int (3 : Int32)), .val (.int (2 : Int32)), .val (.ref e2)]) rfl) ?_
  show Go p_ e_ bl_ _ (T5.setTop (mkF m_ 19 #[.val .null, .val (.ref b), .val (.int (3 : Int32)), .val (.int (2 : Int32)), .val (.ref e2)] []))
  refine Go.st (fun _ => XS.aload W5.here W5.ex rfl (hb hby d4_19) rfl rfl) ?_
  show Go p_ e_ bl_ _ (T5.setTop (mkF m_ 21 #[.val .null, .val (.ref b), .val (.int (3 : Int32)), .val (.int (2 : Int32)), .val (.ref e2)] [(.ref e2)]))
  refine W5.getF (cx.w 44 rfl) Via.refl F_e2 (hb hby d4_21) ?_
  intro T6 W6
  show Go p_ e_ bl_ _ (T6.setTop (mkF m_ 24 #[.val .null, .val (.ref b), .val (.int (3 : Int32)), .val (.int (2 : Int32)), .val (.ref e2)] [(.ref q2)]))
  refine Go.st (fun _ => XS.aloadN W6.here W6.ex rfl (hb hby d4_24) rfl rfl) ?_
  show Go p_ e_ bl_ _ (T6.setTop (mkF m_ 25 #[.val .null, .val (.ref b), .val (.int (3 : Int32)), .val (.int (2 : Int32)), .val (.ref e2)] [.null, (.ref q2)]))
  have Eq2 := S_q2.E
  refine W6.callV (y := (⟨"java/lang/String", "equals", "(Ljava/lang/Object;)Z"⟩ : MethodName)) (z := (⟨"java/lang/String", "equals", "(Ljava/lang/Object;)Z"⟩ : MethodName)) (cx.w 46 rfl) (cx.w 17 rfl) (cx.w 19 rfl) (cx.w 18 rfl) (cx.w 6 rfl) (cx.w 20 rfl) (W6.nf (cx.w 19 rfl)) (by decide) Eq2 (ct_eqNull cx W6.old q2) all0 (by decide) (Wd := 0) (by decide) (k' := 1) (n' := 3) rfl rfl (by decide) (by decide) (by rw [hml]; rfl) (a := q2) (argsL := [.null]) (rest := []) rfl (lenOf pd8 rfl) rfl (Nat.le_of_eq rfl) (hb hby d4_25) ?_
  intro v7 vm7 T7 h7 L7 W7 q7
  obtain ⟨rfl, eh_⟩ := q7
  subst h7
  show Go p_ e_ bl_ _ (T7.setTop (mkF m_ 28 #[.val .null, .val (.ref b), .val (.int (3 : Int32)), .val (.int (2 : Int32)), .val (.ref e2)] [(.int (0 : Int32))]))
  refine Go.st (fun _ => XS.ifYes W7.here W7.ex rfl (pc0 := 28) (pc' := 37) rfl (hb hby d4_28) rfl ((if0 _ _).trans (teq (rfl : (0 : Int32) = (0 : Int32))).1) (by decide) (by decide)) ?_
  show Go p_ e_ bl_ _ (T7.setTop (mkF m_ 37 #[.val .null, .val (.ref b), .val (.int (3 : Int32)), .val (.int (2 : Int32)), .val (.ref e2)] []))
  refine Go.st (fun _ => XS.iinc W7.here W7.ex rfl (hb hby d4_37) rfl (l' := #[.val .null, .val (.ref b), .val (.int (3 : Int32)), .val (.int (3 : Int32)), .val (.ref e2)]) rfl) ?_
  show Go p_ e_ bl_ _ (T7.setTop (mkF m_ 40 #[.val .null, .val (.ref b), .val (.int (3 : Int32)), .val (.int (3 : Int32)), .val (.ref e2)] []))
  refine Go.st (fun _ => XS.goto W7.here W7.ex rfl (pc0 := 40) (pc' := 9) rfl (hb hby d4_40) (by decide) (by decide)) ?_
  show Go p_ e_ bl_ _ (T7.setTop (mkF m_ 9 #[.val .null, .val (.ref b), .val (.int (3 : Int32)), .val (.int (3 : Int32)), .val (.ref e2)] []))
  refine Go.st (fun _ => XS.iloadN W7.here W7.ex rfl (hb hby d4_9) rfl) ?_
  show Go p_ e_ bl_ _ (T7.setTop (mkF m_ 10 #[.val .null, .val (.ref b), .val (.int (3 : Int32)), .val (.int (3 : Int32)), .val (.ref e2)] [(.int (3 : Int32))]))
  refine Go.st (fun _ => XS.iloadN W7.here W7.ex rfl (hb hby d4_10) rfl) ?_
  show Go p_ e_ bl_ _ (T7.setTop (mkF m_ 11 #[.val .null, .val (.ref b), .val (.int (3 : Int32)), .val (.int (3 : Int32)), .val (.ref e2)] [(.int (3 : Int32)), (.int (3 : Int32))]))
  refine Go.st (fun _ => XS.icmpYes W7.here W7.ex rfl (pc0 := 11) (pc' := 43) rfl (hb hby d4_11) rfl (flt ((by decide) : ¬ ((3 : Int32) < (3 : Int32)))).2.1 (by decide) (by decide)) ?_
  show Go p_ e_ bl_ _ (T7.setTop (mkF m_ 43 #[.val .null, .val (.ref b), .val (.int (3 : Int32)), .val (.int (3 : Int32)), .val (.ref e2)] []))
  refine W7.callS (y := (⟨"java/util/Optional", "empty", "()Ljava/util/Optional;"⟩ : MethodName)) (cx.w 112 rfl) (cx.w 113 rfl) (cx.w 58 rfl) (cx.w 114 rfl) (by decide) (ct_optE cx W7.old ) all0 (by decide) (Wd := 0) (by decide) (k' := 1) (n' := 3) rfl rfl (by decide) (by decide) (by rw [hml]; rfl) (argsL := []) (rest := []) rfl (lenOf pd10 rfl) rfl (Nat.le_of_eq rfl) (hb hby d4_43) ?_
  intro v8 vm8 T8 h8 L8 W8 q8
  obtain ⟨rfl, eh_⟩ := q8
  subst h8
  show Go p_ e_ bl_ _ (T8.setTop (mkF m_ 46 #[.val .null, .val (.ref b), .val (.int (3 : Int32)), .val (.int (3 : Int32)), .val (.ref e2)] [(.ref em)]))
  exact W8.retA hret rfl rfl (hb hby d4_46) (by decide) (by decide) fun _ _ => ⟨rfl, K0⟩
set_option maxRecDepth 65536 in
set_option maxHeartbeats 40000000 in
theorem ct_from {l : Launch} {Z : State} {a0 : Array Value} {n0 : Nat} {g1 : Int32} {e0 e1 e2 va q0 q1 q2 r0 r1 r2 : Addr} {kva : ClassId} {em : Addr} (cx : Ctx Z a0 n0 g1 e0 e1 e2 va q0 q1 q2 r0 r1 r2 kva em) {h : Heap} (O : Old Z n0 h) (a t : Addr) (cs : List Int32) (S_a : StrAt Z h a t cs) :
    Ct l Z consts_1 n0 [] (⟨"com/example/loginconv/loginconv/AuthorizableKind", "ofPrimaryType", "(Ljava/lang/String;)Ljava/util/Optional;"⟩ : MethodName) prog_1_method_6_code 5 (some (.object "java/util/Optional")) ({ frames := 3, cells := 2, slots := 4, locals := 38 } : Room) #[(.ref a)] [] h (fun v _ h' => ∃ o : Addr, v = some (.ref o) ∧ Keep h h' [] ∧ Exa Z h' o "java/util/Optional" ∧ Fld Z h' o "java/util/Optional" "value" "Ljava/lang/Object;" (K3 cs e0 e1 e2)) := by
  refine Ct.intro (plainFor_of_name pn4) O cx.ew ?_
  intro p_ e_ s_ m_ bl_ mt_ c_ T0 W0 hby hml hret hnm
  refine Go.st (fun t_ k_ => castTop (g' := mkF m_ 0 #[.val (.ref a), .unset, .unset, .unset, .unset] []) (by first | (simp [entryFrame, mkF, argsToLocals, Value.category]; done) | rfl) k_) ?_
  show Go p_ e_ bl_ _ (T0.setTop (mkF m_ 0 #[.val (.ref a), .unset, .unset, .unset, .unset] []))
  have K0 : Keep h h [] := Keep.refl _ _
  have F_e0 := cx.fe0.ext W0.e0
  have S_q0 := cx.sq0.ext W0.e0
  have X_e0 := cx.ex0.ext W0.e0
  have F_e1 := cx.fe1.ext W0.e0
  have S_q1 := cx.sq1.ext W0.e0
  have X_e1 := cx.ex1.ext W0.e0
  have F_e2 := cx.fe2.ext W0.e0
  have S_q2 := cx.sq2.ext W0.e0
  have X_e2 := cx.ex2.ext W0.e0
  refine W0.callS (y := (⟨"com/example/loginconv/loginconv/AuthorizableKind", "values", "()[Lcom/example/loginconv/loginconv/AuthorizableKind;"⟩ : MethodName)) (cx.w 27 rfl) (cx.w 28 rfl) (cx.w 22 rfl) (cx.w 29 rfl) (by decide) (ct_values cx W0.old ) all0 (by decide) (Wd := 0) (by decide) (k' := 1) (n' := 3) rfl rfl (by decide) (by decide) (by rw [hml]; rfl) (argsL := []) (rest := []) rfl (lenOf pd9 rfl) rfl (Nat.le_of_eq rfl) (hb hby d4_0) ?_
  intro v1 vm1 T1 h1 L1 W1 q1
  obtain ⟨b, rfl, hz_b, K1, V_b⟩ := q1
  have ne_a_b : a ≠ b := Nat.ne_of_lt (Nat.lt_of_lt_of_le S_a.lt hz_b)
  have ne_t_b : t ≠ b := Nat.ne_of_lt (Nat.lt_of_lt_of_le S_a.ltt hz_b)
  have ne_e0_b : e0 ≠ b := Nat.ne_of_lt (Nat.lt_of_lt_of_le F_e0.lt hz_b)
  have ne_q0_b : q0 ≠ b := Nat.ne_of_lt (Nat.lt_of_lt_of_le S_q0.lt hz_b)
  have ne_r0_b : r0 ≠ b := Nat.ne_of_lt (Nat.lt_of_lt_of_le S_q0.ltt hz_b)
  have ne_e1_b : e1 ≠ b := Nat.ne_of_lt (Nat.lt_of_lt_of_le F_e1.lt hz_b)
  have ne_q1_b : q1 ≠ b := Nat.ne_of_lt (Nat.lt_of_lt_of_le S_q1.lt hz_b)
  have ne_r1_b : r1 ≠ b := Nat.ne_of_lt (Nat.lt_of_lt_of_le S_q1.ltt hz_b)
  have ne_e2_b : e2 ≠ b := Nat.ne_of_lt (Nat.lt_of_lt_of_le F_e2.lt hz_b)
  have ne_q2_b : q2 ≠ b := Nat.ne_of_lt (Nat.lt_of_lt_of_le S_q2.lt hz_b)
  have ne_r2_b : r2 ≠ b := Nat.ne_of_lt (Nat.lt_of_lt_of_le S_q2.ltt hz_b)
  have sz_b : h.size ≤ b := Nat.le_trans K0.1 hz_b
  replace S_a := S_a.keep K1 nin0 nin0
  replace F_e0 := F_e0.keep K1 nin0
  replace S_q0 := S_q0.keep K1 nin0 nin0
  replace X_e0 := X_e0.keep K1
  replace F_e1 := F_e1.keep K1 nin0
  replace S_q1 := S_q1.keep K1 nin0 nin0
  replace X_e1 := X_e1.keep K1
  replace F_e2 := F_e2.keep K1 nin0
  replace S_q2 := S_q2.keep K1 nin0 nin0
  replace X_e2 := X_e2.keep K1
  replace K0 := K0.trans K1 all0
  show Go p_ e_ bl_ _ (T1.setTop (mkF m_ 3 #[.val (.ref a), .unset, .unset, .unset, .unset] [(.ref b)]))
  refine Go.st (fun _ => XS.astoreN W1.here W1.ex rfl (hb hby d4_3) rfl rfl (l' := #[.val (.ref a), .val (.ref b), .unset, .unset, .unset]) rfl) ?_
  show Go p_ e_ bl_ _ (T1.setTop (mkF m_ 4 #[.val (.ref a), .val (.ref b), .unset, .unset, .unset] []))
  refine Go.st (fun _ => XS.aloadN W1.here W1.ex rfl (hb hby d4_4) rfl rfl) ?_
  show Go p_ e_ bl_ _ (T1.setTop (mkF m_ 5 #[.val (.ref a), .val (.ref b), .unset, .unset, .unset] [(.ref b)]))
  refine W1.alen V_b (hb hby d4_5) ?_
  show Go p_ e_ bl_ _ (T1.setTop (mkF m_ 6 #[.val (.ref a), .val (.ref b), .unset, .unset, .unset] [(.int (3 : Int32))]))
  refine Go.st (fun _ => XS.istoreN W1.here W1.ex rfl (hb hby d4_6) rfl (l' := #[.val (.ref a), .val (.ref b), .val (.int (3 : Int32)), .unset, .unset]) rfl) ?_
  show Go p_ e_ bl_ _ (T1.setTop (mkF m_ 7 #[.val (.ref a), .val (.ref b), .val (.int (3 : Int32)), .unset, .unset] []))
  refine Go.st (fun _ => XS.iconst W1.here W1.ex rfl (hb hby d4_7)) ?_
  show Go p_ e_ bl_ _ (T1.setTop (mkF m_ 8 #[.val (.ref a), .val (.ref b), .val (.int (3 : Int32)), .unset, .unset] [(.int (0 : Int32))]))
  refine Go.st (fun _ => XS.istoreN W1.here W1.ex rfl (hb hby d4_8) rfl (l' := #[.val (.ref a), .val (.ref b), .val (.int (3 : Int32)), .val (.int (0 : Int32)), .unset]) rfl) ?_
  show Go p_ e_ bl_ _ (T1.setTop (mkF m_ 9 #[.val (.ref a), .val (.ref b), .val (.int (3 : Int32)), .val (.int (0 : Int32)), .unset] []))
  refine Go.st (fun _ => XS.iloadN W1.here W1.ex rfl (hb hby d4_9) rfl) ?_
  show Go p_ e_ bl_ _ (T1.setTop (mkF m_ 10 #[.val (.ref a), .val (.ref b), .val (.int (3 : Int32)), .val (.int (0 : Int32)), .unset] [(.int (0 : Int32))]))
  refine Go.st (fun _ => XS.iloadN W1.here W1.ex rfl (hb hby d4_10) rfl) ?_
  show Go p_ e_ bl_ _ (T1.setTop (mkF m_ 11 #[.val (.ref a), .val (.ref b), .val (.int (3 : Int32)), .val (.int (0 : Int32)), .unset] [(.int (3 : Int32)), (.int (0 : Int32))]))
  refine Go.st (fun _ => XS.icmpNo W1.here W1.ex rfl (hb hby d4_11) rfl (tlt ((by decide) : (0 : Int32) < (3 : Int32))).2.1) ?_
  show Go p_ e_ bl_ _ (T1.setTop (mkF m_ 14 #[.val (.ref a), .val (.ref b), .val (.int (3 : Int32)), .val (.int (0 : Int32)), .unset] []))
  refine Go.st (fun _ => XS.aloadN W1.here W1.ex rfl (hb hby d4_14) rfl rfl) ?_
  show Go p_ e_ bl_ _ (T1.setTop (mkF m_ 15 #[.val (.ref a), .val (.ref b), .val (.int (3 : Int32)), .val (.int (0 : Int32)), .unset] [(.ref b)]))
  refine Go.st (fun _ => XS.iloadN W1.here W1.ex rfl (hb hby d4_15) rfl) ?_
  show Go p_ e_ bl_ _ (T1.setTop (mkF m_ 16 #[.val (.ref a), .val (.ref b), .val (.int (3 : Int32)), .val (.int (0 : Int32)), .unset] [(.int (0 : Int32)), (.ref b)]))
  refine W1.ldA V_b rfl (j := (0 : Int32)) (v := .ref e0) ⟨by decide, by decide⟩ rfl (hb hby d4_16) ?_
  show Go p_ e_ bl_ _ (T1.setTop (mkF m_ 17 #[.val (.ref a), .val (.ref b), .val (.int (3 : Int32)), .val (.int (0 : Int32)), .unset] [(.ref e0)]))
  refine Go.st (fun _ => XS.astore W1.here W1.ex rfl (hb hby d4_17) rfl rfl (l' := #[.val (.ref a), .val (.ref b), .val (.int (3 : Int32)), .val (.int (0 : Int32)), .val (.ref e0)]) rfl) ?_
  show Go p_ e_ bl_ _ (T1.setTop (mkF m_ 19 #[.val (.ref a), .val (.ref b), .val (.int (3 : Int32)), .val (.int (0 : Int32)), .val (.ref e0)] []))
  refine Go.st (fun _ => XS.aload W1.here W1.ex rfl (hb hby d4_19) rfl rfl) ?_
  show Go p_ e_ bl_ _ (T1.setTop (mkF m_ 21 #[.val (.ref a), .val (.ref b), .val (.int (3 : Int32)), .val (.int (0 : Int32)), .val (.ref e0)] [(.ref e0)]))
  refine W1.getF (cx.w 44 rfl) Via.refl F_e0 (hb hby d4_21) ?_
  intro T2 W2
  show Go p_ e_ bl_ _ (T2.setTop (mkF m_ 24 #[.val (.ref a), .val (.ref b), .val (.int (3 : Int32)), .val (.int (0 : Int32)), .val (.ref e0)] [(.ref q0)]))
  refine Go.st (fun _ => XS.aloadN W2.here W2.ex rfl (hb hby d4_24) rfl rfl) ?_
  show Go p_ e_ bl_ _ (T2.setTop (mkF m_ 25 #[.val (.ref a), .val (.ref b), .val (.int (3 : Int32)), .val (.int (0 : Int32)), .val (.ref e0)] [(.ref a), (.ref q0)]))
  obtain ⟨k1_3, V1_3⟩ := S_q0.kb
  obtain ⟨k2_3, V2_3⟩ := S_a.kb
  have E1_3 := S_q0.E
  refine W2.libV (y := (⟨"java/lang/String", "equals", "(Ljava/lang/Object;)Z"⟩ : MethodName)) (z := (⟨"java/lang/String", "equals", "(Ljava/lang/Object;)Z"⟩ : MethodName)) (cx.w 46 rfl) (cx.w 17 rfl) (cx.w 19 rfl) (cx.w 18 rfl) (W2.nf (cx.w 19 rfl)) (by decide) E1_3 (Q := fun v h' L' => ((v = some (.int 1) ∧ (litC 5) = cs) ∨ (v = some (.int 0) ∧ ¬ (litC 5) = cs)) ∧ L' = [] ∧ h' = h1) (ws := []) (Wd := 0) (ck := 0) (cn := 0) (StrChars.Road.eqW (W := 0) W2.hZ cx.qw (kI := 4) (cx.w 7 rfl) (cs := (litC 5)) S_q0.1 S_q0.2.2.1 S_q0.2.1 V1_3 (StrChars.Road.codOf rfl fun c hc => (S_q0.ch c hc).2) S_q0.ch.up S_q0.le (ds := cs) S_a.1 S_a.2.2.1 S_a.2.1 V2_3 (StrChars.Road.codOf rfl fun c hc => (S_a.ch c hc).2) S_a.ch.up S_a.le (cx.cmp.ext W2.e0) cx.g1 (by decide) (by decide)) (fun v h' L' q => ⟨by rw [q.2.1]; exact Fr.nil _, by rw [q.2.2]; exact Keep.refl _ _⟩) all0 all0 (k' := 1) (n' := 3) rfl rfl (by decide) (by decide) (by rw [hml]; rfl) (a := q0) (argsL := [(.ref a)]) (rest := []) rfl (lenOf pd8 rfl) rfl (Nat.le_of_eq rfl) (hb hby d4_25) ?_
  intro v4 T4 h4 M4 L4 W4 q4
  rcases q4 with ⟨⟨rfl, he⟩ | ⟨rfl, he⟩, -, eh_⟩
  · subst h4
    show Go p_ e_ bl_ _ (T4.setTop (mkF m_ 28 #[.val (.ref a), .val (.ref b), .val (.int (3 : Int32)), .val (.int (0 : Int32)), .val (.ref e0)] [(.int (1 : Int32))]))
    refine Go.st (fun _ => XS.ifNo W4.here W4.ex rfl (hb hby d4_28) rfl ((if0 _ _).trans (feq ((by decide) : ¬ ((1 : Int32) = (0 : Int32)))).1)) ?_
    show Go p_ e_ bl_ _ (T4.setTop (mkF m_ 31 #[.val (.ref a), .val (.ref b), .val (.int (3 : Int32)), .val (.int (0 : Int32)), .val (.ref e0)] []))
    refine Go.st (fun _ => XS.aload W4.here W4.ex rfl (hb hby d4_31) rfl rfl) ?_
    show Go p_ e_ bl_ _ (T4.setTop (mkF m_ 33 #[.val (.ref a), .val (.ref b), .val (.int (3 : Int32)), .val (.int (0 : Int32)), .val (.ref e0)] [(.ref e0)]))
    refine W4.callS (y := (⟨"java/util/Optional", "of", "(Ljava/lang/Object;)Ljava/util/Optional;"⟩ : MethodName)) (cx.w 56 rfl) (cx.w 57 rfl) (cx.w 58 rfl) (cx.w 59 rfl) (by decide) (ct_optOf cx W4.old e0) all0 (by decide) (Wd := 0) (by decide) (k' := 2) (n' := 4) rfl rfl (by decide) (by decide) (by rw [hml]; rfl) (argsL := [(.ref e0)]) (rest := []) rfl (lenOf pd11 rfl) rfl (Nat.le_of_eq rfl) (hb hby d4_33) ?_
    intro v5 vm5 T5 h5 L5 W5 q5
    obtain ⟨o, rfl, hz_o, Ko, E_o, F_o⟩ := q5
    replace S_a := S_a.keep Ko nin0 nin0
    replace F_e0 := F_e0.keep Ko nin0
    replace S_q0 := S_q0.keep Ko nin0 nin0
    replace X_e0 := X_e0.keep Ko
    replace F_e1 := F_e1.keep Ko nin0
    replace S_q1 := S_q1.keep Ko nin0 nin0
    replace X_e1 := X_e1.keep Ko
    replace F_e2 := F_e2.keep Ko nin0
    replace S_q2 := S_q2.keep Ko nin0 nin0
    replace X_e2 := X_e2.keep Ko
    replace V_b := V_b.keep Ko nin0
    replace E1_3 := E1_3.keep Ko
    replace K0 := K0.trans Ko all0
    show Go p_ e_ bl_ _ (T5.setTop (mkF m_ 36 #[.val (.ref a), .val (.ref b), .val (.int (3 : Int32)), .val (.int (0 : Int32)), .val (.ref e0)] [(.ref o)]))
    exact W5.retA hret rfl rfl (hb hby d4_36) (by decide) (by decide) fun _ _ => ⟨o, rfl, K0, E_o, by rw [(by simp only [K3, if_pos he.symm] : K3 cs e0 e1 e2 = .ref e0)]; exact F_o⟩
  · subst h4
    show Go p_ e_ bl_ _ (T4.setTop (mkF m_ 28 #[.val (.ref a), .val (.ref b), .val (.int (3 : Int32)), .val (.int (0 : Int32)), .val (.ref e0)] [(.int (0 : Int32))]))
    have hn0 := he
    refine Go.st (fun _ => XS.ifYes W4.here W4.ex rfl (pc0 := 28) (pc' := 37) rfl (hb hby d4_28) rfl ((if0 _ _).trans (teq (rfl : (0 : Int32) = (0 : Int32))).1) (by decide) (by decide)) ?_
    show Go p_ e_ bl_ _ (T4.setTop (mkF m_ 37 #[.val (.ref a), .val (.ref b), .val (.int (3 : Int32)), .val (.int (0 : Int32)), .val (.ref e0)] []))
    refine Go.st (fun _ => XS.iinc W4.here W4.ex rfl (hb hby d4_37) rfl (l' := #[.val (.ref a), .val (.ref b), .val (.int (3 : Int32)), .val (.int (1 : Int32)), .val (.ref e0)]) rfl) ?_
    show Go p_ e_ bl_ _ (T4.setTop (mkF m_ 40 #[.val (.ref a), .val (.ref b), .val (.int (3 : Int32)), .val (.int (1 : Int32)), .val (.ref e0)] []))
    refine Go.st (fun _ => XS.goto W4.here W4.ex rfl (pc0 := 40) (pc' := 9) rfl (hb hby d4_40) (by decide) (by decide)) ?_
    show Go p_ e_ bl_ _ (T4.setTop (mkF m_ 9 #[.val (.ref a), .val (.ref b), .val (.int (3 : Int32)), .val (.int (1 : Int32)), .val (.ref e0)] []))
    refine Go.st (fun _ => XS.iloadN W4.here W4.ex rfl (hb hby d4_9) rfl) ?_
    show Go p_ e_ bl_ _ (T4.setTop (mkF m_ 10 #[.val (.ref a), .val (.ref b), .val (.int (3 : Int32)), .val (.int (1 : Int32)), .val (.ref e0)] [(.int (1 : Int32))]))
    refine Go.st (fun _ => XS.iloadN W4.here W4.ex rfl (hb hby d4_10) rfl) ?_
    show Go p_ e_ bl_ _ (T4.setTop (mkF m_ 11 #[.val (.ref a), .val (.ref b), .val (.int (3 : Int32)), .val (.int (1 : Int32)), .val (.ref e0)] [(.int (3 : Int32)), (.int (1 : Int32))]))
    refine Go.st (fun _ => XS.icmpNo W4.here W4.ex rfl (hb hby d4_11) rfl (tlt ((by decide) : (1 : Int32) < (3 : Int32))).2.1) ?_
    show Go p_ e_ bl_ _ (T4.setTop (mkF m_ 14 #[.val (.ref a), .val (.ref b), .val (.int (3 : Int32)), .val (.int (1 : Int32)), .val (.ref e0)] []))
    refine Go.st (fun _ => XS.aloadN W4.here W4.ex rfl (hb hby d4_14) rfl rfl) ?_
    show Go p_ e_ bl_ _ (T4.setTop (mkF m_ 15 #[.val (.ref a), .val (.ref b), .val (.int (3 : Int32)), .val (.int (1 : Int32)), .val (.ref e0)] [(.ref b)]))
    refine Go.st (fun _ => XS.iloadN W4.here W4.ex rfl (hb hby d4_15) rfl) ?_
    show Go p_ e_ bl_ _ (T4.setTop (mkF m_ 16 #[.val (.ref a), .val (.ref b), .val (.int (3 : Int32)), .val (.int (1 : Int32)), .val (.ref e0)] [(.int (1 : Int32)), (.ref b)]))
    refine W4.ldA V_b rfl (j := (1 : Int32)) (v := .ref e1) ⟨by decide, by decide⟩ rfl (hb hby d4_16) ?_
    show Go p_ e_ bl_ _ (T4.setTop (mkF m_ 17 #[.val (.ref a), .val (.ref b), .val (.int (3 : Int32)), .val (.int (1 : Int32)), .val (.ref e0)] [(.ref e1)]))
    refine Go.st (fun _ => XS.astore W4.here W4.ex rfl (hb hby d4_17) rfl rfl (l' := #[.val (.ref a), .val (.ref b), .val (.int (3 : Int32)), .val (.int (1 : Int32)), .val (.ref e1)]) rfl) ?_
    show Go p_ e_ bl_ _ (T4.setTop (mkF m_ 19 #[.val (.ref a), .val (.ref b), .val (.int (3 : Int32)), .val (.int (1 : Int32)), .val (.ref e1)] []))
    refine Go.st (fun _ => XS.aload W4.here W4.ex rfl (hb hby d4_19) rfl rfl) ?_
    show Go p_ e_ bl_ _ (T4.setTop (mkF m_ 21 #[.val (.ref a), .val (.ref b), .val (.int (3 : Int32)), .val (.int (1 : Int32)), .val (.ref e1)] [(.ref e1)]))
    refine W4.getF (cx.w 44 rfl) Via.refl F_e1 (hb hby d4_21) ?_
    intro T6 W6
    show Go p_ e_ bl_ _ (T6.setTop (mkF m_ 24 #[.val (.ref a), .val (.ref b), .val (.int (3 : Int32)), .val (.int (1 : Int32)), .val (.ref e1)] [(.ref q1)]))
    refine Go.st (fun _ => XS.aloadN W6.here W6.ex rfl (hb hby d4_24) rfl rfl) ?_
    show Go p_ e_ bl_ _ (T6.setTop (mkF m_ 25 #[.val (.ref a), .val (.ref b), .val (.int (3 : Int32)), .val (.int (1 : Int32)), .val (.ref e1)] [(.ref a), (.ref q1)]))
    obtain ⟨k1_7, V1_7⟩ := S_q1.kb
    obtain ⟨k2_7, V2_7⟩ := S_a.kb
    have E1_7 := S_q1.E
    refine W6.libV (y := (⟨"java/lang/String", "equals", "(Ljava/lang/Object;)Z"⟩ : MethodName)) (z := (⟨"java/lang/String", "equals", "(Ljava/lang/Object;)Z"⟩ : MethodName)) (cx.w 46 rfl) (cx.w 17 rfl) (cx.w 19 rfl) (cx.w 18 rfl) (W6.nf (cx.w 19 rfl)) (by decide) E1_7 (Q := fun v h' L' => ((v = some (.int 1) ∧ (litC 90) = cs) ∨ (v = some (.int 0) ∧ ¬ (litC 90) = cs)) ∧ L' = [] ∧ h' = h1) (ws := []) (Wd := 0) (ck := 0) (cn := 0) (StrChars.Road.eqW (W := 0) W6.hZ cx.qw (kI := 4) (cx.w 7 rfl) (cs := (litC 90)) S_q1.1 S_q1.2.2.1 S_q1.2.1 V1_7 (StrChars.Road.codOf rfl fun c hc => (S_q1.ch c hc).2) S_q1.ch.up S_q1.le (ds := cs) S_a.1 S_a.2.2.1 S_a.2.1 V2_7 (StrChars.Road.codOf rfl fun c hc => (S_a.ch c hc).2) S_a.ch.up S_a.le (cx.cmp.ext W6.e0) cx.g1 (by decide) (by decide)) (fun v h' L' q => ⟨by rw [q.2.1]; exact Fr.nil _, by rw [q.2.2]; exact Keep.refl _ _⟩) all0 all0 (k' := 1) (n' := 3) rfl rfl (by decide) (by decide) (by rw [hml]; rfl) (a := q1) (argsL := [(.ref a)]) (rest := []) rfl (lenOf pd8 rfl) rfl (Nat.le_of_eq rfl) (hb hby d4_25) ?_
    intro v8 T8 h8 M8 L8 W8 q8
    rcases q8 with ⟨⟨rfl, he⟩ | ⟨rfl, he⟩, -, eh_⟩
    · subst h8
      show Go p_ e_ bl_ _ (T8.setTop (mkF m_ 28 #[.val (.ref a), .val (.ref b), .val (.int (3 : Int32)), .val (.int (1 : Int32)), .val (.ref e1)] [(.int (1 : Int32))]))
      refine Go.st (fun _ => XS.ifNo W8.here W8.ex rfl (hb hby d4_28) rfl ((if0 _ _).trans (feq ((by decide) : ¬ ((1 : Int32) = (0 : Int32)))).1)) ?_
      show Go p_ e_ bl_ _ (T8.setTop (mkF m_ 31 #[.val (.ref a), .val (.ref b), .val (.int (3 : Int32)), .val (.int (1 : Int32)), .val (.ref e1)] []))
      refine Go.st (fun _ => XS.aload W8.here W8.ex rfl (hb hby d4_31) rfl rfl) ?_
      show Go p_ e_ bl_ _ (T8.setTop (mkF m_ 33 #[.val (.ref a), .val (.ref b), .val (.int (3 : Int32)), .val (.int (1 : Int32)), .val (.ref e1)] [(.ref e1)]))
      refine W8.callS (y := (⟨"java/util/Optional", "of", "(Ljava/lang/Object;)Ljava/util/Optional;"⟩ : MethodName)) (cx.w 56 rfl) (cx.w 57 rfl) (cx.w 58 rfl) (cx.w 59 rfl) (by decide) (ct_optOf cx W8.old e1) all0 (by decide) (Wd := 0) (by decide) (k' := 2) (n' := 4) rfl rfl (by decide) (by decide) (by rw [hml]; rfl) (argsL := [(.ref e1)]) (rest := []) rfl (lenOf pd11 rfl) rfl (Nat.le_of_eq rfl) (hb hby d4_33) ?_
      intro v9 vm9 T9 h9 L9 W9 q9
      obtain ⟨o, rfl, hz_o, Ko, E_o, F_o⟩ := q9
      replace S_a := S_a.keep Ko nin0 nin0
      replace F_e0 := F_e0.keep Ko nin0
      replace S_q0 := S_q0.keep Ko nin0 nin0
      replace X_e0 := X_e0.keep Ko
      replace F_e1 := F_e1.keep Ko nin0
      replace S_q1 := S_q1.keep Ko nin0 nin0
      replace X_e1 := X_e1.keep Ko
      replace F_e2 := F_e2.keep Ko nin0
      replace S_q2 := S_q2.keep Ko nin0 nin0
      replace X_e2 := X_e2.keep Ko
      replace V_b := V_b.keep Ko nin0
      replace E1_3 := E1_3.keep Ko
      replace E1_7 := E1_7.keep Ko
      replace K0 := K0.trans Ko all0
      show Go p_ e_ bl_ _ (T9.setTop (mkF m_ 36 #[.val (.ref a), .val (.ref b), .val (.int (3 : Int32)), .val (.int (1 : Int32)), .val (.ref e1)] [(.ref o)]))
      exact W9.retA hret rfl rfl (hb hby d4_36) (by decide) (by decide) fun _ _ => ⟨o, rfl, K0, E_o, by rw [(by simp only [K3, if_neg (Ne.symm hn0), if_pos he.symm] : K3 cs e0 e1 e2 = .ref e1)]; exact F_o⟩
    · subst h8
      show Go p_ e_ bl_ _ (T8.setTop (mkF m_ 28 #[.val (.ref a), .val (.ref b), .val (.int (3 : Int32)), .val (.int (1 : Int32)), .val (.ref e1)] [(.int (0 : Int32))]))
      have hn1 := he
      refine Go.st (fun _ => XS.ifYes W8.here W8.ex rfl (pc0 := 28) (pc' := 37) rfl (hb hby d4_28) rfl ((if0 _ _).trans (teq (rfl : (0 : Int32) = (0 : Int32))).1) (by decide) (by decide)) ?_
      show Go p_ e_ bl_ _ (T8.setTop (mkF m_ 37 #[.val (.ref a), .val (.ref b), .val (.int (3 : Int32)), .val (.int (1 : Int32)), .val (.ref e1)] []))
      refine Go.st (fun _ => XS.iinc W8.here W8.ex rfl (hb hby d4_37) rfl (l' := #[.val (.ref a), .val (.ref b), .val (.int (3 : Int32)), .val (.int (2 : Int32)), .val (.ref e1)]) rfl) ?_
      show Go p_ e_ bl_ _ (T8.setTop (mkF m_ 40 #[.val (.ref a), .val (.ref b), .val (.int (3 : Int32)), .val (.int (2 : Int32)), .val (.ref e1)] []))
      refine Go.st (fun _ => XS.goto W8.here W8.ex rfl (pc0 := 40) (pc' := 9) rfl (hb hby d4_40) (by decide) (by decide)) ?_
      show Go p_ e_ bl_ _ (T8.setTop (mkF m_ 9 #[.val (.ref a), .val (.ref b), .val (.int (3 : Int32)), .val (.int (2 : Int32)), .val (.ref e1)] []))
      refine Go.st (fun _ => XS.iloadN W8.here W8.ex rfl (hb hby d4_9) rfl) ?_
      show Go p_ e_ bl_ _ (T8.setTop (mkF m_ 10 #[.val (.ref a), .val (.ref b), .val (.int (3 : Int32)), .val (.int (2 : Int32)), .val (.ref e1)] [(.int (2 : Int32))]))
      refine Go.st (fun _ => XS.iloadN W8.here W8.ex rfl (hb hby d4_10) rfl) ?_
      show Go p_ e_ bl_ _ (T8.setTop (mkF m_ 11 #[.val (.ref a), .val (.ref b), .val (.int (3 : Int32)), .val (.int (2 : Int32)), .val (.ref e1)] [(.int (3 : Int32)), (.int (2 : Int32))]))
      refine Go.st (fun _ => XS.icmpNo W8.here W8.ex rfl (hb hby d4_11) rfl (tlt ((by decide) : (2 : Int32) < (3 : Int32))).2.1) ?_
      show Go p_ e_ bl_ _ (T8.setTop (mkF m_ 14 #[.val (.ref a), .val (.ref b), .val (.int (3 : Int32)), .val (.int (2 : Int32)), .val (.ref e1)] []))
      refine Go.st (fun _ => XS.aloadN W8.here W8.ex rfl (hb hby d4_14) rfl rfl) ?_
      show Go p_ e_ bl_ _ (T8.setTop (mkF m_ 15 #[.val (.ref a), .val (.ref b), .val (.int (3 : Int32)), .val (.int (2 : Int32)), .val (.ref e1)] [(.ref b)]))
      refine Go.st (fun _ => XS.iloadN W8.here W8.ex rfl (hb hby d4_15) rfl) ?_
      show Go p_ e_ bl_ _ (T8.setTop (mkF m_ 16 #[.val (.ref a), .val (.ref b), .val (.int (3 : Int32)), .val (.int (2 : Int32)), .val (.ref e1)] [(.int (2 : Int32)), (.ref b)]))
      refine W8.ldA V_b rfl (j := (2 : Int32)) (v := .ref e2) ⟨by decide, by decide⟩ rfl (hb hby d4_16) ?_
      show Go p_ e_ bl_ _ (T8.setTop (mkF m_ 17 #[.val (.ref a), .val (.ref b), .val (.int (3 : Int32)), .val (.int (2 : Int32)), .val (.ref e1)] [(.ref e2)]))
      refine Go.st (fun _ => XS.astore W8.here W8.ex rfl (hb hby d4_17) rfl rfl (l' := #[.val (.ref a), .val (.ref b), .val (.int (3 : Int32)), .val (.int (2 : Int32)), .val (.ref e2)]) rfl) ?_
      show Go p_ e_ bl_ _ (T8.setTop (mkF m_ 19 #[.val (.ref a), .val (.ref b), .val (.int (3 : Int32)), .val (.int (2 : Int32)), .val (.ref e2)] []))
      refine Go.st (fun _ => XS.aload W8.here W8.ex rfl (hb hby d4_19) rfl rfl) ?_
      show Go p_ e_ bl_ _ (T8.setTop (mkF m_ 21 #[.val (.ref a), .val (.ref b), .val (.int (3 : Int32)), .val (.int (2 : Int32)), .val (.ref e2)] [(.ref e2)]))
      refine W8.getF (cx.w 44 rfl) Via.refl F_e2 (hb hby d4_21) ?_
      intro T10 W10
      show Go p_ e_ bl_ _ (T10.setTop (mkF m_ 24 #[.val (.ref a), .val (.ref b), .val (.int (3 : Int32)), .val (.int (2 : Int32)), .val (.ref e2)] [(.ref q2)]))
      refine Go.st (fun _ => XS.aloadN W10.here W10.ex rfl (hb hby d4_24) rfl rfl) ?_
      show Go p_ e_ bl_ _ (T10.setTop (mkF m_ 25 #[.val (.ref a), .val (.ref b), .val (.int (3 : Int32)), .val (.int (2 : Int32)), .val (.ref e2)] [(.ref a), (.ref q2)]))
      obtain ⟨k1_11, V1_11⟩ := S_q2.kb
      obtain ⟨k2_11, V2_11⟩ := S_a.kb
      have E1_11 := S_q2.E
      refine W10.libV (y := (⟨"java/lang/String", "equals", "(Ljava/lang/Object;)Z"⟩ : MethodName)) (z := (⟨"java/lang/String", "equals", "(Ljava/lang/Object;)Z"⟩ : MethodName)) (cx.w 46 rfl) (cx.w 17 rfl) (cx.w 19 rfl) (cx.w 18 rfl) (W10.nf (cx.w 19 rfl)) (by decide) E1_11 (Q := fun v h' L' => ((v = some (.int 1) ∧ (litC 111) = cs) ∨ (v = some (.int 0) ∧ ¬ (litC 111) = cs)) ∧ L' = [] ∧ h' = h1) (ws := []) (Wd := 0) (ck := 0) (cn := 0) (StrChars.Road.eqW (W := 0) W10.hZ cx.qw (kI := 4) (cx.w 7 rfl) (cs := (litC 111)) S_q2.1 S_q2.2.2.1 S_q2.2.1 V1_11 (StrChars.Road.codOf rfl fun c hc => (S_q2.ch c hc).2) S_q2.ch.up S_q2.le (ds := cs) S_a.1 S_a.2.2.1 S_a.2.1 V2_11 (StrChars.Road.codOf rfl fun c hc => (S_a.ch c hc).2) S_a.ch.up S_a.le (cx.cmp.ext W10.e0) cx.g1 (by decide) (by decide)) (fun v h' L' q => ⟨by rw [q.2.1]; exact Fr.nil _, by rw [q.2.2]; exact Keep.refl _ _⟩) all0 all0 (k' := 1) (n' := 3) rfl rfl (by decide) (by decide) (by rw [hml]; rfl) (a := q2) (argsL := [(.ref a)]) (rest := []) rfl (lenOf pd8 rfl) rfl (Nat.le_of_eq rfl) (hb hby d4_25) ?_
      intro v12 T12 h12 M12 L12 W12 q12
      rcases q12 with ⟨⟨rfl, he⟩ | ⟨rfl, he⟩, -, eh_⟩
      · subst h12
        show Go p_ e_ bl_ _ (T12.setTop (mkF m_ 28 #[.val (.ref a), .val (.ref b), .val (.int (3 : Int32)), .val (.int (2 : Int32)), .val (.ref e2)] [(.int (1 : Int32))]))
        refine Go.st (fun _ => XS.ifNo W12.here W12.ex rfl (hb hby d4_28) rfl ((if0 _ _).trans (feq ((by decide) : ¬ ((1 : Int32) = (0 : Int32)))).1)) ?_
        show Go p_ e_ bl_ _ (T12.setTop (mkF m_ 31 #[.val (.ref a), .val (.ref b), .val (.int (3 : Int32)), .val (.int (2 : Int32)), .val (.ref e2)] []))
        refine Go.st (fun _ => XS.aload W12.here W12.ex rfl (hb hby d4_31) rfl rfl) ?_
        show Go p_ e_ bl_ _ (T12.setTop (mkF m_ 33 #[.val (.ref a), .val (.ref b), .val (.int (3 : Int32)), .val (.int (2 : Int32)), .val (.ref e2)] [(.ref e2)]))
        refine W12.callS (y := (⟨"java/util/Optional", "of", "(Ljava/lang/Object;)Ljava/util/Optional;"⟩ : MethodName)) (cx.w 56 rfl) (cx.w 57 rfl) (cx.w 58 rfl) (cx.w 59 rfl) (by decide) (ct_optOf cx W12.old e2) all0 (by decide) (Wd := 0) (by decide) (k' := 2) (n' := 4) rfl rfl (by decide) (by decide) (by rw [hml]; rfl) (argsL := [(.ref e2)]) (rest := []) rfl (lenOf pd11 rfl) rfl (Nat.le_of_eq rfl) (hb hby d4_33) ?_
        intro v13 vm13 T13 h13 L13 W13 q13
        obtain ⟨o, rfl, hz_o, Ko, E_o, F_o⟩ := q13
        replace S_a := S_a.keep Ko nin0 nin0
        replace F_e0 := F_e0.keep Ko nin0
        replace S_q0 := S_q0.keep Ko nin0 nin0
        replace X_e0 := X_e0.keep Ko
        replace F_e1 := F_e1.keep Ko nin0
        replace S_q1 := S_q1.keep Ko nin0 nin0
        replace X_e1 := X_e1.keep Ko
        replace F_e2 := F_e2.keep Ko nin0
        replace S_q2 := S_q2.keep Ko nin0 nin0
        replace X_e2 := X_e2.keep Ko
        replace V_b := V_b.keep Ko nin0
        replace E1_3 := E1_3.keep Ko
        replace E1_7 := E1_7.keep Ko
        replace E1_11 := E1_11.keep Ko
        replace K0 := K0.trans Ko all0
        show Go p_ e_ bl_ _ (T13.setTop (mkF m_ 36 #[.val (.ref a), .val (.ref b), .val (.int (3 : Int32)), .val (.int (2 : Int32)), .val (.ref e2)] [(.ref o)]))
        exact W13.retA hret rfl rfl (hb hby d4_36) (by decide) (by decide) fun _ _ => ⟨o, rfl, K0, E_o, by rw [(by simp only [K3, if_neg (Ne.symm hn0), if_neg (Ne.symm hn1), if_pos he.symm] : K3 cs e0 e1 e2 = .ref e2)]; exact F_o⟩
      · subst h12
        show Go p_ e_ bl_ _ (T12.setTop (mkF m_ 28 #[.val (.ref a), .val (.ref b), .val (.int (3 : Int32)), .val (.int (2 : Int32)), .val (.ref e2)] [(.int (0 : Int32))]))
        have hn2 := he
        refine Go.st (fun _ => XS.ifYes W12.here W12.ex rfl (pc0 := 28) (pc' := 37) rfl (hb hby d4_28) rfl ((if0 _ _).trans (teq (rfl : (0 : Int32) = (0 : Int32))).1) (by decide) (by decide)) ?_
        show Go p_ e_ bl_ _ (T12.setTop (mkF m_ 37 #[.val (.ref a), .val (.ref b), .val (.int (3 : Int32)), .val (.int (2 : Int32)), .val (.ref e2)] []))
        refine Go.st (fun _ => XS.iinc W12.here W12.ex rfl (hb hby d4_37) rfl (l' := #[.val (.ref a), .val (.ref b), .val (.int (3 : Int32)), .val (.int (3 : Int32)), .val (.ref e2)]) rfl) ?_
        show Go p_ e_ bl_ _ (T12.setTop (mkF m_ 40 #[.val (.ref a), .val (.ref b), .val (.int (3 : Int32)), .val (.int (3 : Int32)), .val (.ref e2)] []))
        refine Go.st (fun _ => XS.goto W12.here W12.ex rfl (pc0 := 40) (pc' := 9) rfl (hb hby d4_40) (by decide) (by decide)) ?_
        show Go p_ e_ bl_ _ (T12.setTop (mkF m_ 9 #[.val (.ref a), .val (.ref b), .val (.int (3 : Int32)), .val (.int (3 : Int32)), .val (.ref e2)] []))
        refine Go.st (fun _ => XS.iloadN W12.here W12.ex rfl (hb hby d4_9) rfl) ?_
        show Go p_ e_ bl_ _ (T12.setTop (mkF m_ 10 #[.val (.ref a), .val (.ref b), .val (.int (3 : Int32)), .val (.int (3 : Int32)), .val (.ref e2)] [(.int (3 : Int32))]))
        refine Go.st (fun _ => XS.iloadN W12.here W12.ex rfl (hb hby d4_10) rfl) ?_
        show Go p_ e_ bl_ _ (T12.setTop (mkF m_ 11 #[.val (.ref a), .val (.ref b), .val (.int (3 : Int32)), .val (.int (3 : Int32)), .val (.ref e2)] [(.int (3 : Int32)), (.int (3 : Int32))]))
        refine Go.st (fun _ => XS.icmpYes W12.here W12.ex rfl (pc0 := 11) (pc' := 43) rfl (hb hby d4_11) rfl (flt ((by decide) : ¬ ((3 : Int32) < (3 : Int32)))).2.1 (by decide) (by decide)) ?_
        show Go p_ e_ bl_ _ (T12.setTop (mkF m_ 43 #[.val (.ref a), .val (.ref b), .val (.int (3 : Int32)), .val (.int (3 : Int32)), .val (.ref e2)] []))
        refine W12.callS (y := (⟨"java/util/Optional", "empty", "()Ljava/util/Optional;"⟩ : MethodName)) (cx.w 112 rfl) (cx.w 113 rfl) (cx.w 58 rfl) (cx.w 114 rfl) (by decide) (ct_optE cx W12.old ) all0 (by decide) (Wd := 0) (by decide) (k' := 1) (n' := 3) rfl rfl (by decide) (by decide) (by rw [hml]; rfl) (argsL := []) (rest := []) rfl (lenOf pd10 rfl) rfl (Nat.le_of_eq rfl) (hb hby d4_43) ?_
        intro v14 vm14 T14 h14 L14 W14 q14
        obtain ⟨rfl, eh_⟩ := q14
        subst h14
        show Go p_ e_ bl_ _ (T14.setTop (mkF m_ 46 #[.val (.ref a), .val (.ref b), .val (.int (3 : Int32)), .val (.int (3 : Int32)), .val (.ref e2)] [(.ref em)]))
        exact W14.retA hret rfl rfl (hb hby d4_46) (by decide) (by decide) fun _ _ => ⟨em, rfl, K0, cx.exem.ext W14.e0, by rw [(by simp only [K3, if_neg (Ne.symm hn0), if_neg (Ne.symm hn1), if_neg (Ne.symm hn2)] : K3 cs e0 e1 e2 = .null)]; exact cx.fem.ext W14.e0⟩
set_option maxRecDepth 65536 in
set_option maxHeartbeats 40000000 in
theorem ct_name {l : Launch} {Z : State} {a0 : Array Value} {n0 : Nat} {g1 : Int32} {e0 e1 e2 va q0 q1 q2 r0 r1 r2 : Addr} {kva : ClassId} {em : Addr} (cx : Ctx Z a0 n0 g1 e0 e1 e2 va q0 q1 q2 r0 r1 r2 kva em) {h : Heap} (O : Old Z n0 h) (a q : Addr) (F_a : Fld Z h a "com/example/loginconv/loginconv/AuthorizableKind" "primaryType" "Ljava/lang/String;" (.ref q)) :
    Ct l Z consts_1 n0 [] (⟨"com/example/loginconv/loginconv/AuthorizableKind", "primaryType", "()Ljava/lang/String;"⟩ : MethodName) prog_1_method_5_code 1 (some (.object "java/lang/String")) ({ frames := 0, cells := 0, slots := 0, locals := 0 } : Room) #[(.ref a)] [] h (fun v _ h' => v = some (.ref q) ∧ h' = h) := by
  refine Ct.intro (plainFor_of_name pn4) O cx.ew ?_
  intro p_ e_ s_ m_ bl_ mt_ c_ T0 W0 hby hml hret hnm
  refine Go.st (fun t_ k_ => castTop (g' := mkF m_ 0 #[.val (.ref a)] []) (by first | (simp [entryFrame, mkF, argsToLocals, Value.category]; done) | rfl) k_) ?_
  show Go p_ e_ bl_ _ (T0.setTop (mkF m_ 0 #[.val (.ref a)] []))
  refine Go.st (fun _ => XS.aloadN W0.here W0.ex rfl (hb hby d13_0) rfl rfl) ?_
  show Go p_ e_ bl_ _ (T0.setTop (mkF m_ 1 #[.val (.ref a)] [(.ref a)]))
  refine W0.getF (cx.w 44 rfl) Via.refl F_a (hb hby d13_1) ?_
  intro T1 W1
  show Go p_ e_ bl_ _ (T1.setTop (mkF m_ 4 #[.val (.ref a)] [(.ref q)]))
  exact W1.retA hret rfl rfl (hb hby d13_4) (by decide) (by decide) fun _ _ => ⟨rfl, rfl⟩
set_option maxRecDepth 65536 in
set_option maxHeartbeats 40000000 in
theorem ct_law {l : Launch} {Z : State} {a0 : Array Value} {n0 : Nat} {g1 : Int32} {e0 e1 e2 va q0 q1 q2 r0 r1 r2 : Addr} {kva : ClassId} {em : Addr} (cx : Ctx Z a0 n0 g1 e0 e1 e2 va q0 q1 q2 r0 r1 r2 kva em) {h : Heap} (O : Old Z n0 h) (i0 i1 i2 i3 i4 i5 : Int32)  :
    Ct l Z consts_1 n0 tables_1 x code maxLocals ret room_1 #[(.int i0), (.int i1), (.int i2), (.int i3), (.int i4), (.int i5)] [] h (fun v _ _ => v = some (.int 1)) := by
  refine Ct.intro (plainFor_of_name pn5) O cx.ew ?_
  intro p_ e_ s_ m_ bl_ mt_ c_ T0 W0 hby hml hret hnm
  refine Go.st (fun t_ k_ => castTop (g' := mkF m_ 0 #[.val (.int i0), .val (.int i1), .val (.int i2), .val (.int i3), .val (.int i4), .val (.int i5), .unset, .unset, .unset] []) (by first | (simp [entryFrame, mkF, argsToLocals, Value.category, maxLocals]; done) | rfl) k_) ?_
  show Go p_ e_ bl_ _ (T0.setTop (mkF m_ 0 #[.val (.int i0), .val (.int i1), .val (.int i2), .val (.int i3), .val (.int i4), .val (.int i5), .unset, .unset, .unset] []))
  refine Go.st (fun _ => XS.iloadN W0.here W0.ex rfl (hb hby at_0) rfl) ?_
  show Go p_ e_ bl_ _ (T0.setTop (mkF m_ 1 #[.val (.int i0), .val (.int i1), .val (.int i2), .val (.int i3), .val (.int i4), .val (.int i5), .unset, .unset, .unset] [(.int i0)]))
  refine Go.st (fun _ => XS.iconst W0.here W0.ex rfl (hb hby at_1)) ?_
  show Go p_ e_ bl_ _ (T0.setTop (mkF m_ 2 #[.val (.int i0), .val (.int i1), .val (.int i2), .val (.int i3), .val (.int i4), .val (.int i5), .unset, .unset, .unset] [(.int (3 : Int32)), (.int i0)]))
  refine Go.st (fun _ => XS.iand W0.here W0.ex rfl (hb hby at_2) rfl) ?_
  show Go p_ e_ bl_ _ (T0.setTop (mkF m_ 3 #[.val (.int i0), .val (.int i1), .val (.int i2), .val (.int i3), .val (.int i4), .val (.int i5), .unset, .unset, .unset] [(.int (i0 &&& (3 : Int32)))]))
  refine Go.st (fun _ => XS.iloadN W0.here W0.ex rfl (hb hby at_3) rfl) ?_
  show Go p_ e_ bl_ _ (T0.setTop (mkF m_ 4 #[.val (.int i0), .val (.int i1), .val (.int i2), .val (.int i3), .val (.int i4), .val (.int i5), .unset, .unset, .unset] [(.int i1), (.int (i0 &&& (3 : Int32)))]))
  refine Go.st (fun _ => XS.iloadN W0.here W0.ex rfl (hb hby at_4) rfl) ?_
  show Go p_ e_ bl_ _ (T0.setTop (mkF m_ 5 #[.val (.int i0), .val (.int i1), .val (.int i2), .val (.int i3), .val (.int i4), .val (.int i5), .unset, .unset, .unset] [(.int i2), (.int i1), (.int (i0 &&& (3 : Int32)))]))
  refine Go.st (fun _ => XS.iloadN W0.here W0.ex rfl (hb hby at_5) rfl) ?_
  show Go p_ e_ bl_ _ (T0.setTop (mkF m_ 6 #[.val (.int i0), .val (.int i1), .val (.int i2), .val (.int i3), .val (.int i4), .val (.int i5), .unset, .unset, .unset] [(.int i3), (.int i2), (.int i1), (.int (i0 &&& (3 : Int32)))]))
  refine Go.st (fun _ => XS.iload W0.here W0.ex rfl (hb hby at_6) rfl) ?_
  show Go p_ e_ bl_ _ (T0.setTop (mkF m_ 8 #[.val (.int i0), .val (.int i1), .val (.int i2), .val (.int i3), .val (.int i4), .val (.int i5), .unset, .unset, .unset] [(.int i4), (.int i3), (.int i2), (.int i1), (.int (i0 &&& (3 : Int32)))]))
  refine Go.st (fun _ => XS.iload W0.here W0.ex rfl (hb hby at_8) rfl) ?_
  show Go p_ e_ bl_ _ (T0.setTop (mkF m_ 10 #[.val (.int i0), .val (.int i1), .val (.int i2), .val (.int i3), .val (.int i4), .val (.int i5), .unset, .unset, .unset] [(.int i5), (.int i4), (.int i3), (.int i2), (.int i1), (.int (i0 &&& (3 : Int32)))]))
  refine W0.callS (y := (⟨"com/example/loginconv/loginconv/AuthorizableKindOfPrimaryTypePinLaw", "input", "(IIIIII)Ljava/lang/String;"⟩ : MethodName)) (cx.w 0 rfl) (cx.w 1 rfl) (cx.w 2 rfl) (cx.w 3 rfl) (by decide) (ct_input cx W0.old (i0 &&& (3 : Int32)) i1 i2 i3 i4 i5) all0 (by decide) (Wd := 0) (by decide) (k' := 6) (n' := 64) rfl rfl (by decide) (by decide) (by rw [hml]; rfl) (argsL := [(.int (i0 &&& (3 : Int32))), (.int i1), (.int i2), (.int i3), (.int i4), (.int i5)]) (rest := []) rfl (lenOf pd12 rfl) rfl (Nat.le_of_eq rfl) (hb hby at_10) ?_
  intro v1 vm1 T1 h1 L1 W1 q1
  rcases q1 with ⟨K1, rfl | ⟨s, t, cs, rfl, S_s⟩⟩
  · show Go p_ e_ bl_ _ (T1.setTop (mkF m_ 13 #[.val (.int i0), .val (.int i1), .val (.int i2), .val (.int i3), .val (.int i4), .val (.int i5), .unset, .unset, .unset] [.null]))
    refine Go.st (fun _ => XS.astore W1.here W1.ex rfl (hb hby at_13) rfl rfl (l' := #[.val (.int i0), .val (.int i1), .val (.int i2), .val (.int i3), .val (.int i4), .val (.int i5), .val .null, .unset, .unset]) rfl) ?_
    show Go p_ e_ bl_ _ (T1.setTop (mkF m_ 15 #[.val (.int i0), .val (.int i1), .val (.int i2), .val (.int i3), .val (.int i4), .val (.int i5), .val .null, .unset, .unset] []))
    refine Go.st (fun _ => XS.aload W1.here W1.ex rfl (hb hby at_15) rfl rfl) ?_
    show Go p_ e_ bl_ _ (T1.setTop (mkF m_ 17 #[.val (.int i0), .val (.int i1), .val (.int i2), .val (.int i3), .val (.int i4), .val (.int i5), .val .null, .unset, .unset] [.null]))
    refine W1.callS (y := (⟨"com/example/loginconv/loginconv/AuthorizableKindOfPrimaryTypePinLaw", "reference", "(Ljava/lang/String;)Lcom/example/loginconv/loginconv/AuthorizableKind;"⟩ : MethodName)) (cx.w 13 rfl) (cx.w 14 rfl) (cx.w 2 rfl) (cx.w 15 rfl) (by decide) (ct_refN cx W1.old ) all0 (by decide) (Wd := 0) (by decide) (k' := 12) (n' := 200) rfl rfl (by decide) (by decide) (by rw [hml]; rfl) (argsL := [.null]) (rest := []) rfl (lenOf pd13 rfl) rfl (Nat.le_of_eq rfl) (hb hby at_17) ?_
    intro v2 vm2 T2 h2 L2 W2 q2
    obtain ⟨rfl, K2⟩ := q2
    show Go p_ e_ bl_ _ (T2.setTop (mkF m_ 20 #[.val (.int i0), .val (.int i1), .val (.int i2), .val (.int i3), .val (.int i4), .val (.int i5), .val .null, .unset, .unset] [.null]))
    refine Go.st (fun _ => XS.astore W2.here W2.ex rfl (hb hby at_20) rfl rfl (l' := #[.val (.int i0), .val (.int i1), .val (.int i2), .val (.int i3), .val (.int i4), .val (.int i5), .val .null, .val .null, .unset]) rfl) ?_
    show Go p_ e_ bl_ _ (T2.setTop (mkF m_ 22 #[.val (.int i0), .val (.int i1), .val (.int i2), .val (.int i3), .val (.int i4), .val (.int i5), .val .null, .val .null, .unset] []))
    refine Go.st (fun _ => XS.aload W2.here W2.ex rfl (hb hby at_22) rfl rfl) ?_
    show Go p_ e_ bl_ _ (T2.setTop (mkF m_ 24 #[.val (.int i0), .val (.int i1), .val (.int i2), .val (.int i3), .val (.int i4), .val (.int i5), .val .null, .val .null, .unset] [.null]))
    refine W2.callS (y := (⟨"com/example/loginconv/loginconv/AuthorizableKind", "ofPrimaryType", "(Ljava/lang/String;)Ljava/util/Optional;"⟩ : MethodName)) (cx.w 24 rfl) (cx.w 25 rfl) (cx.w 22 rfl) (cx.w 26 rfl) (by decide) (ct_fromNull cx W2.old ) all0 (by decide) (Wd := 0) (by decide) (k' := 13) (n' := 203) rfl rfl (by decide) (by decide) (by rw [hml]; rfl) (argsL := [.null]) (rest := []) rfl (lenOf pd14 rfl) rfl (Nat.le_of_eq rfl) (hb hby at_24) ?_
    intro v3 vm3 T3 h3 L3 W3 q3
    obtain ⟨rfl, K3⟩ := q3
    show Go p_ e_ bl_ _ (T3.setTop (mkF m_ 27 #[.val (.int i0), .val (.int i1), .val (.int i2), .val (.int i3), .val (.int i4), .val (.int i5), .val .null, .val .null, .unset] [(.ref em)]))
    have F_em := cx.fem.ext W3.e0
    have E_em := cx.exem.ext W3.e0
    refine Go.st (fun _ => XS.astore W3.here W3.ex rfl (hb hby at_27) rfl rfl (l' := #[.val (.int i0), .val (.int i1), .val (.int i2), .val (.int i3), .val (.int i4), .val (.int i5), .val .null, .val .null, .val (.ref em)]) rfl) ?_
    show Go p_ e_ bl_ _ (T3.setTop (mkF m_ 29 #[.val (.int i0), .val (.int i1), .val (.int i2), .val (.int i3), .val (.int i4), .val (.int i5), .val .null, .val .null, .val (.ref em)] []))
    refine Go.st (fun _ => XS.aload W3.here W3.ex rfl (hb hby at_29) rfl rfl) ?_
    show Go p_ e_ bl_ _ (T3.setTop (mkF m_ 31 #[.val (.int i0), .val (.int i1), .val (.int i2), .val (.int i3), .val (.int i4), .val (.int i5), .val .null, .val .null, .val (.ref em)] [(.ref em)]))
    refine Go.st (fun _ => XS.ifnonnullYes W3.here W3.ex rfl (pc0 := 31) (pc' := 36) rfl (hb hby at_31) rfl (by decide) (by decide)) ?_
    show Go p_ e_ bl_ _ (T3.setTop (mkF m_ 36 #[.val (.int i0), .val (.int i1), .val (.int i2), .val (.int i3), .val (.int i4), .val (.int i5), .val .null, .val .null, .val (.ref em)] []))
    refine Go.st (fun _ => XS.aload W3.here W3.ex rfl (hb hby at_36) rfl rfl) ?_
    show Go p_ e_ bl_ _ (T3.setTop (mkF m_ 38 #[.val (.int i0), .val (.int i1), .val (.int i2), .val (.int i3), .val (.int i4), .val (.int i5), .val .null, .val .null, .val (.ref em)] [.null]))
    refine Go.st (fun _ => XS.ifnonnullNo W3.here W3.ex rfl (hb hby at_38) rfl) ?_
    show Go p_ e_ bl_ _ (T3.setTop (mkF m_ 41 #[.val (.int i0), .val (.int i1), .val (.int i2), .val (.int i3), .val (.int i4), .val (.int i5), .val .null, .val .null, .val (.ref em)] []))
    refine Go.st (fun _ => XS.aload W3.here W3.ex rfl (hb hby at_41) rfl rfl) ?_
    show Go p_ e_ bl_ _ (T3.setTop (mkF m_ 43 #[.val (.int i0), .val (.int i1), .val (.int i2), .val (.int i3), .val (.int i4), .val (.int i5), .val .null, .val .null, .val (.ref em)] [(.ref em)]))
    refine W3.callV (y := (⟨"java/util/Optional", "isPresent", "()Z"⟩ : MethodName)) (z := (⟨"java/util/Optional", "isPresent", "()Z"⟩ : MethodName)) (cx.w 75 rfl) (cx.w 76 rfl) (cx.w 78 rfl) (cx.w 77 rfl) (cx.w 58 rfl) (cx.w 79 rfl) (W3.nf (cx.w 78 rfl)) (by decide) E_em (ct_presN cx W3.old em em F_em) all0 (by decide) (Wd := 0) (by decide) (k' := 13) (n' := 203) rfl rfl (by decide) (by decide) (by rw [hml]; rfl) (a := em) (argsL := []) (rest := []) rfl (lenOf pd15 rfl) rfl (Nat.le_of_eq rfl) (hb hby at_43) ?_
    intro v4 vm4 T4 h4 L4 W4 q4
    obtain ⟨rfl, eh_⟩ := q4
    subst h4
    show Go p_ e_ bl_ _ (T4.setTop (mkF m_ 46 #[.val (.int i0), .val (.int i1), .val (.int i2), .val (.int i3), .val (.int i4), .val (.int i5), .val .null, .val .null, .val (.ref em)] [(.int (0 : Int32))]))
    refine Go.st (fun _ => XS.ifNo W4.here W4.ex rfl (hb hby at_46) rfl ((if0 _ _).trans (teq (rfl : (0 : Int32) = (0 : Int32))).2)) ?_
    show Go p_ e_ bl_ _ (T4.setTop (mkF m_ 49 #[.val (.int i0), .val (.int i1), .val (.int i2), .val (.int i3), .val (.int i4), .val (.int i5), .val .null, .val .null, .val (.ref em)] []))
    refine Go.st (fun _ => XS.iconst W4.here W4.ex rfl (hb hby at_49)) ?_
    show Go p_ e_ bl_ _ (T4.setTop (mkF m_ 50 #[.val (.int i0), .val (.int i1), .val (.int i2), .val (.int i3), .val (.int i4), .val (.int i5), .val .null, .val .null, .val (.ref em)] [(.int (1 : Int32))]))
    refine Go.st (fun _ => XS.goto W4.here W4.ex rfl (pc0 := 50) (pc' := 54) rfl (hb hby at_50) (by decide) (by decide)) ?_
    show Go p_ e_ bl_ _ (T4.setTop (mkF m_ 54 #[.val (.int i0), .val (.int i1), .val (.int i2), .val (.int i3), .val (.int i4), .val (.int i5), .val .null, .val .null, .val (.ref em)] [(.int (1 : Int32))]))
    exact W4.retN hret (by simp) (hb hby at_54) (by decide) (by decide) fun _ _ => rfl
  · show Go p_ e_ bl_ _ (T1.setTop (mkF m_ 13 #[.val (.int i0), .val (.int i1), .val (.int i2), .val (.int i3), .val (.int i4), .val (.int i5), .unset, .unset, .unset] [(.ref s)]))
    have F_e0 := cx.fe0.ext W1.e0
    have S_q0 := cx.sq0.ext W1.e0
    have X_e0 := cx.ex0.ext W1.e0
    have F_e1 := cx.fe1.ext W1.e0
    have S_q1 := cx.sq1.ext W1.e0
    have X_e1 := cx.ex1.ext W1.e0
    have F_e2 := cx.fe2.ext W1.e0
    have S_q2 := cx.sq2.ext W1.e0
    have X_e2 := cx.ex2.ext W1.e0
    refine Go.st (fun _ => XS.astore W1.here W1.ex rfl (hb hby at_13) rfl rfl (l' := #[.val (.int i0), .val (.int i1), .val (.int i2), .val (.int i3), .val (.int i4), .val (.int i5), .val (.ref s), .unset, .unset]) rfl) ?_
    show Go p_ e_ bl_ _ (T1.setTop (mkF m_ 15 #[.val (.int i0), .val (.int i1), .val (.int i2), .val (.int i3), .val (.int i4), .val (.int i5), .val (.ref s), .unset, .unset] []))
    refine Go.st (fun _ => XS.aload W1.here W1.ex rfl (hb hby at_15) rfl rfl) ?_
    show Go p_ e_ bl_ _ (T1.setTop (mkF m_ 17 #[.val (.int i0), .val (.int i1), .val (.int i2), .val (.int i3), .val (.int i4), .val (.int i5), .val (.ref s), .unset, .unset] [(.ref s)]))
    refine W1.callS (y := (⟨"com/example/loginconv/loginconv/AuthorizableKindOfPrimaryTypePinLaw", "reference", "(Ljava/lang/String;)Lcom/example/loginconv/loginconv/AuthorizableKind;"⟩ : MethodName)) (cx.w 13 rfl) (cx.w 14 rfl) (cx.w 2 rfl) (cx.w 15 rfl) (by decide) (ct_ref cx W1.old s t cs S_s) all0 (by decide) (Wd := 0) (by decide) (k' := 12) (n' := 200) rfl rfl (by decide) (by decide) (by rw [hml]; rfl) (argsL := [(.ref s)]) (rest := []) rfl (lenOf pd13 rfl) rfl (Nat.le_of_eq rfl) (hb hby at_17) ?_
    intro v5 vm5 T5 h5 L5 W5 q5
    obtain ⟨rfl, K2⟩ := q5
    replace S_s := S_s.keep K2 nin0 nin0
    replace F_e0 := F_e0.keep K2 nin0
    replace S_q0 := S_q0.keep K2 nin0 nin0
    replace X_e0 := X_e0.keep K2
    replace F_e1 := F_e1.keep K2 nin0
    replace S_q1 := S_q1.keep K2 nin0 nin0
    replace X_e1 := X_e1.keep K2
    replace F_e2 := F_e2.keep K2 nin0
    replace S_q2 := S_q2.keep K2 nin0 nin0
    replace X_e2 := X_e2.keep K2
    show Go p_ e_ bl_ _ (T5.setTop (mkF m_ 20 #[.val (.int i0), .val (.int i1), .val (.int i2), .val (.int i3), .val (.int i4), .val (.int i5), .val (.ref s), .unset, .unset] [(K3 cs e0 e1 e2)]))
    rcases k3_cases cs e0 e1 e2 with ⟨hk, hc⟩ | ⟨hk, hc⟩ | ⟨hk, hc⟩ | hk
    · rw [hk]
      show Go p_ e_ bl_ _ (T5.setTop (mkF m_ 20 #[.val (.int i0), .val (.int i1), .val (.int i2), .val (.int i3), .val (.int i4), .val (.int i5), .val (.ref s), .unset, .unset] [(.ref e0)]))
      refine Go.st (fun _ => XS.astore W5.here W5.ex rfl (hb hby at_20) rfl rfl (l' := #[.val (.int i0), .val (.int i1), .val (.int i2), .val (.int i3), .val (.int i4), .val (.int i5), .val (.ref s), .val (.ref e0), .unset]) rfl) ?_
      show Go p_ e_ bl_ _ (T5.setTop (mkF m_ 22 #[.val (.int i0), .val (.int i1), .val (.int i2), .val (.int i3), .val (.int i4), .val (.int i5), .val (.ref s), .val (.ref e0), .unset] []))
      refine Go.st (fun _ => XS.aload W5.here W5.ex rfl (hb hby at_22) rfl rfl) ?_
      show Go p_ e_ bl_ _ (T5.setTop (mkF m_ 24 #[.val (.int i0), .val (.int i1), .val (.int i2), .val (.int i3), .val (.int i4), .val (.int i5), .val (.ref s), .val (.ref e0), .unset] [(.ref s)]))
      refine W5.callS (y := (⟨"com/example/loginconv/loginconv/AuthorizableKind", "ofPrimaryType", "(Ljava/lang/String;)Ljava/util/Optional;"⟩ : MethodName)) (cx.w 24 rfl) (cx.w 25 rfl) (cx.w 22 rfl) (cx.w 26 rfl) (by decide) (ct_from cx W5.old s t cs S_s) all0 (by decide) (Wd := 0) (by decide) (k' := 14) (n' := 204) rfl rfl (by decide) (by decide) (by rw [hml]; rfl) (argsL := [(.ref s)]) (rest := []) rfl (lenOf pd14 rfl) rfl (Nat.le_of_eq rfl) (hb hby at_24) ?_
      intro v6 vm6 T6 h6 L6 W6 q6
      obtain ⟨o, rfl, K4, E_o, F_o⟩ := q6
      replace S_s := S_s.keep K4 nin0 nin0
      replace F_e0 := F_e0.keep K4 nin0
      replace S_q0 := S_q0.keep K4 nin0 nin0
      replace X_e0 := X_e0.keep K4
      replace F_e1 := F_e1.keep K4 nin0
      replace S_q1 := S_q1.keep K4 nin0 nin0
      replace X_e1 := X_e1.keep K4
      replace F_e2 := F_e2.keep K4 nin0
      replace S_q2 := S_q2.keep K4 nin0 nin0
      replace X_e2 := X_e2.keep K4
      show Go p_ e_ bl_ _ (T6.setTop (mkF m_ 27 #[.val (.int i0), .val (.int i1), .val (.int i2), .val (.int i3), .val (.int i4), .val (.int i5), .val (.ref s), .val (.ref e0), .unset] [(.ref o)]))
      rw [hk] at F_o
      refine Go.st (fun _ => XS.astore W6.here W6.ex rfl (hb hby at_27) rfl rfl (l' := #[.val (.int i0), .val (.int i1), .val (.int i2), .val (.int i3), .val (.int i4), .val (.int i5), .val (.ref s), .val (.ref e0), .val (.ref o)]) rfl) ?_
      show Go p_ e_ bl_ _ (T6.setTop (mkF m_ 29 #[.val (.int i0), .val (.int i1), .val (.int i2), .val (.int i3), .val (.int i4), .val (.int i5), .val (.ref s), .val (.ref e0), .val (.ref o)] []))
      refine Go.st (fun _ => XS.aload W6.here W6.ex rfl (hb hby at_29) rfl rfl) ?_
      show Go p_ e_ bl_ _ (T6.setTop (mkF m_ 31 #[.val (.int i0), .val (.int i1), .val (.int i2), .val (.int i3), .val (.int i4), .val (.int i5), .val (.ref s), .val (.ref e0), .val (.ref o)] [(.ref o)]))
      refine Go.st (fun _ => XS.ifnonnullYes W6.here W6.ex rfl (pc0 := 31) (pc' := 36) rfl (hb hby at_31) rfl (by decide) (by decide)) ?_
      show Go p_ e_ bl_ _ (T6.setTop (mkF m_ 36 #[.val (.int i0), .val (.int i1), .val (.int i2), .val (.int i3), .val (.int i4), .val (.int i5), .val (.ref s), .val (.ref e0), .val (.ref o)] []))
      refine Go.st (fun _ => XS.aload W6.here W6.ex rfl (hb hby at_36) rfl rfl) ?_
      show Go p_ e_ bl_ _ (T6.setTop (mkF m_ 38 #[.val (.int i0), .val (.int i1), .val (.int i2), .val (.int i3), .val (.int i4), .val (.int i5), .val (.ref s), .val (.ref e0), .val (.ref o)] [(.ref e0)]))
      refine Go.st (fun _ => XS.ifnonnullYes W6.here W6.ex rfl (pc0 := 38) (pc' := 55) rfl (hb hby at_38) rfl (by decide) (by decide)) ?_
      show Go p_ e_ bl_ _ (T6.setTop (mkF m_ 55 #[.val (.int i0), .val (.int i1), .val (.int i2), .val (.int i3), .val (.int i4), .val (.int i5), .val (.ref s), .val (.ref e0), .val (.ref o)] []))
      refine Go.st (fun _ => XS.aload W6.here W6.ex rfl (hb hby at_55) rfl rfl) ?_
      show Go p_ e_ bl_ _ (T6.setTop (mkF m_ 57 #[.val (.int i0), .val (.int i1), .val (.int i2), .val (.int i3), .val (.int i4), .val (.int i5), .val (.ref s), .val (.ref e0), .val (.ref o)] [(.ref o)]))
      refine W6.callV (y := (⟨"java/util/Optional", "isPresent", "()Z"⟩ : MethodName)) (z := (⟨"java/util/Optional", "isPresent", "()Z"⟩ : MethodName)) (cx.w 75 rfl) (cx.w 76 rfl) (cx.w 78 rfl) (cx.w 77 rfl) (cx.w 58 rfl) (cx.w 79 rfl) (W6.nf (cx.w 78 rfl)) (by decide) E_o (ct_presY cx W6.old o e0 F_o) all0 (by decide) (Wd := 0) (by decide) (k' := 14) (n' := 204) rfl rfl (by decide) (by decide) (by rw [hml]; rfl) (a := o) (argsL := []) (rest := []) rfl (lenOf pd15 rfl) rfl (Nat.le_of_eq rfl) (hb hby at_57) ?_
      intro v7 vm7 T7 h7 L7 W7 q7
      obtain ⟨rfl, eh_⟩ := q7
      subst h7
      show Go p_ e_ bl_ _ (T7.setTop (mkF m_ 60 #[.val (.int i0), .val (.int i1), .val (.int i2), .val (.int i3), .val (.int i4), .val (.int i5), .val (.ref s), .val (.ref e0), .val (.ref o)] [(.int (1 : Int32))]))
      refine Go.st (fun _ => XS.ifNo W7.here W7.ex rfl (hb hby at_60) rfl ((if0 _ _).trans (feq ((by decide) : ¬ ((1 : Int32) = (0 : Int32)))).1)) ?_
      show Go p_ e_ bl_ _ (T7.setTop (mkF m_ 63 #[.val (.int i0), .val (.int i1), .val (.int i2), .val (.int i3), .val (.int i4), .val (.int i5), .val (.ref s), .val (.ref e0), .val (.ref o)] []))
      refine Go.st (fun _ => XS.aload W7.here W7.ex rfl (hb hby at_63) rfl rfl) ?_
      show Go p_ e_ bl_ _ (T7.setTop (mkF m_ 65 #[.val (.int i0), .val (.int i1), .val (.int i2), .val (.int i3), .val (.int i4), .val (.int i5), .val (.ref s), .val (.ref e0), .val (.ref o)] [(.ref o)]))
      refine W7.callV (y := (⟨"java/util/Optional", "get", "()Ljava/lang/Object;"⟩ : MethodName)) (z := (⟨"java/util/Optional", "get", "()Ljava/lang/Object;"⟩ : MethodName)) (cx.w 80 rfl) (cx.w 81 rfl) (cx.w 83 rfl) (cx.w 82 rfl) (cx.w 58 rfl) (cx.w 84 rfl) (W7.nf (cx.w 83 rfl)) (by decide) E_o (ct_get cx W7.old o e0 F_o) all0 (by decide) (Wd := 0) (by decide) (k' := 14) (n' := 204) rfl rfl (by decide) (by decide) (by rw [hml]; rfl) (a := o) (argsL := []) (rest := []) rfl (lenOf pd16 rfl) rfl (Nat.le_of_eq rfl) (hb hby at_65) ?_
      intro v8 vm8 T8 h8 L8 W8 q8
      obtain ⟨rfl, eh_⟩ := q8
      subst h8
      show Go p_ e_ bl_ _ (T8.setTop (mkF m_ 68 #[.val (.int i0), .val (.int i1), .val (.int i2), .val (.int i3), .val (.int i4), .val (.int i5), .val (.ref s), .val (.ref e0), .val (.ref o)] [(.ref e0)]))
      refine Go.st (fun _ => XS.aload W8.here W8.ex rfl (hb hby at_68) rfl rfl) ?_
      show Go p_ e_ bl_ _ (T8.setTop (mkF m_ 70 #[.val (.int i0), .val (.int i1), .val (.int i2), .val (.int i3), .val (.int i4), .val (.int i5), .val (.ref s), .val (.ref e0), .val (.ref o)] [(.ref e0), (.ref e0)]))
      refine Go.st (fun _ => Jvm.RoadKit.acmp (g := (mkF m_ 70 #[.val (.int i0), .val (.int i1), .val (.int i2), .val (.int i3), .val (.int i4), .val (.int i5), .val (.ref s), .val (.ref e0), .val (.ref o)] [(.ref e0), (.ref e0)])) W8.X W8.ex rfl rfl rfl (pc0 := 70) (pc' := 73) (same := true) rfl (hb hby at_70) rfl (decide_eq_true rfl) (by decide) (by decide)) ?_
      show Go p_ e_ bl_ _ (T8.setTop (mkF m_ 73 #[.val (.int i0), .val (.int i1), .val (.int i2), .val (.int i3), .val (.int i4), .val (.int i5), .val (.ref s), .val (.ref e0), .val (.ref o)] []))
      refine Go.st (fun _ => XS.aload W8.here W8.ex rfl (hb hby at_73) rfl rfl) ?_
      show Go p_ e_ bl_ _ (T8.setTop (mkF m_ 75 #[.val (.int i0), .val (.int i1), .val (.int i2), .val (.int i3), .val (.int i4), .val (.int i5), .val (.ref s), .val (.ref e0), .val (.ref o)] [(.ref e0)]))
      refine W8.callV (y := (⟨"com/example/loginconv/loginconv/AuthorizableKind", "primaryType", "()Ljava/lang/String;"⟩ : MethodName)) (z := (⟨"com/example/loginconv/loginconv/AuthorizableKind", "primaryType", "()Ljava/lang/String;"⟩ : MethodName)) (cx.w 85 rfl) (cx.w 86 rfl) (cx.w 88 rfl) (cx.w 87 rfl) (cx.w 22 rfl) (cx.w 89 rfl) (W8.nf (cx.w 88 rfl)) (by decide) X_e0 (ct_name cx W8.old e0 q0 F_e0) all0 (by decide) (Wd := 0) (by decide) (k' := 14) (n' := 204) rfl rfl (by decide) (by decide) (by rw [hml]; rfl) (a := e0) (argsL := []) (rest := []) rfl (lenOf pd17 rfl) rfl (Nat.le_of_eq rfl) (hb hby at_75) ?_
      intro v9 vm9 T9 h9 L9 W9 q9
      obtain ⟨rfl, eh_⟩ := q9
      subst h9
      show Go p_ e_ bl_ _ (T9.setTop (mkF m_ 78 #[.val (.int i0), .val (.int i1), .val (.int i2), .val (.int i3), .val (.int i4), .val (.int i5), .val (.ref s), .val (.ref e0), .val (.ref o)] [(.ref q0)]))
      refine Go.st (fun _ => XS.aload W9.here W9.ex rfl (hb hby at_78) rfl rfl) ?_
      show Go p_ e_ bl_ _ (T9.setTop (mkF m_ 80 #[.val (.int i0), .val (.int i1), .val (.int i2), .val (.int i3), .val (.int i4), .val (.int i5), .val (.ref s), .val (.ref e0), .val (.ref o)] [(.ref s), (.ref q0)]))
      obtain ⟨k1_10, V1_10⟩ := S_q0.kb
      obtain ⟨k2_10, V2_10⟩ := S_s.kb
      have E1_10 := S_q0.E
      refine W9.libV (y := (⟨"java/lang/String", "equals", "(Ljava/lang/Object;)Z"⟩ : MethodName)) (z := (⟨"java/lang/String", "equals", "(Ljava/lang/Object;)Z"⟩ : MethodName)) (cx.w 16 rfl) (cx.w 17 rfl) (cx.w 19 rfl) (cx.w 18 rfl) (W9.nf (cx.w 19 rfl)) (by decide) E1_10 (Q := fun v h' L' => ((v = some (.int 1) ∧ (litC 5) = cs) ∨ (v = some (.int 0) ∧ ¬ (litC 5) = cs)) ∧ L' = [] ∧ h' = h6) (ws := []) (Wd := 0) (ck := 0) (cn := 0) (StrChars.Road.eqW (W := 0) W9.hZ cx.qw (kI := 4) (cx.w 7 rfl) (cs := (litC 5)) S_q0.1 S_q0.2.2.1 S_q0.2.1 V1_10 (StrChars.Road.codOf rfl fun c hc => (S_q0.ch c hc).2) S_q0.ch.up S_q0.le (ds := cs) S_s.1 S_s.2.2.1 S_s.2.1 V2_10 (StrChars.Road.codOf rfl fun c hc => (S_s.ch c hc).2) S_s.ch.up S_s.le (cx.cmp.ext W9.e0) cx.g1 (by decide) (by decide)) (fun v h' L' q => ⟨by rw [q.2.1]; exact Fr.nil _, by rw [q.2.2]; exact Keep.refl _ _⟩) all0 all0 (k' := 14) (n' := 204) rfl rfl (by decide) (by decide) (by rw [hml]; rfl) (a := q0) (argsL := [(.ref s)]) (rest := []) rfl (lenOf pd8 rfl) rfl (Nat.le_of_eq rfl) (hb hby at_80) ?_
      intro v11 T11 h11 M11 L11 W11 q11
      rcases q11 with ⟨⟨rfl, he⟩ | ⟨rfl, he⟩, -, eh_⟩
      · subst h11
        show Go p_ e_ bl_ _ (T11.setTop (mkF m_ 83 #[.val (.int i0), .val (.int i1), .val (.int i2), .val (.int i3), .val (.int i4), .val (.int i5), .val (.ref s), .val (.ref e0), .val (.ref o)] [(.int (1 : Int32))]))
        refine Go.st (fun _ => XS.ifNo W11.here W11.ex rfl (hb hby at_83) rfl ((if0 _ _).trans (feq ((by decide) : ¬ ((1 : Int32) = (0 : Int32)))).1)) ?_
        show Go p_ e_ bl_ _ (T11.setTop (mkF m_ 86 #[.val (.int i0), .val (.int i1), .val (.int i2), .val (.int i3), .val (.int i4), .val (.int i5), .val (.ref s), .val (.ref e0), .val (.ref o)] []))
        refine Go.st (fun _ => XS.iconst W11.here W11.ex rfl (hb hby at_86)) ?_
        show Go p_ e_ bl_ _ (T11.setTop (mkF m_ 87 #[.val (.int i0), .val (.int i1), .val (.int i2), .val (.int i3), .val (.int i4), .val (.int i5), .val (.ref s), .val (.ref e0), .val (.ref o)] [(.int (1 : Int32))]))
        refine Go.st (fun _ => XS.goto W11.here W11.ex rfl (pc0 := 87) (pc' := 91) rfl (hb hby at_87) (by decide) (by decide)) ?_
        show Go p_ e_ bl_ _ (T11.setTop (mkF m_ 91 #[.val (.int i0), .val (.int i1), .val (.int i2), .val (.int i3), .val (.int i4), .val (.int i5), .val (.ref s), .val (.ref e0), .val (.ref o)] [(.int (1 : Int32))]))
        exact W11.retN hret (by simp) (hb hby at_91) (by decide) (by decide) fun _ _ => rfl
      · subst h11
        show Go p_ e_ bl_ _ (T11.setTop (mkF m_ 83 #[.val (.int i0), .val (.int i1), .val (.int i2), .val (.int i3), .val (.int i4), .val (.int i5), .val (.ref s), .val (.ref e0), .val (.ref o)] [(.int (0 : Int32))]))
        exact absurd hc.symm he
    · rw [hk]
      show Go p_ e_ bl_ _ (T5.setTop (mkF m_ 20 #[.val (.int i0), .val (.int i1), .val (.int i2), .val (.int i3), .val (.int i4), .val (.int i5), .val (.ref s), .unset, .unset] [(.ref e1)]))
      refine Go.st (fun _ => XS.astore W5.here W5.ex rfl (hb hby at_20) rfl rfl (l' := #[.val (.int i0), .val (.int i1), .val (.int i2), .val (.int i3), .val (.int i4), .val (.int i5), .val (.ref s), .val (.ref e1), .unset]) rfl) ?_
      show Go p_ e_ bl_ _ (T5.setTop (mkF m_ 22 #[.val (.int i0), .val (.int i1), .val (.int i2), .val (.int i3), .val (.int i4), .val (.int i5), .val (.ref s), .val (.ref e1), .unset] []))
      refine Go.st (fun _ => XS.aload W5.here W5.ex rfl (hb hby at_22) rfl rfl) ?_
      show Go p_ e_ bl_ _ (T5.setTop (mkF m_ 24 #[.val (.int i0), .val (.int i1), .val (.int i2), .val (.int i3), .val (.int i4), .val (.int i5), .val (.ref s), .val (.ref e1), .unset] [(.ref s)]))
      refine W5.callS (y := (⟨"com/example/loginconv/loginconv/AuthorizableKind", "ofPrimaryType", "(Ljava/lang/String;)Ljava/util/Optional;"⟩ : MethodName)) (cx.w 24 rfl) (cx.w 25 rfl) (cx.w 22 rfl) (cx.w 26 rfl) (by decide) (ct_from cx W5.old s t cs S_s) all0 (by decide) (Wd := 0) (by decide) (k' := 14) (n' := 204) rfl rfl (by decide) (by decide) (by rw [hml]; rfl) (argsL := [(.ref s)]) (rest := []) rfl (lenOf pd14 rfl) rfl (Nat.le_of_eq rfl) (hb hby at_24) ?_
      intro v12 vm12 T12 h12 L12 W12 q12
      obtain ⟨o, rfl, K4, E_o, F_o⟩ := q12
      replace S_s := S_s.keep K4 nin0 nin0
      replace F_e0 := F_e0.keep K4 nin0
      replace S_q0 := S_q0.keep K4 nin0 nin0
      replace X_e0 := X_e0.keep K4
      replace F_e1 := F_e1.keep K4 nin0
      replace S_q1 := S_q1.keep K4 nin0 nin0
      replace X_e1 := X_e1.keep K4
      replace F_e2 := F_e2.keep K4 nin0
      replace S_q2 := S_q2.keep K4 nin0 nin0
      replace X_e2 := X_e2.keep K4
      show Go p_ e_ bl_ _ (T12.setTop (mkF m_ 27 #[.val (.int i0), .val (.int i1), .val (.int i2), .val (.int i3), .val (.int i4), .val (.int i5), .val (.ref s), .val (.ref e1), .unset] [(.ref o)]))
      rw [hk] at F_o
      refine Go.st (fun _ => XS.astore W12.here W12.ex rfl (hb hby at_27) rfl rfl (l' := #[.val (.int i0), .val (.int i1), .val (.int i2), .val (.int i3), .val (.int i4), .val (.int i5), .val (.ref s), .val (.ref e1), .val (.ref o)]) rfl) ?_
      show Go p_ e_ bl_ _ (T12.setTop (mkF m_ 29 #[.val (.int i0), .val (.int i1), .val (.int i2), .val (.int i3), .val (.int i4), .val (.int i5), .val (.ref s), .val (.ref e1), .val (.ref o)] []))
      refine Go.st (fun _ => XS.aload W12.here W12.ex rfl (hb hby at_29) rfl rfl) ?_
      show Go p_ e_ bl_ _ (T12.setTop (mkF m_ 31 #[.val (.int i0), .val (.int i1), .val (.int i2), .val (.int i3), .val (.int i4), .val (.int i5), .val (.ref s), .val (.ref e1), .val (.ref o)] [(.ref o)]))
      refine Go.st (fun _ => XS.ifnonnullYes W12.here W12.ex rfl (pc0 := 31) (pc' := 36) rfl (hb hby at_31) rfl (by decide) (by decide)) ?_
      show Go p_ e_ bl_ _ (T12.setTop (mkF m_ 36 #[.val (.int i0), .val (.int i1), .val (.int i2), .val (.int i3), .val (.int i4), .val (.int i5), .val (.ref s), .val (.ref e1), .val (.ref o)] []))
      refine Go.st (fun _ => XS.aload W12.here W12.ex rfl (hb hby at_36) rfl rfl) ?_
      show Go p_ e_ bl_ _ (T12.setTop (mkF m_ 38 #[.val (.int i0), .val (.int i1), .val (.int i2), .val (.int i3), .val (.int i4), .val (.int i5), .val (.ref s), .val (.ref e1), .val (.ref o)] [(.ref e1)]))
      refine Go.st (fun _ => XS.ifnonnullYes W12.here W12.ex rfl (pc0 := 38) (pc' := 55) rfl (hb hby at_38) rfl (by decide) (by decide)) ?_
      show Go p_ e_ bl_ _ (T12.setTop (mkF m_ 55 #[.val (.int i0), .val (.int i1), .val (.int i2), .val (.int i3), .val (.int i4), .val (.int i5), .val (.ref s), .val (.ref e1), .val (.ref o)] []))
      refine Go.st (fun _ => XS.aload W12.here W12.ex rfl (hb hby at_55) rfl rfl) ?_
      show Go p_ e_ bl_ _ (T12.setTop (mkF m_ 57 #[.val (.int i0), .val (.int i1), .val (.int i2), .val (.int i3), .val (.int i4), .val (.int i5), .val (.ref s), .val (.ref e1), .val (.ref o)] [(.ref o)]))
      refine W12.callV (y := (⟨"java/util/Optional", "isPresent", "()Z"⟩ : MethodName)) (z := (⟨"java/util/Optional", "isPresent", "()Z"⟩ : MethodName)) (cx.w 75 rfl) (cx.w 76 rfl) (cx.w 78 rfl) (cx.w 77 rfl) (cx.w 58 rfl) (cx.w 79 rfl) (W12.nf (cx.w 78 rfl)) (by decide) E_o (ct_presY cx W12.old o e1 F_o) all0 (by decide) (Wd := 0) (by decide) (k' := 14) (n' := 204) rfl rfl (by decide) (by decide) (by rw [hml]; rfl) (a := o) (argsL := []) (rest := []) rfl (lenOf pd15 rfl) rfl (Nat.le_of_eq rfl) (hb hby at_57) ?_
      intro v13 vm13 T13 h13 L13 W13 q13
      obtain ⟨rfl, eh_⟩ := q13
      subst h13
      show Go p_ e_ bl_ _ (T13.setTop (mkF m_ 60 #[.val (.int i0), .val (.int i1), .val (.int i2), .val (.int i3), .val (.int i4), .val (.int i5), .val (.ref s), .val (.ref e1), .val (.ref o)] [(.int (1 : Int32))]))
      refine Go.st (fun _ => XS.ifNo W13.here W13.ex rfl (hb hby at_60) rfl ((if0 _ _).trans (feq ((by decide) : ¬ ((1 : Int32) = (0 : Int32)))).1)) ?_
      show Go p_ e_ bl_ _ (T13.setTop (mkF m_ 63 #[.val (.int i0), .val (.int i1), .val (.int i2), .val (.int i3), .val (.int i4), .val (.int i5), .val (.ref s), .val (.ref e1), .val (.ref o)] []))
      refine Go.st (fun _ => XS.aload W13.here W13.ex rfl (hb hby at_63) rfl rfl) ?_
      show Go p_ e_ bl_ _ (T13.setTop (mkF m_ 65 #[.val (.int i0), .val (.int i1), .val (.int i2), .val (.int i3), .val (.int i4), .val (.int i5), .val (.ref s), .val (.ref e1), .val (.ref o)] [(.ref o)]))
      refine W13.callV (y := (⟨"java/util/Optional", "get", "()Ljava/lang/Object;"⟩ : MethodName)) (z := (⟨"java/util/Optional", "get", "()Ljava/lang/Object;"⟩ : MethodName)) (cx.w 80 rfl) (cx.w 81 rfl) (cx.w 83 rfl) (cx.w 82 rfl) (cx.w 58 rfl) (cx.w 84 rfl) (W13.nf (cx.w 83 rfl)) (by decide) E_o (ct_get cx W13.old o e1 F_o) all0 (by decide) (Wd := 0) (by decide) (k' := 14) (n' := 204) rfl rfl (by decide) (by decide) (by rw [hml]; rfl) (a := o) (argsL := []) (rest := []) rfl (lenOf pd16 rfl) rfl (Nat.le_of_eq rfl) (hb hby at_65) ?_
      intro v14 vm14 T14 h14 L14 W14 q14
      obtain ⟨rfl, eh_⟩ := q14
      subst h14
      show Go p_ e_ bl_ _ (T14.setTop (mkF m_ 68 #[.val (.int i0), .val (.int i1), .val (.int i2), .val (.int i3), .val (.int i4), .val (.int i5), .val (.ref s), .val (.ref e1), .val (.ref o)] [(.ref e1)]))
      refine Go.st (fun _ => XS.aload W14.here W14.ex rfl (hb hby at_68) rfl rfl) ?_
      show Go p_ e_ bl_ _ (T14.setTop (mkF m_ 70 #[.val (.int i0), .val (.int i1), .val (.int i2), .val (.int i3), .val (.int i4), .val (.int i5), .val (.ref s), .val (.ref e1), .val (.ref o)] [(.ref e1), (.ref e1)]))
      refine Go.st (fun _ => Jvm.RoadKit.acmp (g := (mkF m_ 70 #[.val (.int i0), .val (.int i1), .val (.int i2), .val (.int i3), .val (.int i4), .val (.int i5), .val (.ref s), .val (.ref e1), .val (.ref o)] [(.ref e1), (.ref e1)])) W14.X W14.ex rfl rfl rfl (pc0 := 70) (pc' := 73) (same := true) rfl (hb hby at_70) rfl (decide_eq_true rfl) (by decide) (by decide)) ?_
      show Go p_ e_ bl_ _ (T14.setTop (mkF m_ 73 #[.val (.int i0), .val (.int i1), .val (.int i2), .val (.int i3), .val (.int i4), .val (.int i5), .val (.ref s), .val (.ref e1), .val (.ref o)] []))
      refine Go.st (fun _ => XS.aload W14.here W14.ex rfl (hb hby at_73) rfl rfl) ?_
      show Go p_ e_ bl_ _ (T14.setTop (mkF m_ 75 #[.val (.int i0), .val (.int i1), .val (.int i2), .val (.int i3), .val (.int i4), .val (.int i5), .val (.ref s), .val (.ref e1), .val (.ref o)] [(.ref e1)]))
      refine W14.callV (y := (⟨"com/example/loginconv/loginconv/AuthorizableKind", "primaryType", "()Ljava/lang/String;"⟩ : MethodName)) (z := (⟨"com/example/loginconv/loginconv/AuthorizableKind", "primaryType", "()Ljava/lang/String;"⟩ : MethodName)) (cx.w 85 rfl) (cx.w 86 rfl) (cx.w 88 rfl) (cx.w 87 rfl) (cx.w 22 rfl) (cx.w 89 rfl) (W14.nf (cx.w 88 rfl)) (by decide) X_e1 (ct_name cx W14.old e1 q1 F_e1) all0 (by decide) (Wd := 0) (by decide) (k' := 14) (n' := 204) rfl rfl (by decide) (by decide) (by rw [hml]; rfl) (a := e1) (argsL := []) (rest := []) rfl (lenOf pd17 rfl) rfl (Nat.le_of_eq rfl) (hb hby at_75) ?_
      intro v15 vm15 T15 h15 L15 W15 q15
      obtain ⟨rfl, eh_⟩ := q15
      subst h15
      show Go p_ e_ bl_ _ (T15.setTop (mkF m_ 78 #[.val (.int i0), .val (.int i1), .val (.int i2), .val (.int i3), .val (.int i4), .val (.int i5), .val (.ref s), .val (.ref e1), .val (.ref o)] [(.ref q1)]))
      refine Go.st (fun _ => XS.aload W15.here W15.ex rfl (hb hby at_78) rfl rfl) ?_
      show Go p_ e_ bl_ _ (T15.setTop (mkF m_ 80 #[.val (.int i0), .val (.int i1), .val (.int i2), .val (.int i3), .val (.int i4), .val (.int i5), .val (.ref s), .val (.ref e1), .val (.ref o)] [(.ref s), (.ref q1)]))
      obtain ⟨k1_16, V1_16⟩ := S_q1.kb
      obtain ⟨k2_16, V2_16⟩ := S_s.kb
      have E1_16 := S_q1.E
      refine W15.libV (y := (⟨"java/lang/String", "equals", "(Ljava/lang/Object;)Z"⟩ : MethodName)) (z := (⟨"java/lang/String", "equals", "(Ljava/lang/Object;)Z"⟩ : MethodName)) (cx.w 16 rfl) (cx.w 17 rfl) (cx.w 19 rfl) (cx.w 18 rfl) (W15.nf (cx.w 19 rfl)) (by decide) E1_16 (Q := fun v h' L' => ((v = some (.int 1) ∧ (litC 90) = cs) ∨ (v = some (.int 0) ∧ ¬ (litC 90) = cs)) ∧ L' = [] ∧ h' = h12) (ws := []) (Wd := 0) (ck := 0) (cn := 0) (StrChars.Road.eqW (W := 0) W15.hZ cx.qw (kI := 4) (cx.w 7 rfl) (cs := (litC 90)) S_q1.1 S_q1.2.2.1 S_q1.2.1 V1_16 (StrChars.Road.codOf rfl fun c hc => (S_q1.ch c hc).2) S_q1.ch.up S_q1.le (ds := cs) S_s.1 S_s.2.2.1 S_s.2.1 V2_16 (StrChars.Road.codOf rfl fun c hc => (S_s.ch c hc).2) S_s.ch.up S_s.le (cx.cmp.ext W15.e0) cx.g1 (by decide) (by decide)) (fun v h' L' q => ⟨by rw [q.2.1]; exact Fr.nil _, by rw [q.2.2]; exact Keep.refl _ _⟩) all0 all0 (k' := 14) (n' := 204) rfl rfl (by decide) (by decide) (by rw [hml]; rfl) (a := q1) (argsL := [(.ref s)]) (rest := []) rfl (lenOf pd8 rfl) rfl (Nat.le_of_eq rfl) (hb hby at_80) ?_
      intro v17 T17 h17 M17 L17 W17 q17
      rcases q17 with ⟨⟨rfl, he⟩ | ⟨rfl, he⟩, -, eh_⟩
      · subst h17
        show Go p_ e_ bl_ _ (T17.setTop (mkF m_ 83 #[.val (.int i0), .val (.int i1), .val (.int i2), .val (.int i3), .val (.int i4), .val (.int i5), .val (.ref s), .val (.ref e1), .val (.ref o)] [(.int (1 : Int32))]))
        refine Go.st (fun _ => XS.ifNo W17.here W17.ex rfl (hb hby at_83) rfl ((if0 _ _).trans (feq ((by decide) : ¬ ((1 : Int32) = (0 : Int32)))).1)) ?_
        show Go p_ e_ bl_ _ (T17.setTop (mkF m_ 86 #[.val (.int i0), .val (.int i1), .val (.int i2), .val (.int i3), .val (.int i4), .val (.int i5), .val (.ref s), .val (.ref e1), .val (.ref o)] []))
        refine Go.st (fun _ => XS.iconst W17.here W17.ex rfl (hb hby at_86)) ?_
        show Go p_ e_ bl_ _ (T17.setTop (mkF m_ 87 #[.val (.int i0), .val (.int i1), .val (.int i2), .val (.int i3), .val (.int i4), .val (.int i5), .val (.ref s), .val (.ref e1), .val (.ref o)] [(.int (1 : Int32))]))
        refine Go.st (fun _ => XS.goto W17.here W17.ex rfl (pc0 := 87) (pc' := 91) rfl (hb hby at_87) (by decide) (by decide)) ?_
        show Go p_ e_ bl_ _ (T17.setTop (mkF m_ 91 #[.val (.int i0), .val (.int i1), .val (.int i2), .val (.int i3), .val (.int i4), .val (.int i5), .val (.ref s), .val (.ref e1), .val (.ref o)] [(.int (1 : Int32))]))
        exact W17.retN hret (by simp) (hb hby at_91) (by decide) (by decide) fun _ _ => rfl
      · subst h17
        show Go p_ e_ bl_ _ (T17.setTop (mkF m_ 83 #[.val (.int i0), .val (.int i1), .val (.int i2), .val (.int i3), .val (.int i4), .val (.int i5), .val (.ref s), .val (.ref e1), .val (.ref o)] [(.int (0 : Int32))]))
        exact absurd hc.symm he
    · rw [hk]
      show Go p_ e_ bl_ _ (T5.setTop (mkF m_ 20 #[.val (.int i0), .val (.int i1), .val (.int i2), .val (.int i3), .val (.int i4), .val (.int i5), .val (.ref s), .unset, .unset] [(.ref e2)]))
      refine Go.st (fun _ => XS.astore W5.here W5.ex rfl (hb hby at_20) rfl rfl (l' := #[.val (.int i0), .val (.int i1), .val (.int i2), .val (.int i3), .val (.int i4), .val (.int i5), .val (.ref s), .val (.ref e2), .unset]) rfl) ?_
      show Go p_ e_ bl_ _ (T5.setTop (mkF m_ 22 #[.val (.int i0), .val (.int i1), .val (.int i2), .val (.int i3), .val (.int i4), .val (.int i5), .val (.ref s), .val (.ref e2), .unset] []))
      refine Go.st (fun _ => XS.aload W5.here W5.ex rfl (hb hby at_22) rfl rfl) ?_
      show Go p_ e_ bl_ _ (T5.setTop (mkF m_ 24 #[.val (.int i0), .val (.int i1), .val (.int i2), .val (.int i3), .val (.int i4), .val (.int i5), .val (.ref s), .val (.ref e2), .unset] [(.ref s)]))
      refine W5.callS (y := (⟨"com/example/loginconv/loginconv/AuthorizableKind", "ofPrimaryType", "(Ljava/lang/String;)Ljava/util/Optional;"⟩ : MethodName)) (cx.w 24 rfl) (cx.w 25 rfl) (cx.w 22 rfl) (cx.w 26 rfl) (by decide) (ct_from cx W5.old s t cs S_s) all0 (by decide) (Wd := 0) (by decide) (k' := 14) (n' := 204) rfl rfl (by decide) (by decide) (by rw [hml]; rfl) (argsL := [(.ref s)]) (rest := []) rfl (lenOf pd14 rfl) rfl (Nat.le_of_eq rfl) (hb hby at_24) ?_
      intro v18 vm18 T18 h18 L18 W18 q18
      obtain ⟨o, rfl, K4, E_o, F_o⟩ := q18
      replace S_s := S_s.keep K4 nin0 nin0
      replace F_e0 := F_e0.keep K4 nin0
      replace S_q0 := S_q0.keep K4 nin0 nin0
      replace X_e0 := X_e0.keep K4
      replace F_e1 := F_e1.keep K4 nin0
      replace S_q1 := S_q1.keep K4 nin0 nin0
      replace X_e1 := X_e1.keep K4
      replace F_e2 := F_e2.keep K4 nin0
      replace S_q2 := S_q2.keep K4 nin0 nin0
      replace X_e2 := X_e2.keep K4
      show Go p_ e_ bl_ _ (T18.setTop (mkF m_ 27 #[.val (.int i0), .val (.int i1), .val (.int i2), .val (.int i3), .val (.int i4), .val (.int i5), .val (.ref s), .val (.ref e2), .unset] [(.ref o)]))
      rw [hk] at F_o
      refine Go.st (fun _ => XS.astore W18.here W18.ex rfl (hb hby at_27) rfl rfl (l' := #[.val (.int i0), .val (.int i1), .val (.int i2), .val (.int i3), .val (.int i4), .val (.int i5), .val (.ref s), .val (.ref e2), .val (.ref o)]) rfl) ?_
      show Go p_ e_ bl_ _ (T18.setTop (mkF m_ 29 #[.val (.int i0), .val (.int i1), .val (.int i2), .val (.int i3), .val (.int i4), .val (.int i5), .val (.ref s), .val (.ref e2), .val (.ref o)] []))
      refine Go.st (fun _ => XS.aload W18.here W18.ex rfl (hb hby at_29) rfl rfl) ?_
      show Go p_ e_ bl_ _ (T18.setTop (mkF m_ 31 #[.val (.int i0), .val (.int i1), .val (.int i2), .val (.int i3), .val (.int i4), .val (.int i5), .val (.ref s), .val (.ref e2), .val (.ref o)] [(.ref o)]))
      refine Go.st (fun _ => XS.ifnonnullYes W18.here W18.ex rfl (pc0 := 31) (pc' := 36) rfl (hb hby at_31) rfl (by decide) (by decide)) ?_
      show Go p_ e_ bl_ _ (T18.setTop (mkF m_ 36 #[.val (.int i0), .val (.int i1), .val (.int i2), .val (.int i3), .val (.int i4), .val (.int i5), .val (.ref s), .val (.ref e2), .val (.ref o)] []))
      refine Go.st (fun _ => XS.aload W18.here W18.ex rfl (hb hby at_36) rfl rfl) ?_
      show Go p_ e_ bl_ _ (T18.setTop (mkF m_ 38 #[.val (.int i0), .val (.int i1), .val (.int i2), .val (.int i3), .val (.int i4), .val (.int i5), .val (.ref s), .val (.ref e2), .val (.ref o)] [(.ref e2)]))
      refine Go.st (fun _ => XS.ifnonnullYes W18.here W18.ex rfl (pc0 := 38) (pc' := 55) rfl (hb hby at_38) rfl (by decide) (by decide)) ?_
      show Go p_ e_ bl_ _ (T18.setTop (mkF m_ 55 #[.val (.int i0), .val (.int i1), .val (.int i2), .val (.int i3), .val (.int i4), .val (.int i5), .val (.ref s), .val (.ref e2), .val (.ref o)] []))
      refine Go.st (fun _ => XS.aload W18.here W18.ex rfl (hb hby at_55) rfl rfl) ?_
      show Go p_ e_ bl_ _ (T18.setTop (mkF m_ 57 #[.val (.int i0), .val (.int i1), .val (.int i2), .val (.int i3), .val (.int i4), .val (.int i5), .val (.ref s), .val (.ref e2), .val (.ref o)] [(.ref o)]))
      refine W18.callV (y := (⟨"java/util/Optional", "isPresent", "()Z"⟩ : MethodName)) (z := (⟨"java/util/Optional", "isPresent", "()Z"⟩ : MethodName)) (cx.w 75 rfl) (cx.w 76 rfl) (cx.w 78 rfl) (cx.w 77 rfl) (cx.w 58 rfl) (cx.w 79 rfl) (W18.nf (cx.w 78 rfl)) (by decide) E_o (ct_presY cx W18.old o e2 F_o) all0 (by decide) (Wd := 0) (by decide) (k' := 14) (n' := 204) rfl rfl (by decide) (by decide) (by rw [hml]; rfl) (a := o) (argsL := []) (rest := []) rfl (lenOf pd15 rfl) rfl (Nat.le_of_eq rfl) (hb hby at_57) ?_
      intro v19 vm19 T19 h19 L19 W19 q19
      obtain ⟨rfl, eh_⟩ := q19
      subst h19
      show Go p_ e_ bl_ _ (T19.setTop (mkF m_ 60 #[.val (.int i0), .val (.int i1), .val (.int i2), .val (.int i3), .val (.int i4), .val (.int i5), .val (.ref s), .val (.ref e2), .val (.ref o)] [(.int (1 : Int32))]))
      refine Go.st (fun _ => XS.ifNo W19.here W19.ex rfl (hb hby at_60) rfl ((if0 _ _).trans (feq ((by decide) : ¬ ((1 : Int32) = (0 : Int32)))).1)) ?_
      show Go p_ e_ bl_ _ (T19.setTop (mkF m_ 63 #[.val (.int i0), .val (.int i1), .val (.int i2), .val (.int i3), .val (.int i4), .val (.int i5), .val (.ref s), .val (.ref e2), .val (.ref o)] []))
      refine Go.st (fun _ => XS.aload W19.here W19.ex rfl (hb hby at_63) rfl rfl) ?_
      show Go p_ e_ bl_ _ (T19.setTop (mkF m_ 65 #[.val (.int i0), .val (.int i1), .val (.int i2), .val (.int i3), .val (.int i4), .val (.int i5), .val (.ref s), .val (.ref e2), .val (.ref o)] [(.ref o)]))
      refine W19.callV (y := (⟨"java/util/Optional", "get", "()Ljava/lang/Object;"⟩ : MethodName)) (z := (⟨"java/util/Optional", "get", "()Ljava/lang/Object;"⟩ : MethodName)) (cx.w 80 rfl) (cx.w 81 rfl) (cx.w 83 rfl) (cx.w 82 rfl) (cx.w 58 rfl) (cx.w 84 rfl) (W19.nf (cx.w 83 rfl)) (by decide) E_o (ct_get cx W19.old o e2 F_o) all0 (by decide) (Wd := 0) (by decide) (k' := 14) (n' := 204) rfl rfl (by decide) (by decide) (by rw [hml]; rfl) (a := o) (argsL := []) (rest := []) rfl (lenOf pd16 rfl) rfl (Nat.le_of_eq rfl) (hb hby at_65) ?_
      intro v20 vm20 T20 h20 L20 W20 q20
      obtain ⟨rfl, eh_⟩ := q20
      subst h20
      show Go p_ e_ bl_ _ (T20.setTop (mkF m_ 68 #[.val (.int i0), .val (.int i1), .val (.int i2), .val (.int i3), .val (.int i4), .val (.int i5), .val (.ref s), .val (.ref e2), .val (.ref o)] [(.ref e2)]))
      refine Go.st (fun _ => XS.aload W20.here W20.ex rfl (hb hby at_68) rfl rfl) ?_
      show Go p_ e_ bl_ _ (T20.setTop (mkF m_ 70 #[.val (.int i0), .val (.int i1), .val (.int i2), .val (.int i3), .val (.int i4), .val (.int i5), .val (.ref s), .val (.ref e2), .val (.ref o)] [(.ref e2), (.ref e2)]))
      refine Go.st (fun _ => Jvm.RoadKit.acmp (g := (mkF m_ 70 #[.val (.int i0), .val (.int i1), .val (.int i2), .val (.int i3), .val (.int i4), .val (.int i5), .val (.ref s), .val (.ref e2), .val (.ref o)] [(.ref e2), (.ref e2)])) W20.X W20.ex rfl rfl rfl (pc0 := 70) (pc' := 73) (same := true) rfl (hb hby at_70) rfl (decide_eq_true rfl) (by decide) (by decide)) ?_
      show Go p_ e_ bl_ _ (T20.setTop (mkF m_ 73 #[.val (.int i0), .val (.int i1), .val (.int i2), .val (.int i3), .val (.int i4), .val (.int i5), .val (.ref s), .val (.ref e2), .val (.ref o)] []))
      refine Go.st (fun _ => XS.aload W20.here W20.ex rfl (hb hby at_73) rfl rfl) ?_
      show Go p_ e_ bl_ _ (T20.setTop (mkF m_ 75 #[.val (.int i0), .val (.int i1), .val (.int i2), .val (.int i3), .val (.int i4), .val (.int i5), .val (.ref s), .val (.ref e2), .val (.ref o)] [(.ref e2)]))
      refine W20.callV (y := (⟨"com/example/loginconv/loginconv/AuthorizableKind", "primaryType", "()Ljava/lang/String;"⟩ : MethodName)) (z := (⟨"com/example/loginconv/loginconv/AuthorizableKind", "primaryType", "()Ljava/lang/String;"⟩ : MethodName)) (cx.w 85 rfl) (cx.w 86 rfl) (cx.w 88 rfl) (cx.w 87 rfl) (cx.w 22 rfl) (cx.w 89 rfl) (W20.nf (cx.w 88 rfl)) (by decide) X_e2 (ct_name cx W20.old e2 q2 F_e2) all0 (by decide) (Wd := 0) (by decide) (k' := 14) (n' := 204) rfl rfl (by decide) (by decide) (by rw [hml]; rfl) (a := e2) (argsL := []) (rest := []) rfl (lenOf pd17 rfl) rfl (Nat.le_of_eq rfl) (hb hby at_75) ?_
      intro v21 vm21 T21 h21 L21 W21 q21
      obtain ⟨rfl, eh_⟩ := q21
      subst h21
      show Go p_ e_ bl_ _ (T21.setTop (mkF m_ 78 #[.val (.int i0), .val (.int i1), .val (.int i2), .val (.int i3), .val (.int i4), .val (.int i5), .val (.ref s), .val (.ref e2), .val (.ref o)] [(.ref q2)]))
      refine Go.st (fun _ => XS.aload W21.here W21.ex rfl (hb hby at_78) rfl rfl) ?_
      show Go p_ e_ bl_ _ (T21.setTop (mkF m_ 80 #[.val (.int i0), .val (.int i1), .val (.int i2), .val (.int i3), .val (.int i4), .val (.int i5), .val (.ref s), .val (.ref e2), .val (.ref o)] [(.ref s), (.ref q2)]))
      obtain ⟨k1_22, V1_22⟩ := S_q2.kb
      obtain ⟨k2_22, V2_22⟩ := S_s.kb
      have E1_22 := S_q2.E
      refine W21.libV (y := (⟨"java/lang/String", "equals", "(Ljava/lang/Object;)Z"⟩ : MethodName)) (z := (⟨"java/lang/String", "equals", "(Ljava/lang/Object;)Z"⟩ : MethodName)) (cx.w 16 rfl) (cx.w 17 rfl) (cx.w 19 rfl) (cx.w 18 rfl) (W21.nf (cx.w 19 rfl)) (by decide) E1_22 (Q := fun v h' L' => ((v = some (.int 1) ∧ (litC 111) = cs) ∨ (v = some (.int 0) ∧ ¬ (litC 111) = cs)) ∧ L' = [] ∧ h' = h18) (ws := []) (Wd := 0) (ck := 0) (cn := 0) (StrChars.Road.eqW (W := 0) W21.hZ cx.qw (kI := 4) (cx.w 7 rfl) (cs := (litC 111)) S_q2.1 S_q2.2.2.1 S_q2.2.1 V1_22 (StrChars.Road.codOf rfl fun c hc => (S_q2.ch c hc).2) S_q2.ch.up S_q2.le (ds := cs) S_s.1 S_s.2.2.1 S_s.2.1 V2_22 (StrChars.Road.codOf rfl fun c hc => (S_s.ch c hc).2) S_s.ch.up S_s.le (cx.cmp.ext W21.e0) cx.g1 (by decide) (by decide)) (fun v h' L' q => ⟨by rw [q.2.1]; exact Fr.nil _, by rw [q.2.2]; exact Keep.refl _ _⟩) all0 all0 (k' := 14) (n' := 204) rfl rfl (by decide) (by decide) (by rw [hml]; rfl) (a := q2) (argsL := [(.ref s)]) (rest := []) rfl (lenOf pd8 rfl) rfl (Nat.le_of_eq rfl) (hb hby at_80) ?_
      intro v23 T23 h23 M23 L23 W23 q23
      rcases q23 with ⟨⟨rfl, he⟩ | ⟨rfl, he⟩, -, eh_⟩
      · subst h23
        show Go p_ e_ bl_ _ (T23.setTop (mkF m_ 83 #[.val (.int i0), .val (.int i1), .val (.int i2), .val (.int i3), .val (.int i4), .val (.int i5), .val (.ref s), .val (.ref e2), .val (.ref o)] [(.int (1 : Int32))]))
        refine Go.st (fun _ => XS.ifNo W23.here W23.ex rfl (hb hby at_83) rfl ((if0 _ _).trans (feq ((by decide) : ¬ ((1 : Int32) = (0 : Int32)))).1)) ?_
        show Go p_ e_ bl_ _ (T23.setTop (mkF m_ 86 #[.val (.int i0), .val (.int i1), .val (.int i2), .val (.int i3), .val (.int i4), .val (.int i5), .val (.ref s), .val (.ref e2), .val (.ref o)] []))
        refine Go.st (fun _ => XS.iconst W23.here W23.ex rfl (hb hby at_86)) ?_
        show Go p_ e_ bl_ _ (T23.setTop (mkF m_ 87 #[.val (.int i0), .val (.int i1), .val (.int i2), .val (.int i3), .val (.int i4), .val (.int i5), .val (.ref s), .val (.ref e2), .val (.ref o)] [(.int (1 : Int32))]))
        refine Go.st (fun _ => XS.goto W23.here W23.ex rfl (pc0 := 87) (pc' := 91) rfl (hb hby at_87) (by decide) (by decide)) ?_
        show Go p_ e_ bl_ _ (T23.setTop (mkF m_ 91 #[.val (.int i0), .val (.int i1), .val (.int i2), .val (.int i3), .val (.int i4), .val (.int i5), .val (.ref s), .val (.ref e2), .val (.ref o)] [(.int (1 : Int32))]))
        exact W23.retN hret (by simp) (hb hby at_91) (by decide) (by decide) fun _ _ => rfl
      · subst h23
        show Go p_ e_ bl_ _ (T23.setTop (mkF m_ 83 #[.val (.int i0), .val (.int i1), .val (.int i2), .val (.int i3), .val (.int i4), .val (.int i5), .val (.ref s), .val (.ref e2), .val (.ref o)] [(.int (0 : Int32))]))
        exact absurd hc.symm he
    · rw [hk]
      show Go p_ e_ bl_ _ (T5.setTop (mkF m_ 20 #[.val (.int i0), .val (.int i1), .val (.int i2), .val (.int i3), .val (.int i4), .val (.int i5), .val (.ref s), .unset, .unset] [.null]))
      refine Go.st (fun _ => XS.astore W5.here W5.ex rfl (hb hby at_20) rfl rfl (l' := #[.val (.int i0), .val (.int i1), .val (.int i2), .val (.int i3), .val (.int i4), .val (.int i5), .val (.ref s), .val .null, .unset]) rfl) ?_
      show Go p_ e_ bl_ _ (T5.setTop (mkF m_ 22 #[.val (.int i0), .val (.int i1), .val (.int i2), .val (.int i3), .val (.int i4), .val (.int i5), .val (.ref s), .val .null, .unset] []))
      refine Go.st (fun _ => XS.aload W5.here W5.ex rfl (hb hby at_22) rfl rfl) ?_
      show Go p_ e_ bl_ _ (T5.setTop (mkF m_ 24 #[.val (.int i0), .val (.int i1), .val (.int i2), .val (.int i3), .val (.int i4), .val (.int i5), .val (.ref s), .val .null, .unset] [(.ref s)]))
      refine W5.callS (y := (⟨"com/example/loginconv/loginconv/AuthorizableKind", "ofPrimaryType", "(Ljava/lang/String;)Ljava/util/Optional;"⟩ : MethodName)) (cx.w 24 rfl) (cx.w 25 rfl) (cx.w 22 rfl) (cx.w 26 rfl) (by decide) (ct_from cx W5.old s t cs S_s) all0 (by decide) (Wd := 0) (by decide) (k' := 14) (n' := 204) rfl rfl (by decide) (by decide) (by rw [hml]; rfl) (argsL := [(.ref s)]) (rest := []) rfl (lenOf pd14 rfl) rfl (Nat.le_of_eq rfl) (hb hby at_24) ?_
      intro v24 vm24 T24 h24 L24 W24 q24
      obtain ⟨o, rfl, K4, E_o, F_o⟩ := q24
      replace S_s := S_s.keep K4 nin0 nin0
      replace F_e0 := F_e0.keep K4 nin0
      replace S_q0 := S_q0.keep K4 nin0 nin0
      replace X_e0 := X_e0.keep K4
      replace F_e1 := F_e1.keep K4 nin0
      replace S_q1 := S_q1.keep K4 nin0 nin0
      replace X_e1 := X_e1.keep K4
      replace F_e2 := F_e2.keep K4 nin0
      replace S_q2 := S_q2.keep K4 nin0 nin0
      replace X_e2 := X_e2.keep K4
      show Go p_ e_ bl_ _ (T24.setTop (mkF m_ 27 #[.val (.int i0), .val (.int i1), .val (.int i2), .val (.int i3), .val (.int i4), .val (.int i5), .val (.ref s), .val .null, .unset] [(.ref o)]))
      rw [hk] at F_o
      refine Go.st (fun _ => XS.astore W24.here W24.ex rfl (hb hby at_27) rfl rfl (l' := #[.val (.int i0), .val (.int i1), .val (.int i2), .val (.int i3), .val (.int i4), .val (.int i5), .val (.ref s), .val .null, .val (.ref o)]) rfl) ?_
      show Go p_ e_ bl_ _ (T24.setTop (mkF m_ 29 #[.val (.int i0), .val (.int i1), .val (.int i2), .val (.int i3), .val (.int i4), .val (.int i5), .val (.ref s), .val .null, .val (.ref o)] []))
      refine Go.st (fun _ => XS.aload W24.here W24.ex rfl (hb hby at_29) rfl rfl) ?_
      show Go p_ e_ bl_ _ (T24.setTop (mkF m_ 31 #[.val (.int i0), .val (.int i1), .val (.int i2), .val (.int i3), .val (.int i4), .val (.int i5), .val (.ref s), .val .null, .val (.ref o)] [(.ref o)]))
      refine Go.st (fun _ => XS.ifnonnullYes W24.here W24.ex rfl (pc0 := 31) (pc' := 36) rfl (hb hby at_31) rfl (by decide) (by decide)) ?_
      show Go p_ e_ bl_ _ (T24.setTop (mkF m_ 36 #[.val (.int i0), .val (.int i1), .val (.int i2), .val (.int i3), .val (.int i4), .val (.int i5), .val (.ref s), .val .null, .val (.ref o)] []))
      refine Go.st (fun _ => XS.aload W24.here W24.ex rfl (hb hby at_36) rfl rfl) ?_
      show Go p_ e_ bl_ _ (T24.setTop (mkF m_ 38 #[.val (.int i0), .val (.int i1), .val (.int i2), .val (.int i3), .val (.int i4), .val (.int i5), .val (.ref s), .val .null, .val (.ref o)] [.null]))
      refine Go.st (fun _ => XS.ifnonnullNo W24.here W24.ex rfl (hb hby at_38) rfl) ?_
      show Go p_ e_ bl_ _ (T24.setTop (mkF m_ 41 #[.val (.int i0), .val (.int i1), .val (.int i2), .val (.int i3), .val (.int i4), .val (.int i5), .val (.ref s), .val .null, .val (.ref o)] []))
      refine Go.st (fun _ => XS.aload W24.here W24.ex rfl (hb hby at_41) rfl rfl) ?_
      show Go p_ e_ bl_ _ (T24.setTop (mkF m_ 43 #[.val (.int i0), .val (.int i1), .val (.int i2), .val (.int i3), .val (.int i4), .val (.int i5), .val (.ref s), .val .null, .val (.ref o)] [(.ref o)]))
      refine W24.callV (y := (⟨"java/util/Optional", "isPresent", "()Z"⟩ : MethodName)) (z := (⟨"java/util/Optional", "isPresent", "()Z"⟩ : MethodName)) (cx.w 75 rfl) (cx.w 76 rfl) (cx.w 78 rfl) (cx.w 77 rfl) (cx.w 58 rfl) (cx.w 79 rfl) (W24.nf (cx.w 78 rfl)) (by decide) E_o (ct_presN cx W24.old o o F_o) all0 (by decide) (Wd := 0) (by decide) (k' := 14) (n' := 204) rfl rfl (by decide) (by decide) (by rw [hml]; rfl) (a := o) (argsL := []) (rest := []) rfl (lenOf pd15 rfl) rfl (Nat.le_of_eq rfl) (hb hby at_43) ?_
      intro v25 vm25 T25 h25 L25 W25 q25
      obtain ⟨rfl, eh_⟩ := q25
      subst h25
      show Go p_ e_ bl_ _ (T25.setTop (mkF m_ 46 #[.val (.int i0), .val (.int i1), .val (.int i2), .val (.int i3), .val (.int i4), .val (.int i5), .val (.ref s), .val .null, .val (.ref o)] [(.int (0 : Int32))]))
      refine Go.st (fun _ => XS.ifNo W25.here W25.ex rfl (hb hby at_46) rfl ((if0 _ _).trans (teq (rfl : (0 : Int32) = (0 : Int32))).2)) ?_
      show Go p_ e_ bl_ _ (T25.setTop (mkF m_ 49 #[.val (.int i0), .val (.int i1), .val (.int i2), .val (.int i3), .val (.int i4), .val (.int i5), .val (.ref s), .val .null, .val (.ref o)] []))
      refine Go.st (fun _ => XS.iconst W25.here W25.ex rfl (hb hby at_49)) ?_
      show Go p_ e_ bl_ _ (T25.setTop (mkF m_ 50 #[.val (.int i0), .val (.int i1), .val (.int i2), .val (.int i3), .val (.int i4), .val (.int i5), .val (.ref s), .val .null, .val (.ref o)] [(.int (1 : Int32))]))
      refine Go.st (fun _ => XS.goto W25.here W25.ex rfl (pc0 := 50) (pc' := 54) rfl (hb hby at_50) (by decide) (by decide)) ?_
      show Go p_ e_ bl_ _ (T25.setTop (mkF m_ 54 #[.val (.int i0), .val (.int i1), .val (.int i2), .val (.int i3), .val (.int i4), .val (.int i5), .val (.ref s), .val .null, .val (.ref o)] [(.int (1 : Int32))]))
      exact W25.retN hret (by simp) (hb hby at_54) (by decide) (by decide) fun _ _ => rfl
set_option maxRecDepth 65536 in
set_option maxHeartbeats 40000000 in
theorem comes_1 {Post : Tables → Env → Array Value → State → Outcome → State → Prop} (hpost : ∀ tb e args s v u, (limb_1_1.after args s (.returned v) u = true ∧ limb_1_2.after args s (.returned v) u = true ∧ True) → FramedW s (.returned v) u (Jvm.fieldLocs frame_1_writes args s ++ Jvm.arrayLocs frame_1_arrays args s ++ Jvm.staticLocs frame_1_statics s) 48 15616 → Post tb e args s (.returned v) u) :
    ArmFor flags0 classFile x code maxLocals ret World_1 tables_1 room_1 Calls_1 rest_1 Pre_1 Post := by
  intro l hfl _ _ p e ha hc hk s m args below hf hA hF happ hP
  obtain ⟨hcalls, hrest, hpre⟩ := hP
  obtain ⟨-, -, -, hnamed, -, -, -, hat⟩ := (Spec.applies_iff hf).mp happ
  obtain ⟨hg, hn⟩ := and_e (Cond.before_iff.mp (show (Jvm.Cond.and given_1 narrow_1).before args s = true from hpre))
  obtain ⟨c0, r0⟩ := and_e hg
  obtain ⟨c1, r1⟩ := and_e r0
  obtain ⟨c2, r2⟩ := and_e r1
  obtain ⟨c3, r3⟩ := and_e r2
  obtain ⟨c4, r4⟩ := and_e r3
  obtain ⟨c5, r5⟩ := and_e r4
  obtain ⟨w0, w1, w2, w3, w4, w5, rfl⟩ : ∃ w0 w1 w2 w3 w4 w5 : Value, args = #[w0, w1, w2, w3, w4, w5] := by
    have hs : args.size = 6 := by simpa [Cond.value, given_1] using c0
    obtain ⟨L⟩ := args
    match L, hs with
    | [w0, w1, w2, w3, w4, w5], _ => exact ⟨w0, w1, w2, w3, w4, w5, rfl⟩
  have hw := fun d (hd : d ∈ tables_1) => atoms_spec (ws := Jvm.Cond.code x code maxLocals ret :: tables_1) hat d (List.mem_cons_of_mem _ hd)
  obtain ⟨hsets, hown0⟩ := atoms_of _ (rest_1_c_eq ▸ (show rest_1_c.before _ s = true from hrest))
  have hr0 := Cond.before_iff.mp hown0
  have hfit : Fit s := fun {y c} hc i hi => by
    obtain ⟨ha, rfl⟩ := Array.getElem?_eq_some_iff.mp hc
    have q := List.all_eq_true.mp ((Array.all_eq_true_iff_forall_mem.mp hF) _ (Array.getElem_mem ha)) i (List.mem_range.mpr hi)
    simpa [Array.getElem?_eq_getElem hi] using q
  obtain ⟨i0, ei0⟩ := is_v c1
  obtain rfl : w0 = (.int i0) := Option.some.inj ei0
  obtain ⟨i1, ei1⟩ := is_v c2
  obtain rfl : w1 = (.int i1) := Option.some.inj ei1
  obtain ⟨i2, ei2⟩ := is_v c3
  obtain rfl : w2 = (.int i2) := Option.some.inj ei2
  obtain ⟨i3, ei3⟩ := is_v c4
  obtain rfl : w3 = (.int i3) := Option.some.inj ei3
  obtain ⟨i4, ei4⟩ := is_v c5
  obtain rfl : w4 = (.int i4) := Option.some.inj ei4
  obtain ⟨i5, ei5⟩ := is_v r5
  obtain rfl : w5 = (.int i5) := Option.some.inj ei5
  have nz := not_v (Cond.before_iff.mp (hsets _ (List.mem_of_getElem? (i := 2) rfl)))
  obtain ⟨g1, eg1⟩ := is_v (Cond.before_iff.mp (hsets _ (List.mem_of_getElem? (i := 1) rfl)))
  have S1 : Sta s s.heap "java/lang/String" "COMPACT_STRINGS" "Z" (.int g1) := Sta.start eg1 (Or.inl (hsets _ (List.mem_of_getElem? (i := 0) rfl)))
  have hg1 : ¬ (g1 = (0 : Int32)) := gotF (Cond.eq_ints eg1 (Term.int_eval (0))) nz
  have hew : EW s #[Value.int i0, Value.int i1, Value.int i2, Value.int i3, Value.int i4, Value.int i5] consts_1 := (EW.cons (hw _ (List.mem_of_getElem? (i := 5) rfl)) (by decide) (EW.cons (hw _ (List.mem_of_getElem? (i := 90) rfl)) (by decide) (EW.cons (hw _ (List.mem_of_getElem? (i := 111) rfl)) (by decide) (EW.cons (hw _ (List.mem_of_getElem? (i := 116) rfl)) (by decide) (EW.cons (hw _ (List.mem_of_getElem? (i := 136) rfl)) (by decide) (EW.cons (hw _ (List.mem_of_getElem? (i := 119) rfl)) (by decide) (EW.cons (hw _ (List.mem_of_getElem? (i := 138) rfl)) (by decide) (EW.cons (hw _ (List.mem_of_getElem? (i := 140) rfl)) (by decide) (EW.cons (hw _ (List.mem_of_getElem? (i := 117) rfl)) (by decide) (EW.cons (hw _ (List.mem_of_getElem? (i := 137) rfl)) (by decide) (EW.cons (hw _ (List.mem_of_getElem? (i := 121) rfl)) (by decide) (EW.cons (hw _ (List.mem_of_getElem? (i := 139) rfl)) (by decide) (EW.cons (hw _ (List.mem_of_getElem? (i := 122) rfl)) (by decide) (EW.cons (hw _ (List.mem_of_getElem? (i := 123) rfl)) (by decide) (EW.cons (hw _ (List.mem_of_getElem? (i := 120) rfl)) (by decide) EW.nil)))))))))))))))
  have hcw : Jvm.Lit.compactW.before #[Value.int i0, Value.int i1, Value.int i2, Value.int i3, Value.int i4, Value.int i5] s = true := (hsets _ (List.mem_of_getElem? (i := 2) rfl))
  have hcv : CHv s consts_1 s.vm s.heap := CHv.start hew (fun p hp => hcalls.1 p hp) hcw (hw _ (List.mem_of_getElem? (i := 8) rfl)) (hw _ (List.mem_of_getElem? (i := 7) rfl))
  obtain ⟨u0, t0⟩ := and_e hn
  obtain ⟨u1, t1⟩ := and_e t0
  obtain ⟨u2, t2⟩ := and_e t1
  obtain ⟨u3, t3⟩ := and_e t2
  obtain ⟨u4, t4⟩ := and_e t3
  obtain ⟨u5, t5⟩ := and_e t4
  obtain ⟨u6, t6⟩ := and_e t5
  obtain ⟨u7, t7⟩ := and_e t6
  obtain ⟨u8, t8⟩ := and_e t7
  obtain ⟨u9, t9⟩ := and_e t8
  obtain ⟨u10, t10⟩ := and_e t9
  obtain ⟨u11, t11⟩ := and_e t10
  obtain ⟨u12, t12⟩ := and_e t11
  obtain ⟨u13, t13⟩ := and_e t12
  obtain ⟨u14, t14⟩ := and_e t13
  obtain ⟨u15, t15⟩ := and_e t14
  obtain ⟨u16, t16⟩ := and_e t15
  obtain ⟨u17, t17⟩ := and_e t16
  obtain ⟨u18, t18⟩ := and_e t17
  obtain ⟨u19, t19⟩ := and_e t18
  obtain ⟨u20, t20⟩ := and_e t19
  obtain ⟨u21, t21⟩ := and_e t20
  obtain ⟨u22, t22⟩ := and_e t21
  obtain ⟨u23, t23⟩ := and_e t22
  obtain ⟨u24, t24⟩ := and_e t23
  obtain ⟨u25, t25⟩ := and_e t24
  obtain ⟨u26, t26⟩ := and_e t25
  obtain ⟨u27, t27⟩ := and_e t26
  obtain ⟨u28, t28⟩ := and_e t27
  obtain ⟨u29, t29⟩ := and_e t28
  obtain ⟨u30, t30⟩ := and_e t29
  obtain ⟨u31, t31⟩ := and_e t30
  obtain ⟨u32, t32⟩ := and_e t31
  obtain ⟨u33, t33⟩ := and_e t32
  obtain ⟨u34, t34⟩ := and_e t33
  obtain ⟨u35, t35⟩ := and_e t34
  obtain ⟨u36, t36⟩ := and_e t35
  obtain ⟨u37, t37⟩ := and_e t36
  obtain ⟨u38, t38⟩ := and_e t37
  obtain ⟨u39, t39⟩ := and_e t38
  obtain ⟨u40, t40⟩ := and_e t39
  obtain ⟨u41, t41⟩ := and_e t40
  obtain ⟨u42, t42⟩ := and_e t41
  obtain ⟨u43, t43⟩ := and_e t42
  obtain ⟨u44, t44⟩ := and_e t43
  obtain ⟨u45, t45⟩ := and_e t44
  obtain ⟨u46, t46⟩ := and_e t45
  obtain ⟨u47, t47⟩ := and_e t46
  obtain ⟨u48, t48⟩ := and_e t47
  obtain ⟨u49, t49⟩ := and_e t48
  obtain ⟨u50, t50⟩ := and_e t49
  have u51 := t50
  obtain ⟨e0, ee0⟩ := exa_v u0
  have X0 := Exa.start ee0 u0
  have S_e0 : Sta s s.heap "com/example/loginconv/loginconv/AuthorizableKind" "USER" "Lcom/example/loginconv/loginconv/AuthorizableKind;" (.ref e0) := Sta.start ee0 (Or.inr ⟨(hw _ (List.mem_of_getElem? (i := 22) rfl)), (hw _ (List.mem_of_getElem? (i := 23) rfl))⟩)
  obtain ⟨q0, r0, eq0, SQ0⟩ := str_start hfit (cs := (litC 5)) u9 u10 u11 u12 rfl (by decide +kernel) ⟨u21, u22, u23, u24, u25, u26, u27, u28, trivial⟩ (by decide +kernel : ∀ c ∈ (litC 5), ¬ c < 0 ∧ ¬ (255 : Int32) < c)
  have FE0 := fld_start ee0 eq0
  obtain ⟨e1, ee1⟩ := exa_v u5
  have X1 := Exa.start ee1 u5
  have S_e1 : Sta s s.heap "com/example/loginconv/loginconv/AuthorizableKind" "SYSTEM_USER" "Lcom/example/loginconv/loginconv/AuthorizableKind;" (.ref e1) := Sta.start ee1 (Or.inr ⟨(hw _ (List.mem_of_getElem? (i := 22) rfl)), (hw _ (List.mem_of_getElem? (i := 39) rfl))⟩)
  obtain ⟨q1, r1, eq1, SQ1⟩ := str_start hfit (cs := (litC 90)) u13 u14 u15 u16 rfl (by decide +kernel) ⟨u29, u30, u31, u32, u33, u34, u35, u36, u37, u38, u39, u40, u41, u42, trivial⟩ (by decide +kernel : ∀ c ∈ (litC 90), ¬ c < 0 ∧ ¬ (255 : Int32) < c)
  have FE1 := fld_start ee1 eq1
  obtain ⟨e2, ee2⟩ := exa_v u7
  have X2 := Exa.start ee2 u7
  have S_e2 : Sta s s.heap "com/example/loginconv/loginconv/AuthorizableKind" "GROUP" "Lcom/example/loginconv/loginconv/AuthorizableKind;" (.ref e2) := Sta.start ee2 (Or.inr ⟨(hw _ (List.mem_of_getElem? (i := 22) rfl)), (hw _ (List.mem_of_getElem? (i := 40) rfl))⟩)
  obtain ⟨q2, r2, eq2, SQ2⟩ := str_start hfit (cs := (litC 111)) u17 u18 u19 u20 rfl (by decide +kernel) ⟨u43, u44, u45, u46, u47, u48, u49, u50, u51, trivial⟩ (by decide +kernel : ∀ c ∈ (litC 111), ¬ c < 0 ∧ ¬ (255 : Int32) < c)
  have FE2 := fld_start ee2 eq2
  obtain ⟨va, kva, ev, EV, VV⟩ := arr_start hfit (bs := [(_, e0), (_, e1), (_, e2)]) u2 u1 u3 rfl (Nat.le_of_ble_eq_true rfl) ⟨⟨u4, ee0⟩, ⟨u6, ee1⟩, ⟨u8, ee2⟩, trivial⟩
  have SV : Sta s s.heap "com/example/loginconv/loginconv/AuthorizableKind" "$VALUES" "[Lcom/example/loginconv/loginconv/AuthorizableKind;" (.ref va) := Sta.start ev (Or.inl (hw _ (List.mem_of_getElem? (i := 41) rfl)))
  obtain ⟨em, eem⟩ := exa_v (Cond.before_iff.mp (hsets _ (List.mem_of_getElem? (i := 11) rfl)))
  have XEM := Exa.start eem (Cond.before_iff.mp (hsets _ (List.mem_of_getElem? (i := 11) rfl)))
  have SEM : Sta s s.heap "java/util/Optional" "EMPTY" "Ljava/util/Optional;" (.ref em) := Sta.start eem (Or.inl (hsets _ (List.mem_of_getElem? (i := 10) rfl)))
  have FEM := fld_start eem (null_v (Cond.before_iff.mp (hsets _ (List.mem_of_getElem? (i := 12) rfl))))
  have cx : Ctx s _ s.heap.size g1 e0 e1 e2 va q0 q1 q2 r0 r1 r2 kva em := ⟨hw, hew, S1, hg1, S_e0, S_e1, S_e2, X0, FE0, SQ0, X1, FE1, SQ1, X2, FE2, SQ2, SV, EV, VV, SEM, XEM, FEM, trivial⟩
  obtain ⟨n, o, h1, h2, h3, _, L, rfl, ⟨rfl, N, -⟩, -, hq⟩ := ct_law (l := l) cx (Old.start s) i0 i1 i2 i3 i4 i5 p e ha hc hk s m _ below hf ((Spec.applies_iff_loose hf).mp happ).1 ⟨rfl, State.Warmed39.refl s, rfl, hcv, all0⟩ trivial
  refine ⟨n, _, h1, h2, h3, hpost _ _ _ _ _ _ ⟨Cond.after_iff.mpr rfl, Cond.after_iff.mpr (eq_i res_at (Term.int_eval (1)) rfl), trivial⟩ ⟨hq.1, hq.2.1, hq.2.2.1, (hq.2.2.2.sift fun y hy => Or.inr (N y hy)).mono (by decide) (by decide)⟩⟩
theorem main_1_1 : Claimed_1_1 := comes_1 fun _ _ _ _ _ _ h hF => ⟨h.1, hF⟩
theorem main_1_2 : Claimed_1_2 := comes_1 fun _ _ _ _ _ _ h hF => ⟨h.2.1, hF⟩
end Jvm.Pilot.@@N@@
namespace Jvm.Pilot.@@N@@
open Jvm Jvm.ClassFile Sem Op Lib Jvm.Free Jvm.Stand Jvm.Pilot.@@N@@.Jvm.D
/-! MADE BY PROGRAM (witnessworld.py) out of the Statement's table words and the real class files: 24 classes; the members and pool entries that the words name. The judged class is class 1, her method 1. -/
namespace start1
open Jvm.ClassFile
def u (s : String) : CpInfo := .utf8 (stringToUtf16 s)
/-- a pool by its gaps: so many unusable entries, then the entry; so many at the end -/
def gap : Nat → List CpInfo → List CpInfo
  | 0, r => r
  | n + 1, r => .unusable :: gap n r
def poolList (es : List (Nat × CpInfo)) (last : Nat) : List CpInfo := es.foldr (fun e r => gap e.1 (e.2 :: r)) (gap last [])
def pool (es : List (Nat × CpInfo)) (last : Nat) : Array CpInfo := ⟨poolList es last⟩
def fileOf (pool : Array CpInfo) (this : Nat) (attrs : Array Attribute := #[]) (ms : Array MethodInfo := #[]) (fl : Nat := 33) (sup : Nat := 0) (ifs : Array Nat := #[]) (fds : Array FieldInfo := #[]) : ClassFile where
  minorVersion := 0
  majorVersion := 65
  constantPool := pool
  accessFlags := fl
  thisClass := this
  superClass := sup
  interfaces := ifs
  fields := fds
  methods := ms
  attributes := attrs
def plain (name : String) (sup : Option ClassId) : Class where
  name := name
  kind := .ordinary
  loader := none
  accessFlags := 33
  super := sup
  interfaces := #[]
  cf := none
  fields := #[]
  methods := #[]
  instanceTypes := #[]
  staticTypes := #[]
  resolved := #[]
  callSites := []
  init := .initialized
  statics := none
  mirror := none

def pool0 : Array CpInfo := pool [(5, u "<init>"), (0, u "()V"), (1, .class_ 10), (1, u "java/lang/Object"), (85, u "clone"), (0, u "()Ljava/lang/Object;")] 26

def k0c0 : Code := { maxStack := 0, maxLocals := 1, code := object_method_1_code, exceptionTable := #[], attributes := #[] }
def k0m0 : Method := { name := "<init>", desc := "()V", sig := { parameters := [], returnType := none }, accessFlags := 1, code := some k0c0 }
def k0m1 : Method := { name := "clone", desc := "()Ljava/lang/Object;", sig := { parameters := [], returnType := some (.object "java/lang/Object") }, accessFlags := 260, code := none }
/-- java/lang/Object -/
def k0 : Class := { plain "java/lang/Object" none with
  accessFlags := 33
  interfaces := #[]
  cf := some (fileOf pool0 8 #[] #[{ accessFlags := 1, nameIndex := 5, descriptorIndex := 6, attributes := #[] }, { accessFlags := 260, nameIndex := 96, descriptorIndex := 97, attributes := #[] }] 33 0 #[] #[])
  fields := #[]
  methods := #[k0m0, k0m1]
  instanceTypes := #[]
  staticTypes := #[]
  resolved := Array.replicate 124 none
  statics := none }

def pool1 : Array CpInfo := pool [(2, .class_ 4), (1, u "java/lang/Object"), (0, u "<init>"), (0, u "()V"), (0, .methodref 8 9), (0, .class_ 10), (0, .nameAndType 11 12), (0, u "com/example/loginconv/loginconv/AuthorizableKindOfPrimaryTypePinLaw"), (0, u "input"), (0, u "(IIIIII)Ljava/lang/String;"), (0, .methodref 8 14), (0, .nameAndType 15 16), (0, u "reference"), (0, u "(Ljava/lang/String;)Lcom/example/loginconv/loginconv/AuthorizableKind;"), (0, .methodref 18 19), (0, .class_ 20), (0, .nameAndType 21 22), (0, u "com/example/loginconv/loginconv/AuthorizableKind"), (0, u "ofPrimaryType"), (0, u "(Ljava/lang/String;)Ljava/util/Optional;"), (0, .methodref 24 25), (0, .class_ 26), (0, .nameAndType 27 28), (0, u "java/util/Optional"), (0, u "isPresent"), (0, u "()Z"), (0, .methodref 24 30), (0, .nameAndType 31 32), (0, u "get"), (0, u "()Ljava/lang/Object;"), (0, .methodref 18 34), (0, .nameAndType 35 36), (0, u "primaryType"), (0, u "()Ljava/lang/String;"), (0, .methodref 38 39), (0, .class_ 40), (0, .nameAndType 41 42), (0, u "java/lang/String"), (0, u "equals"), (0, u "(Ljava/lang/Object;)Z"), (0, .string 44), (0, u "rep:User"), (0, .fieldref 18 46), (0, .nameAndType 47 48), (0, u "USER"), (0, u "Lcom/example/loginconv/loginconv/AuthorizableKind;"), (0, .string 50), (0, u "rep:SystemUser"), (0, .fieldref 18 52), (0, .nameAndType 53 48), (0, u "SYSTEM_USER"), (0, .string 55), (0, u "rep:Group"), (0, .fieldref 18 57), (0, .nameAndType 58 48), (0, u "GROUP"), (0, .integer 2147483647), (0, .methodref 38 61), (0, .nameAndType 5 62), (0, u "([C)V"), (0, .string 64), (0, u "user"), (0, .string 66), (0, u "system-user"), (0, .string 68), (0, u "group"), (0, .string 70), (0, u "rep:user"), (0, .string 72), (0, u "User"), (0, .string 74), (0, u "rep:Use"), (0, .string 76), (0, u "rep:Users"), (0, .string 78), (0, u "rep:group"), (0, .string 80), (0, u "rep:SystemUser "), (0, .string 82), (0, u ""), (0, .string 84), (0, u "REP:User"), (0, .methodref 38 86), (0, .nameAndType 87 88), (0, u "valueOf"), (0, u "(C)Ljava/lang/String;"), (2, u "law"), (0, u "(IIIIII)Z")] 3

def k1m0 : Method := { name := "<init>", desc := "()V", sig := { parameters := [], returnType := none }, accessFlags := 1, code := none }
def k1c1 : Code := { maxStack := 6, maxLocals := 9, code := code, exceptionTable := #[], attributes := #[] }
def k1m1 : Method := { name := "law", desc := "(IIIIII)Z", sig := { parameters := [.int, .int, .int, .int, .int, .int], returnType := some .boolean }, accessFlags := 9, code := some k1c1 }
def k1c2 : Code := { maxStack := 2, maxLocals := 1, code := method_3_code, exceptionTable := #[], attributes := #[] }
def k1m2 : Method := { name := "reference", desc := "(Ljava/lang/String;)Lcom/example/loginconv/loginconv/AuthorizableKind;", sig := { parameters := [(.object "java/lang/String")], returnType := some (.object "com/example/loginconv/loginconv/AuthorizableKind") }, accessFlags := 10, code := some k1c2 }
def k1c3 : Code := { maxStack := 6, maxLocals := 12, code := method_4_code, exceptionTable := #[], attributes := #[] }
def k1m3 : Method := { name := "input", desc := "(IIIIII)Ljava/lang/String;", sig := { parameters := [.int, .int, .int, .int, .int, .int], returnType := some (.object "java/lang/String") }, accessFlags := 10, code := some k1c3 }
/-- com/example/loginconv/loginconv/AuthorizableKindOfPrimaryTypePinLaw -/
def k1 : Class := { plain "com/example/loginconv/loginconv/AuthorizableKindOfPrimaryTypePinLaw" (some 0) with
  accessFlags := 49
  interfaces := #[]
  cf := some (fileOf pool1 8 #[] #[{ accessFlags := 1, nameIndex := 5, descriptorIndex := 6, attributes := #[] }, { accessFlags := 9, nameIndex := 91, descriptorIndex := 92, attributes := #[] }, { accessFlags := 10, nameIndex := 15, descriptorIndex := 16, attributes := #[] }, { accessFlags := 10, nameIndex := 11, descriptorIndex := 12, attributes := #[] }] 49 2 #[] #[])
  fields := #[]
  methods := #[k1m0, k1m1, k1m2, k1m3]
  instanceTypes := #[]
  staticTypes := #[]
  resolved := Array.replicate 96 none
  statics := none }

def pool2 : Array CpInfo := pool [(1, .class_ 2), (0, u "java/io/Serializable"), (0, .class_ 4), (0, u "java/lang/Object")] 2

/-- java/io/Serializable -/
def k2 : Class := { plain "java/io/Serializable" (some 0) with
  accessFlags := 1537
  interfaces := #[]
  cf := some (fileOf pool2 1 #[] #[] 1537 3 #[] #[])
  fields := #[]
  methods := #[]
  instanceTypes := #[]
  staticTypes := #[]
  resolved := Array.replicate 7 none
  statics := none }

def pool3 : Array CpInfo := pool [(1, .class_ 2), (0, u "java/lang/Comparable"), (0, .class_ 4), (0, u "java/lang/Object")] 7

/-- java/lang/Comparable -/
def k3 : Class := { plain "java/lang/Comparable" (some 0) with
  accessFlags := 1537
  interfaces := #[]
  cf := some (fileOf pool3 1 #[] #[] 1537 3 #[] #[])
  fields := #[]
  methods := #[]
  instanceTypes := #[]
  staticTypes := #[]
  resolved := Array.replicate 12 none
  statics := none }

def pool4 : Array CpInfo := pool [(2, .class_ 4), (1, u "java/lang/CharSequence"), (42, .class_ 48), (0, u "java/lang/CharSequence$1CodePointIterator"), (10, .class_ 60), (0, u "java/lang/CharSequence$1CharIterator"), (5, .class_ 67), (0, u "java/lang/Object")] 63

/-- java/lang/CharSequence -/
def k4 : Class := { plain "java/lang/CharSequence" (some 0) with
  accessFlags := 1537
  interfaces := #[]
  cf := some (fileOf pool4 2 #[.nestMembers #[47, 59]] #[] 1537 66 #[] #[])
  fields := #[]
  methods := #[]
  instanceTypes := #[]
  staticTypes := #[]
  resolved := Array.replicate 131 none
  statics := none }

def pool5 : Array CpInfo := pool [(1, .class_ 2), (0, u "java/lang/constant/Constable"), (0, .class_ 4), (0, u "java/lang/Object")] 6

/-- java/lang/constant/Constable -/
def k5 : Class := { plain "java/lang/constant/Constable" (some 0) with
  accessFlags := 1537
  interfaces := #[]
  cf := some (fileOf pool5 1 #[] #[] 1537 3 #[] #[])
  fields := #[]
  methods := #[]
  instanceTypes := #[]
  staticTypes := #[]
  resolved := Array.replicate 11 none
  statics := none }

def pool6 : Array CpInfo := pool [(1, .class_ 2), (0, u "java/lang/constant/ConstantDesc"), (0, .class_ 4), (0, u "java/lang/Object")] 32

/-- java/lang/constant/ConstantDesc -/
def k6 : Class := { plain "java/lang/constant/ConstantDesc" (some 0) with
  accessFlags := 1537
  interfaces := #[]
  cf := some (fileOf pool6 1 #[] #[] 1537 3 #[] #[])
  fields := #[]
  methods := #[]
  instanceTypes := #[]
  staticTypes := #[]
  resolved := Array.replicate 37 none
  statics := none }

def pool7 : Array CpInfo := pool [(1, .methodref 2 3), (0, .class_ 4), (0, .nameAndType 5 6), (0, u "java/lang/Object"), (0, u "<init>"), (0, u "()V"), (0, .string 8), (0, u ""), (0, .fieldref 10 11), (0, .class_ 12), (0, .nameAndType 13 14), (0, u "java/lang/String"), (0, u "value"), (0, u "[B"), (0, .fieldref 10 16), (0, .nameAndType 17 18), (0, u "coder"), (0, u "B"), (2, u "hash"), (0, u "I"), (2, u "hashIsZero"), (0, u "Z"), (0, .methodref 10 28), (0, .nameAndType 5 29), (0, u "([CIILjava/lang/Void;)V"), (8, .fieldref 10 39), (0, .nameAndType 40 26), (0, u "COMPACT_STRINGS"), (1, .class_ 44), (1, u "java/lang/StringUTF16"), (0, u "compress"), (1, .methodref 42 48), (0, .nameAndType 49 50), (0, u "coderFromArrayLen"), (0, u "([BI)B"), (2, u "toBytes"), (53, .class_ 109), (1, u "java/lang/StringLatin1"), (67, .methodref 42 178), (0, .nameAndType 45 179), (0, u "([CII)[B"), (29, .methodref 10 210), (0, .nameAndType 5 211), (0, u "([BB)V"), (157, u "(C)Z"), (171, .methodref 107 542), (0, .nameAndType 543 544), (0, u "equals"), (0, u "([B[B)Z"), (28, u "(Ljava/lang/Object;)Z"), (1, .class_ 576), (0, u "java/lang/CharSequence"), (22, u "CASE_INSENSITIVE_ORDER"), (0, u "Ljava/util/Comparator;"), (181, u "valueOf"), (0, u "(C)Ljava/lang/String;"), (226, u "([C)V"), (4, .methodref 107 1016), (0, .nameAndType 1017 369), (0, u "canEncode"), (0, .methodref 107 1019), (0, .nameAndType 53 1020), (0, u "(C)[B"), (80, u "serialPersistentFields"), (0, u "[Ljava/io/ObjectStreamField;"), (0, .class_ 1104), (0, u "java/lang/String$CaseInsensitiveComparator"), (1, .class_ 1107), (0, u "java/io/Serializable"), (0, .class_ 1109), (0, u "java/lang/Comparable"), (0, .class_ 1111), (0, u "java/lang/constant/Constable"), (0, .class_ 1113), (0, u "java/lang/constant/ConstantDesc"), (2, u "serialVersionUID"), (0, u "J"), (3, u "REPL"), (0, u "C"), (2, u "LATIN1"), (1, u "UTF16")] 323

def k7m0 : Method := { name := "<init>", desc := "()V", sig := { parameters := [], returnType := none }, accessFlags := 1, code := none }
def k7c1 : Code := { maxStack := 5, maxLocals := 2, code := jdk_42_method_3_code, exceptionTable := #[], attributes := #[] }
def k7m1 : Method := { name := "<init>", desc := "([C)V", sig := { parameters := [(.array .char)], returnType := none }, accessFlags := 1, code := some k7c1 }
def k7c2 : Code := { maxStack := 2, maxLocals := 3, code := jdk_42_method_66_code, exceptionTable := #[], attributes := #[] }
def k7m2 : Method := { name := "equals", desc := "(Ljava/lang/Object;)Z", sig := { parameters := [(.object "java/lang/Object")], returnType := some .boolean }, accessFlags := 1, code := some k7c2 }
def k7c3 : Code := { maxStack := 4, maxLocals := 1, code := jdk_42_method_139_code, exceptionTable := #[], attributes := #[] }
def k7m3 : Method := { name := "valueOf", desc := "(C)Ljava/lang/String;", sig := { parameters := [.char], returnType := some (.object "java/lang/String") }, accessFlags := 9, code := some k7c3 }
def k7c4 : Code := { maxStack := 4, maxLocals := 6, code := jdk_42_method_149_code, exceptionTable := #[], attributes := #[] }
def k7m4 : Method := { name := "<init>", desc := "([CIILjava/lang/Void;)V", sig := { parameters := [(.array .char), .int, .int, (.object "java/lang/Void")], returnType := none }, accessFlags := 2, code := some k7c4 }
def k7c5 : Code := { maxStack := 2, maxLocals := 3, code := jdk_42_method_151_code, exceptionTable := #[], attributes := #[] }
def k7m5 : Method := { name := "<init>", desc := "([BB)V", sig := { parameters := [(.array .byte), .byte], returnType := none }, accessFlags := 0, code := some k7c5 }
/-- java/lang/String -/
def k7 : Class := { plain "java/lang/String" (some 0) with
  accessFlags := 49
  interfaces := #[2, 3, 4, 5, 6]
  cf := some (fileOf pool7 10 #[.nestMembers #[1103]] #[{ accessFlags := 1, nameIndex := 5, descriptorIndex := 6, attributes := #[] }, { accessFlags := 1, nameIndex := 5, descriptorIndex := 1010, attributes := #[] }, { accessFlags := 1, nameIndex := 543, descriptorIndex := 573, attributes := #[] }, { accessFlags := 9, nameIndex := 782, descriptorIndex := 783, attributes := #[] }, { accessFlags := 2, nameIndex := 5, descriptorIndex := 29, attributes := #[] }, { accessFlags := 0, nameIndex := 5, descriptorIndex := 211, attributes := #[] }] 49 2 #[1106, 1108, 575, 1110, 1112] #[{ accessFlags := 18, nameIndex := 13, descriptorIndex := 14, attributes := #[] }, { accessFlags := 18, nameIndex := 17, descriptorIndex := 18, attributes := #[] }, { accessFlags := 2, nameIndex := 21, descriptorIndex := 22, attributes := #[] }, { accessFlags := 2, nameIndex := 25, descriptorIndex := 26, attributes := #[] }, { accessFlags := 26, nameIndex := 1116, descriptorIndex := 1117, attributes := #[] }, { accessFlags := 24, nameIndex := 40, descriptorIndex := 26, attributes := #[] }, { accessFlags := 26, nameIndex := 1101, descriptorIndex := 1102, attributes := #[] }, { accessFlags := 26, nameIndex := 1121, descriptorIndex := 1122, attributes := #[] }, { accessFlags := 25, nameIndex := 599, descriptorIndex := 600, attributes := #[] }, { accessFlags := 24, nameIndex := 1125, descriptorIndex := 18, attributes := #[] }, { accessFlags := 24, nameIndex := 1127, descriptorIndex := 18, attributes := #[] }])
  fields := #[{ name := "value", type := (.array .byte), accessFlags := 18, slot := 0, constantValue := 0 }, { name := "coder", type := .byte, accessFlags := 18, slot := 1, constantValue := 0 }, { name := "hash", type := .int, accessFlags := 2, slot := 2, constantValue := 0 }, { name := "hashIsZero", type := .boolean, accessFlags := 2, slot := 3, constantValue := 0 }, { name := "serialVersionUID", type := .long, accessFlags := 26, slot := 0, constantValue := 0 }, { name := "COMPACT_STRINGS", type := .boolean, accessFlags := 24, slot := 1, constantValue := 0 }, { name := "serialPersistentFields", type := (.array (.object "java/io/ObjectStreamField")), accessFlags := 26, slot := 2, constantValue := 0 }, { name := "REPL", type := .char, accessFlags := 26, slot := 3, constantValue := 0 }, { name := "CASE_INSENSITIVE_ORDER", type := (.object "java/util/Comparator"), accessFlags := 25, slot := 4, constantValue := 0 }, { name := "LATIN1", type := .byte, accessFlags := 24, slot := 5, constantValue := 0 }, { name := "UTF16", type := .byte, accessFlags := 24, slot := 6, constantValue := 0 }]
  methods := #[k7m0, k7m1, k7m2, k7m3, k7m4, k7m5]
  instanceTypes := #[(.array .byte), .byte, .int, .boolean]
  staticTypes := #[.long, .boolean, (.array (.object "java/io/ObjectStreamField")), .char, (.object "java/util/Comparator"), .byte, .byte]
  resolved := Array.replicate 1451 none
  statics := some 0 }

def pool8 : Array CpInfo := pool [(2, .class_ 4), (1, u "java/lang/Enum"), (0, u "name"), (0, u "Ljava/lang/String;"), (2, u "ordinal"), (0, u "I"), (1, .class_ 14), (1, u "java/lang/Object"), (4, u "hash"), (86, .class_ 108), (1, u "java/lang/Enum$EnumDesc"), (2, .class_ 112), (0, u "java/lang/constant/Constable"), (0, .class_ 114), (0, u "java/lang/Comparable"), (0, .class_ 116), (0, u "java/io/Serializable")] 87

/-- java/lang/Enum -/
def k8 : Class := { plain "java/lang/Enum" (some 0) with
  accessFlags := 1057
  interfaces := #[5, 3, 2]
  cf := some (fileOf pool8 2 #[.nestMembers #[106]] #[] 1057 12 #[111, 113, 115] #[{ accessFlags := 18, nameIndex := 5, descriptorIndex := 6, attributes := #[] }, { accessFlags := 18, nameIndex := 9, descriptorIndex := 10, attributes := #[] }, { accessFlags := 2, nameIndex := 19, descriptorIndex := 10, attributes := #[] }])
  fields := #[{ name := "name", type := (.object "java/lang/String"), accessFlags := 18, slot := 0, constantValue := 0 }, { name := "ordinal", type := .int, accessFlags := 18, slot := 1, constantValue := 0 }, { name := "hash", type := .int, accessFlags := 2, slot := 2, constantValue := 0 }]
  methods := #[]
  instanceTypes := #[(.object "java/lang/String"), .int, .int]
  staticTypes := #[]
  resolved := Array.replicate 204 none
  statics := none }

def pool9 : Array CpInfo := pool [(1, .class_ 2), (0, u "com/example/loginconv/loginconv/AuthorizableKind"), (2, u "USER"), (0, u "Lcom/example/loginconv/loginconv/AuthorizableKind;"), (2, u "SYSTEM_USER"), (2, u "GROUP"), (0, .fieldref 1 14), (0, .nameAndType 15 16), (0, u "$VALUES"), (0, u "[Lcom/example/loginconv/loginconv/AuthorizableKind;"), (0, .methodref 18 19), (0, .class_ 16), (0, .nameAndType 20 21), (0, u "clone"), (0, u "()Ljava/lang/Object;"), (1, .class_ 25), (1, u "java/lang/Enum"), (8, u "label"), (0, u "Ljava/lang/String;"), (0, .fieldref 1 37), (0, .nameAndType 38 35), (0, u "primaryType"), (0, .methodref 1 40), (0, .nameAndType 41 42), (0, u "values"), (0, u "()[Lcom/example/loginconv/loginconv/AuthorizableKind;"), (0, .methodref 44 45), (0, .class_ 46), (0, .nameAndType 47 48), (0, u "java/lang/String"), (0, u "equals"), (0, u "(Ljava/lang/Object;)Z"), (0, .methodref 50 51), (0, .class_ 52), (0, .nameAndType 53 54), (0, u "java/util/Optional"), (0, u "of"), (0, u "(Ljava/lang/Object;)Ljava/util/Optional;"), (0, .methodref 50 56), (0, .nameAndType 57 58), (0, u "empty"), (0, u "()Ljava/util/Optional;"), (27, u "()Ljava/lang/String;"), (0, u "ofPrimaryType"), (0, u "(Ljava/lang/String;)Ljava/util/Optional;")] 7

def k9c0 : Code := { maxStack := 1, maxLocals := 0, code := prog_1_method_1_code, exceptionTable := #[], attributes := #[] }
def k9m0 : Method := { name := "values", desc := "()[Lcom/example/loginconv/loginconv/AuthorizableKind;", sig := { parameters := [], returnType := some (.array (.object "com/example/loginconv/loginconv/AuthorizableKind")) }, accessFlags := 9, code := some k9c0 }
def k9c1 : Code := { maxStack := 1, maxLocals := 1, code := prog_1_method_5_code, exceptionTable := #[], attributes := #[] }
def k9m1 : Method := { name := "primaryType", desc := "()Ljava/lang/String;", sig := { parameters := [], returnType := some (.object "java/lang/String") }, accessFlags := 1, code := some k9c1 }
def k9c2 : Code := { maxStack := 2, maxLocals := 5, code := prog_1_method_6_code, exceptionTable := #[], attributes := #[] }
def k9m2 : Method := { name := "ofPrimaryType", desc := "(Ljava/lang/String;)Ljava/util/Optional;", sig := { parameters := [(.object "java/lang/String")], returnType := some (.object "java/util/Optional") }, accessFlags := 9, code := some k9c2 }
/-- com/example/loginconv/loginconv/AuthorizableKind -/
def k9 : Class := { plain "com/example/loginconv/loginconv/AuthorizableKind" (some 8) with
  accessFlags := 16433
  interfaces := #[]
  cf := some (fileOf pool9 1 #[] #[{ accessFlags := 9, nameIndex := 41, descriptorIndex := 42, attributes := #[] }, { accessFlags := 1, nameIndex := 38, descriptorIndex := 86, attributes := #[] }, { accessFlags := 9, nameIndex := 87, descriptorIndex := 88, attributes := #[] }] 16433 23 #[] #[{ accessFlags := 16409, nameIndex := 5, descriptorIndex := 6, attributes := #[] }, { accessFlags := 16409, nameIndex := 9, descriptorIndex := 6, attributes := #[] }, { accessFlags := 16409, nameIndex := 12, descriptorIndex := 6, attributes := #[] }, { accessFlags := 18, nameIndex := 34, descriptorIndex := 35, attributes := #[] }, { accessFlags := 18, nameIndex := 38, descriptorIndex := 35, attributes := #[] }, { accessFlags := 4122, nameIndex := 15, descriptorIndex := 16, attributes := #[] }])
  fields := #[{ name := "USER", type := (.object "com/example/loginconv/loginconv/AuthorizableKind"), accessFlags := 16409, slot := 0, constantValue := 0 }, { name := "SYSTEM_USER", type := (.object "com/example/loginconv/loginconv/AuthorizableKind"), accessFlags := 16409, slot := 1, constantValue := 0 }, { name := "GROUP", type := (.object "com/example/loginconv/loginconv/AuthorizableKind"), accessFlags := 16409, slot := 2, constantValue := 0 }, { name := "label", type := (.object "java/lang/String"), accessFlags := 18, slot := 3, constantValue := 0 }, { name := "primaryType", type := (.object "java/lang/String"), accessFlags := 18, slot := 4, constantValue := 0 }, { name := "$VALUES", type := (.array (.object "com/example/loginconv/loginconv/AuthorizableKind")), accessFlags := 4122, slot := 3, constantValue := 0 }]
  methods := #[k9m0, k9m1, k9m2]
  instanceTypes := #[(.object "java/lang/String"), .int, .int, (.object "java/lang/String"), (.object "java/lang/String")]
  staticTypes := #[(.object "com/example/loginconv/loginconv/AuthorizableKind"), (.object "com/example/loginconv/loginconv/AuthorizableKind"), (.object "com/example/loginconv/loginconv/AuthorizableKind"), (.array (.object "com/example/loginconv/loginconv/AuthorizableKind"))]
  resolved := Array.replicate 96 none
  statics := some 1 }

def pool10 : Array CpInfo := pool [(1, .class_ 2), (0, u "java/lang/Cloneable"), (0, .class_ 4), (0, u "java/lang/Object")] 2

/-- java/lang/Cloneable -/
def k10 : Class := { plain "java/lang/Cloneable" (some 0) with
  accessFlags := 1537
  interfaces := #[]
  cf := some (fileOf pool10 1 #[] #[] 1537 3 #[] #[])
  fields := #[]
  methods := #[]
  instanceTypes := #[]
  staticTypes := #[]
  resolved := Array.replicate 7 none
  statics := none }

def pool11 : Array CpInfo := pool [(4, .class_ 6), (1, u "java/lang/Object"), (0, u "<init>"), (0, u "()V"), (5, .class_ 16), (1, u "java/lang/StringLatin1"), (73, u "canEncode"), (14, u "(C)Z"), (15, u "$assertionsDisabled"), (0, u "Z"), (98, .class_ 223), (1, u "java/lang/StringLatin1$LinesSpliterator"), (57, u "equals"), (0, u "([B[B)Z"), (97, u "toBytes"), (1, u "(C)[B"), (7, .class_ 391), (0, u "java/lang/StringLatin1$CharsSpliterator")] 3

def k11m0 : Method := { name := "<init>", desc := "()V", sig := { parameters := [], returnType := none }, accessFlags := 0, code := none }
def k11c1 : Code := { maxStack := 2, maxLocals := 1, code := jdk_43_method_3_code, exceptionTable := #[], attributes := #[] }
def k11m1 : Method := { name := "canEncode", desc := "(C)Z", sig := { parameters := [.char], returnType := some .boolean }, accessFlags := 9, code := some k11c1 }
def k11c2 : Code := { maxStack := 3, maxLocals := 3, code := jdk_43_method_13_code, exceptionTable := #[], attributes := #[] }
def k11m2 : Method := { name := "equals", desc := "([B[B)Z", sig := { parameters := [(.array .byte), (.array .byte)], returnType := some .boolean }, accessFlags := 9, code := some k11c2 }
def k11c3 : Code := { maxStack := 4, maxLocals := 1, code := jdk_43_method_46_code, exceptionTable := #[], attributes := #[] }
def k11m3 : Method := { name := "toBytes", desc := "(C)[B", sig := { parameters := [.char], returnType := some (.array .byte) }, accessFlags := 9, code := some k11c3 }
/-- java/lang/StringLatin1 -/
def k11 : Class := { plain "java/lang/StringLatin1" (some 0) with
  accessFlags := 48
  interfaces := #[]
  cf := some (fileOf pool11 14 #[.nestMembers #[390, 221]] #[{ accessFlags := 0, nameIndex := 7, descriptorIndex := 8, attributes := #[] }, { accessFlags := 9, nameIndex := 90, descriptorIndex := 105, attributes := #[] }, { accessFlags := 9, nameIndex := 281, descriptorIndex := 282, attributes := #[] }, { accessFlags := 9, nameIndex := 380, descriptorIndex := 382, attributes := #[] }] 48 4 #[] #[{ accessFlags := 4120, nameIndex := 121, descriptorIndex := 122, attributes := #[] }])
  fields := #[{ name := "$assertionsDisabled", type := .boolean, accessFlags := 4120, slot := 0, constantValue := 0 }]
  methods := #[k11m0, k11m1, k11m2, k11m3]
  instanceTypes := #[]
  staticTypes := #[.boolean]
  resolved := Array.replicate 395 none
  statics := none }

def pool12 : Array CpInfo := pool [(1, .fieldref 2 3), (0, .class_ 4), (0, .nameAndType 5 6), (0, u "java/util/Optional"), (0, u "EMPTY"), (0, u "Ljava/util/Optional;"), (0, .methodref 8 9), (0, .class_ 10), (0, .nameAndType 11 12), (0, u "java/lang/Object"), (0, u "<init>"), (0, u "()V"), (0, .fieldref 2 14), (0, .nameAndType 15 16), (0, u "value"), (0, u "Ljava/lang/Object;"), (0, .methodref 18 19), (0, .class_ 20), (0, .nameAndType 21 22), (0, u "java/util/Objects"), (0, u "requireNonNull"), (0, u "(Ljava/lang/Object;)Ljava/lang/Object;"), (0, .methodref 2 24), (0, .nameAndType 11 25), (0, u "(Ljava/lang/Object;)V"), (20, u "()Z"), (8, u "empty"), (0, u "()Ljava/util/Optional;"), (8, u "(Ljava/lang/Object;)Ljava/util/Optional;"), (2, u "isPresent"), (4, u "get"), (0, u "()Ljava/lang/Object;"), (7, u "of")] 104

def k12c0 : Code := { maxStack := 1, maxLocals := 1, code := jdk_32_method_1_code, exceptionTable := #[], attributes := #[] }
def k12m0 : Method := { name := "empty", desc := "()Ljava/util/Optional;", sig := { parameters := [], returnType := some (.object "java/util/Optional") }, accessFlags := 9, code := some k12c0 }
def k12c1 : Code := { maxStack := 2, maxLocals := 2, code := jdk_32_method_2_code, exceptionTable := #[], attributes := #[] }
def k12m1 : Method := { name := "<init>", desc := "(Ljava/lang/Object;)V", sig := { parameters := [(.object "java/lang/Object")], returnType := none }, accessFlags := 2, code := some k12c1 }
def k12c2 : Code := { maxStack := 3, maxLocals := 1, code := jdk_32_method_3_code, exceptionTable := #[], attributes := #[] }
def k12m2 : Method := { name := "of", desc := "(Ljava/lang/Object;)Ljava/util/Optional;", sig := { parameters := [(.object "java/lang/Object")], returnType := some (.object "java/util/Optional") }, accessFlags := 9, code := some k12c2 }
def k12c3 : Code := { maxStack := 3, maxLocals := 1, code := jdk_32_method_5_code, exceptionTable := #[], attributes := #[] }
def k12m3 : Method := { name := "get", desc := "()Ljava/lang/Object;", sig := { parameters := [], returnType := some (.object "java/lang/Object") }, accessFlags := 1, code := some k12c3 }
def k12c4 : Code := { maxStack := 1, maxLocals := 1, code := jdk_32_method_6_code, exceptionTable := #[], attributes := #[] }
def k12m4 : Method := { name := "isPresent", desc := "()Z", sig := { parameters := [], returnType := some .boolean }, accessFlags := 1, code := some k12c4 }
/-- java/util/Optional -/
def k12 : Class := { plain "java/util/Optional" (some 0) with
  accessFlags := 49
  interfaces := #[]
  cf := some (fileOf pool12 2 #[] #[{ accessFlags := 9, nameIndex := 55, descriptorIndex := 56, attributes := #[] }, { accessFlags := 2, nameIndex := 11, descriptorIndex := 25, attributes := #[] }, { accessFlags := 9, nameIndex := 82, descriptorIndex := 65, attributes := #[] }, { accessFlags := 1, nameIndex := 73, descriptorIndex := 74, attributes := #[] }, { accessFlags := 1, nameIndex := 68, descriptorIndex := 46, attributes := #[] }] 49 8 #[] #[{ accessFlags := 26, nameIndex := 5, descriptorIndex := 6, attributes := #[] }, { accessFlags := 18, nameIndex := 15, descriptorIndex := 16, attributes := #[] }])
  fields := #[{ name := "EMPTY", type := (.object "java/util/Optional"), accessFlags := 26, slot := 0, constantValue := 0 }, { name := "value", type := (.object "java/lang/Object"), accessFlags := 18, slot := 0, constantValue := 0 }]
  methods := #[k12m0, k12m1, k12m2, k12m3, k12m4]
  instanceTypes := #[(.object "java/lang/Object")]
  staticTypes := #[(.object "java/util/Optional")]
  resolved := Array.replicate 187 none
  statics := some 2 }

def pool13 : Array CpInfo := pool [(2, .class_ 4), (1, u "java/lang/Object"), (0, u "<init>"), (0, u "()V"), (35, .class_ 44), (1, u "java/util/Objects"), (0, u "requireNonNull"), (0, u "(Ljava/lang/Object;)Ljava/lang/Object;")] 137

def k13m0 : Method := { name := "<init>", desc := "()V", sig := { parameters := [], returnType := none }, accessFlags := 2, code := none }
def k13c1 : Code := { maxStack := 2, maxLocals := 1, code := jdk_31_method_10_code, exceptionTable := #[], attributes := #[] }
def k13m1 : Method := { name := "requireNonNull", desc := "(Ljava/lang/Object;)Ljava/lang/Object;", sig := { parameters := [(.object "java/lang/Object")], returnType := some (.object "java/lang/Object") }, accessFlags := 9, code := some k13c1 }
/-- java/util/Objects -/
def k13 : Class := { plain "java/util/Objects" (some 0) with
  accessFlags := 49
  interfaces := #[]
  cf := some (fileOf pool13 42 #[] #[{ accessFlags := 2, nameIndex := 5, descriptorIndex := 6, attributes := #[] }, { accessFlags := 9, nameIndex := 45, descriptorIndex := 46, attributes := #[] }] 49 2 #[] #[])
  fields := #[]
  methods := #[k13m0, k13m1]
  instanceTypes := #[]
  staticTypes := #[]
  resolved := Array.replicate 184 none
  statics := none }

def pool14 : Array CpInfo := pool [(6, .class_ 8), (1, u "java/lang/Object"), (0, u "<init>"), (0, u "()V"), (1, .class_ 14), (1, u "java/lang/StringUTF16"), (31, u "$assertionsDisabled"), (0, u "Z"), (13, u "HI_BYTE_SHIFT"), (0, u "I"), (2, u "LO_BYTE_SHIFT"), (49, .methodref 12 116), (0, .nameAndType 117 118), (0, u "compress"), (0, u "([CI[BII)I"), (3, u "([CII)[B"), (138, u "coderFromArrayLen"), (0, u "([BI)B"), (106, .class_ 371), (1, u "java/lang/StringUTF16$LinesSpliterator"), (58, u "MAX_LENGTH"), (196, .class_ 628), (0, u "java/lang/StringUTF16$CodePointsSpliterator"), (0, .class_ 630), (0, u "java/lang/StringUTF16$CharsSpliterator")] 4

def k14m0 : Method := { name := "<init>", desc := "()V", sig := { parameters := [], returnType := none }, accessFlags := 0, code := none }
def k14c1 : Code := { maxStack := 2, maxLocals := 2, code := jdk_52_method_15_code, exceptionTable := #[], attributes := #[] }
def k14m1 : Method := { name := "coderFromArrayLen", desc := "([BI)B", sig := { parameters := [(.array .byte), .int], returnType := some .byte }, accessFlags := 8, code := some k14c1 }
def k14c2 : Code := { maxStack := 5, maxLocals := 6, code := jdk_52_method_16_code, exceptionTable := #[], attributes := #[] }
def k14m2 : Method := { name := "compress", desc := "([CII)[B", sig := { parameters := [(.array .char), .int, .int], returnType := some (.array .byte) }, accessFlags := 9, code := some k14c2 }
def k14c3 : Code := { maxStack := 3, maxLocals := 7, code := jdk_52_method_21_code, exceptionTable := #[], attributes := #[] }
def k14m3 : Method := { name := "compress", desc := "([CI[BII)I", sig := { parameters := [(.array .char), .int, (.array .byte), .int, .int], returnType := some .int }, accessFlags := 9, code := some k14c3 }
/-- java/lang/StringUTF16 -/
def k14 : Class := { plain "java/lang/StringUTF16" (some 0) with
  accessFlags := 48
  interfaces := #[]
  cf := some (fileOf pool14 12 #[.nestMembers #[627, 629, 369]] #[{ accessFlags := 0, nameIndex := 9, descriptorIndex := 10, attributes := #[] }, { accessFlags := 8, nameIndex := 261, descriptorIndex := 262, attributes := #[] }, { accessFlags := 9, nameIndex := 117, descriptorIndex := 122, attributes := #[] }, { accessFlags := 9, nameIndex := 117, descriptorIndex := 118, attributes := #[] }] 48 6 #[] #[{ accessFlags := 26, nameIndex := 61, descriptorIndex := 62, attributes := #[] }, { accessFlags := 26, nameIndex := 65, descriptorIndex := 62, attributes := #[] }, { accessFlags := 24, nameIndex := 430, descriptorIndex := 62, attributes := #[] }, { accessFlags := 4120, nameIndex := 46, descriptorIndex := 47, attributes := #[] }])
  fields := #[{ name := "HI_BYTE_SHIFT", type := .int, accessFlags := 26, slot := 0, constantValue := 0 }, { name := "LO_BYTE_SHIFT", type := .int, accessFlags := 26, slot := 1, constantValue := 0 }, { name := "MAX_LENGTH", type := .int, accessFlags := 24, slot := 2, constantValue := 0 }, { name := "$assertionsDisabled", type := .boolean, accessFlags := 4120, slot := 3, constantValue := 0 }]
  methods := #[k14m0, k14m1, k14m2, k14m3]
  instanceTypes := #[]
  staticTypes := #[.int, .int, .int, .boolean]
  resolved := Array.replicate 635 none
  statics := none }

def pool15 : Array CpInfo := pool [(2, .class_ 4), (1, u "java/lang/Object"), (0, u "<init>"), (0, u "()V"), (17, .class_ 26), (1, u "jdk/internal/util/Preconditions"), (28, .class_ 56), (0, u "jdk/internal/util/Preconditions$4"), (57, .class_ 115), (0, u "jdk/internal/util/Preconditions$1"), (7, u "SIOOBE_FORMATTER"), (0, u "Ljava/util/function/BiFunction;"), (0, .class_ 126), (0, u "jdk/internal/util/Preconditions$2"), (3, u "AIOOBE_FORMATTER"), (0, .class_ 132), (0, u "jdk/internal/util/Preconditions$3"), (3, u "IOOBE_FORMATTER")] 57

def k15m0 : Method := { name := "<init>", desc := "()V", sig := { parameters := [], returnType := none }, accessFlags := 1, code := none }
/-- jdk/internal/util/Preconditions -/
def k15 : Class := { plain "jdk/internal/util/Preconditions" (some 0) with
  accessFlags := 33
  interfaces := #[]
  cf := some (fileOf pool15 24 #[.nestMembers #[55, 131, 125, 114]] #[{ accessFlags := 1, nameIndex := 5, descriptorIndex := 6, attributes := #[] }] 33 2 #[] #[{ accessFlags := 25, nameIndex := 123, descriptorIndex := 124, attributes := #[] }, { accessFlags := 25, nameIndex := 130, descriptorIndex := 124, attributes := #[] }, { accessFlags := 25, nameIndex := 136, descriptorIndex := 124, attributes := #[] }])
  fields := #[{ name := "SIOOBE_FORMATTER", type := (.object "java/util/function/BiFunction"), accessFlags := 25, slot := 0, constantValue := 0 }, { name := "AIOOBE_FORMATTER", type := (.object "java/util/function/BiFunction"), accessFlags := 25, slot := 1, constantValue := 0 }, { name := "IOOBE_FORMATTER", type := (.object "java/util/function/BiFunction"), accessFlags := 25, slot := 2, constantValue := 0 }]
  methods := #[k15m0]
  instanceTypes := #[]
  staticTypes := #[(.object "java/util/function/BiFunction"), (.object "java/util/function/BiFunction"), (.object "java/util/function/BiFunction")]
  resolved := Array.replicate 194 none
  statics := some 3 }

def pool16 : Array CpInfo := pool [(9, u "<init>"), (6, .class_ 18), (1, u "java/lang/Object"), (0, u "()V"), (1, .class_ 23), (1, u "jdk/internal/util/ArraysSupport"), (0, u "LOG2_ARRAY_LONG_INDEX_SCALE"), (0, u "I"), (2, u "U"), (0, u "Ljdk/internal/misc/Unsafe;"), (8, u "BIG_ENDIAN"), (0, u "Z"), (8, u "LOG2_BYTE_BIT_SIZE"), (4, u "LOG2_ARRAY_INT_INDEX_SCALE"), (54, u "JLA"), (0, u "Ljdk/internal/access/JavaLangAccess;"), (11, u "LOG2_ARRAY_BOOLEAN_INDEX_SCALE"), (9, u "LOG2_ARRAY_BYTE_INDEX_SCALE"), (5, u "LOG2_ARRAY_CHAR_INDEX_SCALE"), (5, u "LOG2_ARRAY_SHORT_INDEX_SCALE"), (18, u "LOG2_ARRAY_FLOAT_INDEX_SCALE"), (24, u "LOG2_ARRAY_DOUBLE_INDEX_SCALE"), (89, u "T_BOOLEAN"), (2, u "T_CHAR"), (1, u "T_FLOAT"), (1, u "T_DOUBLE"), (1, u "T_BYTE"), (1, u "T_SHORT"), (1, u "T_INT"), (1, u "T_LONG"), (1, u "SOFT_MAX_ARRAY_LENGTH")] 83

def k16m0 : Method := { name := "<init>", desc := "()V", sig := { parameters := [], returnType := none }, accessFlags := 2, code := none }
/-- jdk/internal/util/ArraysSupport -/
def k16 : Class := { plain "jdk/internal/util/ArraysSupport" (some 0) with
  accessFlags := 33
  interfaces := #[]
  cf := some (fileOf pool16 21 #[] #[{ accessFlags := 2, nameIndex := 9, descriptorIndex := 19, attributes := #[] }] 33 16 #[] #[{ accessFlags := 24, nameIndex := 28, descriptorIndex := 29, attributes := #[] }, { accessFlags := 26, nameIndex := 38, descriptorIndex := 39, attributes := #[] }, { accessFlags := 25, nameIndex := 121, descriptorIndex := 25, attributes := #[] }, { accessFlags := 25, nameIndex := 131, descriptorIndex := 25, attributes := #[] }, { accessFlags := 25, nameIndex := 137, descriptorIndex := 25, attributes := #[] }, { accessFlags := 25, nameIndex := 143, descriptorIndex := 25, attributes := #[] }, { accessFlags := 25, nameIndex := 53, descriptorIndex := 25, attributes := #[] }, { accessFlags := 25, nameIndex := 24, descriptorIndex := 25, attributes := #[] }, { accessFlags := 25, nameIndex := 162, descriptorIndex := 25, attributes := #[] }, { accessFlags := 25, nameIndex := 187, descriptorIndex := 25, attributes := #[] }, { accessFlags := 26, nameIndex := 48, descriptorIndex := 25, attributes := #[] }, { accessFlags := 25, nameIndex := 277, descriptorIndex := 25, attributes := #[] }, { accessFlags := 25, nameIndex := 280, descriptorIndex := 25, attributes := #[] }, { accessFlags := 25, nameIndex := 282, descriptorIndex := 25, attributes := #[] }, { accessFlags := 25, nameIndex := 284, descriptorIndex := 25, attributes := #[] }, { accessFlags := 25, nameIndex := 286, descriptorIndex := 25, attributes := #[] }, { accessFlags := 25, nameIndex := 288, descriptorIndex := 25, attributes := #[] }, { accessFlags := 25, nameIndex := 290, descriptorIndex := 25, attributes := #[] }, { accessFlags := 25, nameIndex := 292, descriptorIndex := 25, attributes := #[] }, { accessFlags := 26, nameIndex := 108, descriptorIndex := 109, attributes := #[] }, { accessFlags := 25, nameIndex := 294, descriptorIndex := 25, attributes := #[] }])
  fields := #[{ name := "U", type := (.object "jdk/internal/misc/Unsafe"), accessFlags := 24, slot := 0, constantValue := 0 }, { name := "BIG_ENDIAN", type := .boolean, accessFlags := 26, slot := 1, constantValue := 0 }, { name := "LOG2_ARRAY_BOOLEAN_INDEX_SCALE", type := .int, accessFlags := 25, slot := 2, constantValue := 0 }, { name := "LOG2_ARRAY_BYTE_INDEX_SCALE", type := .int, accessFlags := 25, slot := 3, constantValue := 0 }, { name := "LOG2_ARRAY_CHAR_INDEX_SCALE", type := .int, accessFlags := 25, slot := 4, constantValue := 0 }, { name := "LOG2_ARRAY_SHORT_INDEX_SCALE", type := .int, accessFlags := 25, slot := 5, constantValue := 0 }, { name := "LOG2_ARRAY_INT_INDEX_SCALE", type := .int, accessFlags := 25, slot := 6, constantValue := 0 }, { name := "LOG2_ARRAY_LONG_INDEX_SCALE", type := .int, accessFlags := 25, slot := 7, constantValue := 0 }, { name := "LOG2_ARRAY_FLOAT_INDEX_SCALE", type := .int, accessFlags := 25, slot := 8, constantValue := 0 }, { name := "LOG2_ARRAY_DOUBLE_INDEX_SCALE", type := .int, accessFlags := 25, slot := 9, constantValue := 0 }, { name := "LOG2_BYTE_BIT_SIZE", type := .int, accessFlags := 26, slot := 10, constantValue := 0 }, { name := "T_BOOLEAN", type := .int, accessFlags := 25, slot := 11, constantValue := 0 }, { name := "T_CHAR", type := .int, accessFlags := 25, slot := 12, constantValue := 0 }, { name := "T_FLOAT", type := .int, accessFlags := 25, slot := 13, constantValue := 0 }, { name := "T_DOUBLE", type := .int, accessFlags := 25, slot := 14, constantValue := 0 }, { name := "T_BYTE", type := .int, accessFlags := 25, slot := 15, constantValue := 0 }, { name := "T_SHORT", type := .int, accessFlags := 25, slot := 16, constantValue := 0 }, { name := "T_INT", type := .int, accessFlags := 25, slot := 17, constantValue := 0 }, { name := "T_LONG", type := .int, accessFlags := 25, slot := 18, constantValue := 0 }, { name := "JLA", type := (.object "jdk/internal/access/JavaLangAccess"), accessFlags := 26, slot := 19, constantValue := 0 }, { name := "SOFT_MAX_ARRAY_LENGTH", type := .int, accessFlags := 25, slot := 20, constantValue := 0 }]
  methods := #[k16m0]
  instanceTypes := #[]
  staticTypes := #[(.object "jdk/internal/misc/Unsafe"), .boolean, .int, .int, .int, .int, .int, .int, .int, .int, .int, .int, .int, .int, .int, .int, .int, .int, .int, (.object "jdk/internal/access/JavaLangAccess"), .int]
  resolved := Array.replicate 378 none
  statics := none }

/-- the primitive byte -/
def k17 : Class := { plain "byte" none with kind := .primitive 'B', accessFlags := 0x411 }
/-- [B -/
def k18 : Class := { plain "[B" (some 0) with kind := .array 17 .byte, interfaces := #[10, 2], accessFlags := 1041 }

/-- the primitive char -/
def k19 : Class := { plain "char" none with kind := .primitive 'C', accessFlags := 0x411 }
/-- [C -/
def k20 : Class := { plain "[C" (some 0) with kind := .array 19 .char, interfaces := #[10, 2], accessFlags := 1041 }

/-- the primitive int -/
def k21 : Class := { plain "int" none with kind := .primitive 'I', accessFlags := 0x411 }
/-- [I -/
def k22 : Class := { plain "[I" (some 0) with kind := .array 21 .int, interfaces := #[10, 2], accessFlags := 1041 }

/-- [Lcom/example/loginconv/loginconv/AuthorizableKind; -/
def k23 : Class := { plain "[Lcom/example/loginconv/loginconv/AuthorizableKind;" (some 0) with kind := .array 9 (.object "com/example/loginconv/loginconv/AuthorizableKind"), interfaces := #[10, 2], accessFlags := 1041 }

def heap : Heap := #[{ cls := 7, slots := #[.long 0, .int 1, .null, .int 0, .null, .int 0, .int 0], vm := .statics 7 },
  { cls := 9, slots := #[.ref 5, .ref 6, .ref 7, .ref 4], vm := .statics 9 },
  { cls := 12, slots := #[.ref 14], vm := .statics 12 },
  { cls := 15, slots := #[.null, .null, .null], vm := .statics 15 },
  { cls := 23, slots := #[.ref 5, .ref 6, .ref 7], vm := .none },
  { cls := 9, slots := #[.null, .int 0, .int 0, .null, .ref 8], vm := .none },
  { cls := 9, slots := #[.null, .int 1, .int 0, .null, .ref 10], vm := .none },
  { cls := 9, slots := #[.null, .int 2, .int 0, .null, .ref 12], vm := .none },
  { cls := 7, slots := #[.ref 9, .int 0, .int 0, .int 0], vm := .none },
  { cls := 18, slots := #[.int 114, .int 101, .int 112, .int 58, .int 85, .int 115, .int 101, .int 114], vm := .none },
  { cls := 7, slots := #[.ref 11, .int 0, .int 0, .int 0], vm := .none },
  { cls := 18, slots := #[.int 114, .int 101, .int 112, .int 58, .int 83, .int 121, .int 115, .int 116, .int 101, .int 109, .int 85, .int 115, .int 101, .int 114], vm := .none },
  { cls := 7, slots := #[.ref 13, .int 0, .int 0, .int 0], vm := .none },
  { cls := 18, slots := #[.int 114, .int 101, .int 112, .int 58, .int 71, .int 114, .int 111, .int 117, .int 112], vm := .none },
  { cls := 12, slots := #[.null], vm := .none }]
def classes : Array Class := #[k0, k1, k2, k3, k4, k5, k6, k7, k8, k9, k10, k11, k12, k13, k14, k15, k16, k17, k18, k19, k20, k21, k22, k23]
def interned : List (Array UInt16 × Addr) := []
def slotsUsed : Nat := 77
def theMethod : MethodId := ⟨1, 1⟩
def args0 : Array Value := #[.int 5, .int 6, .int 2, .int 7, .int 8, .int 9]
def aboutOver (below : List Frame) : State where
  vm := { classes := classes, interned := interned.toArray }
  heap := heap
  slotsUsed := slotsUsed
  threads := #[{ frames := .invoking theMethod args0 :: below }]
def below0 : List Frame := [.native { method := ⟨0, 0⟩, args := #[] }]
def about1 : State := aboutOver below0
def p0 : Program := .bare "" "" ""
def e0 : Env := launch0.env 0 0 0
theorem w_frames : about1.frames = Frame.invoking theMethod args0 :: below0 := rfl
set_option maxRecDepth 65536 in
theorem w_args : argsFit about1.vm theMethod args0 = true := by decide +kernel
set_option maxRecDepth 65536 in
theorem w_heap : heapFits about1 = true := by decide +kernel
set_option maxRecDepth 65536 in
theorem w_runnable : about1.curStatus? = some .runnable := by decide +kernel
set_option maxRecDepth 65536 in
theorem w_alone : about1.alone = true := by decide +kernel
set_option maxRecDepth 65536 in
theorem w_named : about1.methodNamed? x = some theMethod := by decide +kernel
set_option maxRecDepth 65536 in
theorem w_hears : about1.hears theMethod below0 = true := by decide +kernel
set_option maxRecDepth 65536 in
theorem w_ripe : about1.ripe theMethod args0 below0 = true := by decide +kernel
theorem w_running : about1.status = .running := rfl
set_option maxRecDepth 65536 in
theorem w_room : about1.hasRoom e0.platform room_1 = true :=
  launch0.hasRoom_least _ room_1 (by decide +kernel) (by decide +kernel) (by decide +kernel) (by decide +kernel) (by decide +kernel) (by decide +kernel)
theorem allAtoms_all (ts : List Jvm.Cond) (a : Array Jvm.Value) (st : Jvm.State) : (allAtoms ts).before a st = ts.all (fun c => c.before a st) := by
  induction ts with
  | nil => rfl
  | cons c t ih =>
    show (Jvm.Cond.and c (allAtoms t)).before a st = _
    rw [Jvm.Cond.before_and, ih, List.all_cons]
def words1 : List Jvm.Cond := Jvm.Cond.code x code maxLocals ret :: tables_1
/-- a 'code' word, met by the world's own term for the bytes: nothing is compared byte by byte -/
theorem code_word {y : MethodName} {bytes : ByteArray} {mx : Nat} {rt : Option FieldType} {a : Array Value} {s : State} {m : MethodId} {meth : Method} {c : Code} (h1 : s.methodNamed? y = some m) (h2 : s.vm.method? m = some meth) (h3 : meth.code = some c) (h4 : c.code = bytes)
    (h5 : (c.maxLocals == mx && c.exceptionTable.isEmpty && decide (c.maxStack ≤ mostOperands) && decide (meth.sig.returnType = rt) && !meth.locks && decide (parseMethodDescriptor y.desc = some meth.sig)) = true) : (Jvm.Cond.code y bytes mx rt).before a s = true := by
  simp only [Bool.and_eq_true, beq_iff_eq, Bool.not_eq_true', decide_eq_true_eq] at h5
  obtain ⟨⟨⟨⟨⟨g1, g2⟩, g3⟩, g4⟩, g5⟩, g6⟩ := h5
  simp [Cond.before, Cond.holds, Cond.value, h1, h2, h3, h4, g1, g2, g3, g4, g5, g6]
def isCode : Jvm.Cond → Bool
  | .code _ _ _ _ => true
  | _ => false
theorem all_split {L : List Jvm.Cond} {P : Jvm.Cond → Bool} (h1 : L.all (fun c => isCode c || P c) = true) (h2 : ∀ c ∈ L.filter isCode, P c = true) : L.all P = true := by
  refine List.all_eq_true.mpr fun c hc => ?_
  have h := List.all_eq_true.mp h1 c hc
  rcases Bool.eq_false_or_eq_true (isCode c) with hi | hi
  · exact h2 c (List.mem_filter.mpr ⟨hc, hi⟩)
  · simpa [hi] using h
set_option maxRecDepth 65536 in
theorem w_c0 : (Jvm.Cond.code x code maxLocals ret).before args0 about1 = true := code_word (m := ⟨1, 1⟩) (meth := k1m1) (c := k1c1) (by decide +kernel) rfl rfl rfl (by decide +kernel)
set_option maxRecDepth 65536 in
theorem w_c1 : (Jvm.Cond.code ({ cls := "com/example/loginconv/loginconv/AuthorizableKindOfPrimaryTypePinLaw", name := "input", desc := "(IIIIII)Ljava/lang/String;" } : Jvm.MethodName) method_4_code (12 : Nat) (Option.some (Jvm.ClassFile.FieldType.object "java/lang/String"))).before args0 about1 = true := code_word (m := ⟨1, 3⟩) (meth := k1m3) (c := k1c3) (by decide +kernel) rfl rfl rfl (by decide +kernel)
set_option maxRecDepth 65536 in
theorem w_c2 : (Jvm.Cond.code ({ cls := "com/example/loginconv/loginconv/AuthorizableKindOfPrimaryTypePinLaw", name := "reference", desc := "(Ljava/lang/String;)Lcom/example/loginconv/loginconv/AuthorizableKind;" } : Jvm.MethodName) method_3_code (1 : Nat) (Option.some (Jvm.ClassFile.FieldType.object "com/example/loginconv/loginconv/AuthorizableKind"))).before args0 about1 = true := code_word (m := ⟨1, 2⟩) (meth := k1m2) (c := k1c2) (by decide +kernel) rfl rfl rfl (by decide +kernel)
set_option maxRecDepth 65536 in
theorem w_c3 : (Jvm.Cond.code ({ cls := "java/lang/String", name := "equals", desc := "(Ljava/lang/Object;)Z" } : Jvm.MethodName) jdk_42_method_66_code (3 : Nat) (Option.some Jvm.ClassFile.FieldType.boolean)).before args0 about1 = true := code_word (m := ⟨7, 2⟩) (meth := k7m2) (c := k7c2) (by decide +kernel) rfl rfl rfl (by decide +kernel)
set_option maxRecDepth 65536 in
theorem w_c4 : (Jvm.Cond.code ({ cls := "com/example/loginconv/loginconv/AuthorizableKind", name := "ofPrimaryType", desc := "(Ljava/lang/String;)Ljava/util/Optional;" } : Jvm.MethodName) prog_1_method_6_code (5 : Nat) (Option.some (Jvm.ClassFile.FieldType.object "java/util/Optional"))).before args0 about1 = true := code_word (m := ⟨9, 2⟩) (meth := k9m2) (c := k9c2) (by decide +kernel) rfl rfl rfl (by decide +kernel)
set_option maxRecDepth 65536 in
theorem w_c5 : (Jvm.Cond.code ({ cls := "com/example/loginconv/loginconv/AuthorizableKind", name := "values", desc := "()[Lcom/example/loginconv/loginconv/AuthorizableKind;" } : Jvm.MethodName) prog_1_method_1_code (0 : Nat) (Option.some (Jvm.ClassFile.FieldType.array (Jvm.ClassFile.FieldType.object "com/example/loginconv/loginconv/AuthorizableKind")))).before args0 about1 = true := code_word (m := ⟨9, 0⟩) (meth := k9m0) (c := k9c0) (by decide +kernel) rfl rfl rfl (by decide +kernel)
set_option maxRecDepth 65536 in
theorem w_c6 : (Jvm.Cond.code ({ cls := "java/lang/StringLatin1", name := "equals", desc := "([B[B)Z" } : Jvm.MethodName) jdk_43_method_13_code (3 : Nat) (Option.some Jvm.ClassFile.FieldType.boolean)).before args0 about1 = true := code_word (m := ⟨11, 2⟩) (meth := k11m2) (c := k11c2) (by decide +kernel) rfl rfl rfl (by decide +kernel)
set_option maxRecDepth 65536 in
theorem w_c7 : (Jvm.Cond.code ({ cls := "java/util/Optional", name := "of", desc := "(Ljava/lang/Object;)Ljava/util/Optional;" } : Jvm.MethodName) jdk_32_method_3_code (1 : Nat) (Option.some (Jvm.ClassFile.FieldType.object "java/util/Optional"))).before args0 about1 = true := code_word (m := ⟨12, 2⟩) (meth := k12m2) (c := k12c2) (by decide +kernel) rfl rfl rfl (by decide +kernel)
set_option maxRecDepth 65536 in
theorem w_c8 : (Jvm.Cond.code ({ cls := "java/util/Objects", name := "requireNonNull", desc := "(Ljava/lang/Object;)Ljava/lang/Object;" } : Jvm.MethodName) jdk_31_method_10_code (1 : Nat) (Option.some (Jvm.ClassFile.FieldType.object "java/lang/Object"))).before args0 about1 = true := code_word (m := ⟨13, 1⟩) (meth := k13m1) (c := k13c1) (by decide +kernel) rfl rfl rfl (by decide +kernel)
set_option maxRecDepth 65536 in
theorem w_c9 : (Jvm.Cond.code ({ cls := "java/util/Optional", name := "<init>", desc := "(Ljava/lang/Object;)V" } : Jvm.MethodName) jdk_32_method_2_code (2 : Nat) (Option.none : Option Jvm.ClassFile.FieldType)).before args0 about1 = true := code_word (m := ⟨12, 1⟩) (meth := k12m1) (c := k12c1) (by decide +kernel) rfl rfl rfl (by decide +kernel)
set_option maxRecDepth 65536 in
theorem w_c10 : (Jvm.Cond.code ({ cls := "java/lang/Object", name := "<init>", desc := "()V" } : Jvm.MethodName) object_method_1_code (1 : Nat) (Option.none : Option Jvm.ClassFile.FieldType)).before args0 about1 = true := code_word (m := ⟨0, 0⟩) (meth := k0m0) (c := k0c0) (by decide +kernel) rfl rfl rfl (by decide +kernel)
set_option maxRecDepth 65536 in
theorem w_c11 : (Jvm.Cond.code ({ cls := "java/util/Optional", name := "isPresent", desc := "()Z" } : Jvm.MethodName) jdk_32_method_6_code (1 : Nat) (Option.some Jvm.ClassFile.FieldType.boolean)).before args0 about1 = true := code_word (m := ⟨12, 4⟩) (meth := k12m4) (c := k12c4) (by decide +kernel) rfl rfl rfl (by decide +kernel)
set_option maxRecDepth 65536 in
theorem w_c12 : (Jvm.Cond.code ({ cls := "java/util/Optional", name := "get", desc := "()Ljava/lang/Object;" } : Jvm.MethodName) jdk_32_method_5_code (1 : Nat) (Option.some (Jvm.ClassFile.FieldType.object "java/lang/Object"))).before args0 about1 = true := code_word (m := ⟨12, 3⟩) (meth := k12m3) (c := k12c3) (by decide +kernel) rfl rfl rfl (by decide +kernel)
set_option maxRecDepth 65536 in
theorem w_c13 : (Jvm.Cond.code ({ cls := "com/example/loginconv/loginconv/AuthorizableKind", name := "primaryType", desc := "()Ljava/lang/String;" } : Jvm.MethodName) prog_1_method_5_code (1 : Nat) (Option.some (Jvm.ClassFile.FieldType.object "java/lang/String"))).before args0 about1 = true := code_word (m := ⟨9, 1⟩) (meth := k9m1) (c := k9c1) (by decide +kernel) rfl rfl rfl (by decide +kernel)
set_option maxRecDepth 65536 in
theorem w_c14 : (Jvm.Cond.code ({ cls := "java/lang/String", name := "<init>", desc := "([C)V" } : Jvm.MethodName) jdk_42_method_3_code (2 : Nat) (Option.none : Option Jvm.ClassFile.FieldType)).before args0 about1 = true := code_word (m := ⟨7, 1⟩) (meth := k7m1) (c := k7c1) (by decide +kernel) rfl rfl rfl (by decide +kernel)
set_option maxRecDepth 65536 in
theorem w_c15 : (Jvm.Cond.code ({ cls := "java/lang/String", name := "<init>", desc := "([CIILjava/lang/Void;)V" } : Jvm.MethodName) jdk_42_method_149_code (6 : Nat) (Option.none : Option Jvm.ClassFile.FieldType)).before args0 about1 = true := code_word (m := ⟨7, 4⟩) (meth := k7m4) (c := k7c4) (by decide +kernel) rfl rfl rfl (by decide +kernel)
set_option maxRecDepth 65536 in
theorem w_c16 : (Jvm.Cond.code ({ cls := "java/lang/StringUTF16", name := "compress", desc := "([CII)[B" } : Jvm.MethodName) jdk_52_method_16_code (6 : Nat) (Option.some (Jvm.ClassFile.FieldType.array Jvm.ClassFile.FieldType.byte))).before args0 about1 = true := code_word (m := ⟨14, 2⟩) (meth := k14m2) (c := k14c2) (by decide +kernel) rfl rfl rfl (by decide +kernel)
set_option maxRecDepth 65536 in
theorem w_c17 : (Jvm.Cond.code ({ cls := "java/lang/StringUTF16", name := "compress", desc := "([CI[BII)I" } : Jvm.MethodName) jdk_52_method_21_code (7 : Nat) (Option.some Jvm.ClassFile.FieldType.int)).before args0 about1 = true := code_word (m := ⟨14, 3⟩) (meth := k14m3) (c := k14c3) (by decide +kernel) rfl rfl rfl (by decide +kernel)
set_option maxRecDepth 65536 in
theorem w_c18 : (Jvm.Cond.code ({ cls := "java/lang/StringUTF16", name := "coderFromArrayLen", desc := "([BI)B" } : Jvm.MethodName) jdk_52_method_15_code (2 : Nat) (Option.some Jvm.ClassFile.FieldType.byte)).before args0 about1 = true := code_word (m := ⟨14, 1⟩) (meth := k14m1) (c := k14c1) (by decide +kernel) rfl rfl rfl (by decide +kernel)
set_option maxRecDepth 65536 in
theorem w_c19 : (Jvm.Cond.code ({ cls := "java/util/Optional", name := "empty", desc := "()Ljava/util/Optional;" } : Jvm.MethodName) jdk_32_method_1_code (1 : Nat) (Option.some (Jvm.ClassFile.FieldType.object "java/util/Optional"))).before args0 about1 = true := code_word (m := ⟨12, 0⟩) (meth := k12m0) (c := k12c0) (by decide +kernel) rfl rfl rfl (by decide +kernel)
set_option maxRecDepth 65536 in
theorem w_c20 : (Jvm.Cond.code ({ cls := "java/lang/String", name := "valueOf", desc := "(C)Ljava/lang/String;" } : Jvm.MethodName) jdk_42_method_139_code (1 : Nat) (Option.some (Jvm.ClassFile.FieldType.object "java/lang/String"))).before args0 about1 = true := code_word (m := ⟨7, 3⟩) (meth := k7m3) (c := k7c3) (by decide +kernel) rfl rfl rfl (by decide +kernel)
set_option maxRecDepth 65536 in
theorem w_c21 : (Jvm.Cond.code ({ cls := "java/lang/StringLatin1", name := "canEncode", desc := "(C)Z" } : Jvm.MethodName) jdk_43_method_3_code (1 : Nat) (Option.some Jvm.ClassFile.FieldType.boolean)).before args0 about1 = true := code_word (m := ⟨11, 1⟩) (meth := k11m1) (c := k11c1) (by decide +kernel) rfl rfl rfl (by decide +kernel)
set_option maxRecDepth 65536 in
theorem w_c22 : (Jvm.Cond.code ({ cls := "java/lang/StringLatin1", name := "toBytes", desc := "(C)[B" } : Jvm.MethodName) jdk_43_method_46_code (1 : Nat) (Option.some (Jvm.ClassFile.FieldType.array Jvm.ClassFile.FieldType.byte))).before args0 about1 = true := code_word (m := ⟨11, 3⟩) (meth := k11m3) (c := k11c3) (by decide +kernel) rfl rfl rfl (by decide +kernel)
set_option maxRecDepth 65536 in
theorem w_c23 : (Jvm.Cond.code ({ cls := "java/lang/String", name := "<init>", desc := "([BB)V" } : Jvm.MethodName) jdk_42_method_151_code (3 : Nat) (Option.none : Option Jvm.ClassFile.FieldType)).before args0 about1 = true := code_word (m := ⟨7, 5⟩) (meth := k7m5) (c := k7c5) (by decide +kernel) rfl rfl rfl (by decide +kernel)
def codes1 : List Jvm.Cond := [Jvm.Cond.code x code maxLocals ret, Jvm.Cond.code ({ cls := "com/example/loginconv/loginconv/AuthorizableKindOfPrimaryTypePinLaw", name := "input", desc := "(IIIIII)Ljava/lang/String;" } : Jvm.MethodName) method_4_code (12 : Nat) (Option.some (Jvm.ClassFile.FieldType.object "java/lang/String")), Jvm.Cond.code ({ cls := "com/example/loginconv/loginconv/AuthorizableKindOfPrimaryTypePinLaw", name := "reference", desc := "(Ljava/lang/String;)Lcom/example/loginconv/loginconv/AuthorizableKind;" } : Jvm.MethodName) method_3_code (1 : Nat) (Option.some (Jvm.ClassFile.FieldType.object "com/example/loginconv/loginconv/AuthorizableKind")), Jvm.Cond.code ({ cls := "java/lang/String", name := "equals", desc := "(Ljava/lang/Object;)Z" } : Jvm.MethodName) jdk_42_method_66_code (3 : Nat) (Option.some Jvm.ClassFile.FieldType.boolean), Jvm.Cond.code ({ cls := "com/example/loginconv/loginconv/AuthorizableKind", name := "ofPrimaryType", desc := "(Ljava/lang/String;)Ljava/util/Optional;" } : Jvm.MethodName) prog_1_method_6_code (5 : Nat) (Option.some (Jvm.ClassFile.FieldType.object "java/util/Optional")), Jvm.Cond.code ({ cls := "com/example/loginconv/loginconv/AuthorizableKind", name := "values", desc := "()[Lcom/example/loginconv/loginconv/AuthorizableKind;" } : Jvm.MethodName) prog_1_method_1_code (0 : Nat) (Option.some (Jvm.ClassFile.FieldType.array (Jvm.ClassFile.FieldType.object "com/example/loginconv/loginconv/AuthorizableKind"))), Jvm.Cond.code ({ cls := "java/lang/StringLatin1", name := "equals", desc := "([B[B)Z" } : Jvm.MethodName) jdk_43_method_13_code (3 : Nat) (Option.some Jvm.ClassFile.FieldType.boolean), Jvm.Cond.code ({ cls := "java/util/Optional", name := "of", desc := "(Ljava/lang/Object;)Ljava/util/Optional;" } : Jvm.MethodName) jdk_32_method_3_code (1 : Nat) (Option.some (Jvm.ClassFile.FieldType.object "java/util/Optional")), Jvm.Cond.code ({ cls := "java/util/Objects", name := "requireNonNull", desc := "(Ljava/lang/Object;)Ljava/lang/Object;" } : Jvm.MethodName) jdk_31_method_10_code (1 : Nat) (Option.some (Jvm.ClassFile.FieldType.object "java/lang/Object")), Jvm.Cond.code ({ cls := "java/util/Optional", name := "<init>", desc := "(Ljava/lang/Object;)V" } : Jvm.MethodName) jdk_32_method_2_code (2 : Nat) (Option.none : Option Jvm.ClassFile.FieldType), Jvm.Cond.code ({ cls := "java/lang/Object", name := "<init>", desc := "()V" } : Jvm.MethodName) object_method_1_code (1 : Nat) (Option.none : Option Jvm.ClassFile.FieldType), Jvm.Cond.code ({ cls := "java/util/Optional", name := "isPresent", desc := "()Z" } : Jvm.MethodName) jdk_32_method_6_code (1 : Nat) (Option.some Jvm.ClassFile.FieldType.boolean), Jvm.Cond.code ({ cls := "java/util/Optional", name := "get", desc := "()Ljava/lang/Object;" } : Jvm.MethodName) jdk_32_method_5_code (1 : Nat) (Option.some (Jvm.ClassFile.FieldType.object "java/lang/Object")), Jvm.Cond.code ({ cls := "com/example/loginconv/loginconv/AuthorizableKind", name := "primaryType", desc := "()Ljava/lang/String;" } : Jvm.MethodName) prog_1_method_5_code (1 : Nat) (Option.some (Jvm.ClassFile.FieldType.object "java/lang/String")), Jvm.Cond.code ({ cls := "java/lang/String", name := "<init>", desc := "([C)V" } : Jvm.MethodName) jdk_42_method_3_code (2 : Nat) (Option.none : Option Jvm.ClassFile.FieldType), Jvm.Cond.code ({ cls := "java/lang/String", name := "<init>", desc := "([CIILjava/lang/Void;)V" } : Jvm.MethodName) jdk_42_method_149_code (6 : Nat) (Option.none : Option Jvm.ClassFile.FieldType), Jvm.Cond.code ({ cls := "java/lang/StringUTF16", name := "compress", desc := "([CII)[B" } : Jvm.MethodName) jdk_52_method_16_code (6 : Nat) (Option.some (Jvm.ClassFile.FieldType.array Jvm.ClassFile.FieldType.byte)), Jvm.Cond.code ({ cls := "java/lang/StringUTF16", name := "compress", desc := "([CI[BII)I" } : Jvm.MethodName) jdk_52_method_21_code (7 : Nat) (Option.some Jvm.ClassFile.FieldType.int), Jvm.Cond.code ({ cls := "java/lang/StringUTF16", name := "coderFromArrayLen", desc := "([BI)B" } : Jvm.MethodName) jdk_52_method_15_code (2 : Nat) (Option.some Jvm.ClassFile.FieldType.byte), Jvm.Cond.code ({ cls := "java/util/Optional", name := "empty", desc := "()Ljava/util/Optional;" } : Jvm.MethodName) jdk_32_method_1_code (1 : Nat) (Option.some (Jvm.ClassFile.FieldType.object "java/util/Optional")), Jvm.Cond.code ({ cls := "java/lang/String", name := "valueOf", desc := "(C)Ljava/lang/String;" } : Jvm.MethodName) jdk_42_method_139_code (1 : Nat) (Option.some (Jvm.ClassFile.FieldType.object "java/lang/String")), Jvm.Cond.code ({ cls := "java/lang/StringLatin1", name := "canEncode", desc := "(C)Z" } : Jvm.MethodName) jdk_43_method_3_code (1 : Nat) (Option.some Jvm.ClassFile.FieldType.boolean), Jvm.Cond.code ({ cls := "java/lang/StringLatin1", name := "toBytes", desc := "(C)[B" } : Jvm.MethodName) jdk_43_method_46_code (1 : Nat) (Option.some (Jvm.ClassFile.FieldType.array Jvm.ClassFile.FieldType.byte)), Jvm.Cond.code ({ cls := "java/lang/String", name := "<init>", desc := "([BB)V" } : Jvm.MethodName) jdk_42_method_151_code (3 : Nat) (Option.none : Option Jvm.ClassFile.FieldType)]
set_option maxRecDepth 65536 in
theorem codes_eq : words1.filter isCode = codes1 := rfl
theorem w_codes : ∀ c ∈ words1.filter isCode, c.before args0 about1 = true := by
  rw [codes_eq]
  intro c hc
  simp only [codes1, List.mem_cons, List.not_mem_nil, or_false] at hc
  rcases hc with rfl | rfl | rfl | rfl | rfl | rfl | rfl | rfl | rfl | rfl | rfl | rfl | rfl | rfl | rfl | rfl | rfl | rfl | rfl | rfl | rfl | rfl | rfl | rfl
  · exact w_c0
  · exact w_c1
  · exact w_c2
  · exact w_c3
  · exact w_c4
  · exact w_c5
  · exact w_c6
  · exact w_c7
  · exact w_c8
  · exact w_c9
  · exact w_c10
  · exact w_c11
  · exact w_c12
  · exact w_c13
  · exact w_c14
  · exact w_c15
  · exact w_c16
  · exact w_c17
  · exact w_c18
  · exact w_c19
  · exact w_c20
  · exact w_c21
  · exact w_c22
  · exact w_c23
set_option maxRecDepth 65536 in
theorem w_t1 : (words1.take 24).all (fun c => isCode c || c.before args0 about1) = true := by decide +kernel
set_option maxRecDepth 65536 in
theorem w_t2 : ((words1.drop 24).take 24).all (fun c => isCode c || c.before args0 about1) = true := by decide +kernel
set_option maxRecDepth 65536 in
theorem w_t3 : (((words1.drop 24).drop 24).take 24).all (fun c => isCode c || c.before args0 about1) = true := by decide +kernel
set_option maxRecDepth 65536 in
theorem w_t4 : ((((words1.drop 24).drop 24).drop 24).take 24).all (fun c => isCode c || c.before args0 about1) = true := by decide +kernel
set_option maxRecDepth 65536 in
theorem w_t5 : (((((words1.drop 24).drop 24).drop 24).drop 24).take 24).all (fun c => isCode c || c.before args0 about1) = true := by decide +kernel
set_option maxRecDepth 65536 in
theorem w_t6 : (((((words1.drop 24).drop 24).drop 24).drop 24).drop 24).all (fun c => isCode c || c.before args0 about1) = true := by decide +kernel
theorem w_tables : (allAtoms (Jvm.Cond.code x code maxLocals ret :: tables_1)).before args0 about1 = true := by
  rw [allAtoms_all]
  show words1.all (fun c => c.before args0 about1) = true
  refine all_split ?_ w_codes
  rw [← List.take_append_drop 24 words1, List.all_append, w_t1, ← List.take_append_drop 24 (words1.drop 24), List.all_append, w_t2, ← List.take_append_drop 24 ((words1.drop 24).drop 24), List.all_append, w_t3, ← List.take_append_drop 24 (((words1.drop 24).drop 24).drop 24), List.all_append, w_t4, ← List.take_append_drop 24 ((((words1.drop 24).drop 24).drop 24).drop 24), List.all_append, w_t5, w_t6]
  rfl
set_option maxRecDepth 65536 in
theorem w_rest : rest_1_c.before args0 about1 = true := by decide +kernel
set_option maxRecDepth 65536 in
theorem w_case : (Jvm.Cond.and given_1 narrow_1).before args0 about1 = true := by decide +kernel
set_option maxRecDepth 65536 in
theorem w_consts : constsHeld consts_1 about1 := Jvm.Lit.constsHeldB_iff.mp (by decide +kernel)
theorem w_applies : (headSpec (Jvm.Cond.code x code maxLocals ret :: tables_1) room_1).applies x e0.platform about1 = true :=
  (Spec.applies_iff w_frames).mpr ⟨w_running, w_runnable, w_alone, w_named, w_hears, w_ripe, w_room, w_tables⟩
theorem atStart : AtStart classFile x code maxLocals ret World_1 tables_1 room_1 Calls_1 rest_1 Pre_1 launch0 p0 e0 about1 theMethod args0 below0 :=
  ⟨lists_1, trivial, launch0.admits_env _ _ _, launch0.least_env, fairChoices_fair.cas, fairChoices_fair.clock, w_frames, w_args, w_heap, w_applies, ⟨w_consts, trivial⟩, w_rest, w_case⟩
end start1
theorem witness_1 : WitnessClaimed_1 := ⟨start1.p0, start1.e0, start1.about1, start1.theMethod, start1.args0, start1.below0, start1.atStart⟩
end Jvm.Pilot.@@N@@
