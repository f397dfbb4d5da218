import JvmDerived
import JvmDerived.Pilot.@@N@@Statement
import JvmDerived.Pilot.@@N@@Code
set_option linter.unusedVariables false
set_option linter.unusedSimpArgs false
/- laws to paste: Road.backV, Road.eqW, Road.codOf (cut by pick.py; bodies as the Statement names them) -/
namespace Jvm.Pilot.@@N@@
namespace StrChars
open Jvm Sem ClassFile Op Lib Jvm.Stand Jvm.Free.XT Jvm.Free.ALB Jvm.Free.JM Jvm.Free
open Jvm.Lib.Cold (StaticIs)
/-- a char array whose places are chars -/
def Ch (a : Addr) (A : Cell) (U : State) : Prop := Arr .char a A U ∧ Typed .char A
theorem Ch.mv {a : Addr} {A : Cell} {U U' : State} (h : Ch a A U) (hal : U.vm.Alike U'.vm) (hh : U'.heap = U.heap) : Ch a A U' := ⟨h.1.mv hal hh, h.2⟩
theorem Ch.keep {a : Addr} {A : Cell} {U U' : State} (h : Ch a A U) (hal : U.vm.Alike U'.vm) (hk : U'.heap[a]? = some A) : Ch a A U' := ⟨h.1.keep hal hk, h.2⟩
/-- what place i of a char[]'s cell holds -/
def cv (A : Cell) (i : Nat) : Int32 := match A.slots[i]? with | some (.int x) => x | _ => 0
theorem Ch.get {a : Addr} {A : Cell} {U : State} (h : Ch a A U) {i : Nat} (hi : i < A.slots.size) : A.slots[i]? = some (.int (cv A i)) := by
  have e := Array.getElem?_eq_getElem hi
  have f := h.2 i _ e
  unfold cv; rw [e]
  generalize A.slots[i] = v at f
  cases v <;> simp [fits] at f ⊢
/-- the byte that i2b leaves of a char -/
def lo8 (x : Int32) : Int32 := x.toInt8.toInt32
theorem fits_lo8 (y : Int32) : fits .byte (.int (lo8 y)) = true := by
  have h1 := y.toInt8.le_toInt
  have h2 := y.toInt8.toInt_lt
  simp only [lo8, fits, Bool.and_eq_true, decide_eq_true_eq, Int32.le_iff_toInt_le, Int8.toInt_toInt32, show (-128 : Int32).toInt = -128 from by decide, show (127 : Int32).toInt = 127 from by decide]
  omega
/-- A' is A but that each place j of lo .. hi - 1 holds f j -/
def Laid (A A' : Cell) (lo hi : Nat) (f : Nat → Value) : Prop := A'.cls = A.cls ∧ A'.vm = A.vm ∧ A'.slots.size = A.slots.size ∧ ∀ i, A'.slots[i]? = if lo ≤ i ∧ i < hi then some (f i) else A.slots[i]?
theorem Laid.zero (A : Cell) (lo : Nat) (f : Nat → Value) : Laid A A lo (lo + 0) f := ⟨rfl, rfl, rfl, fun i => by rw [if_neg (by omega)]⟩
theorem Laid.step {A Ak : Cell} {lo k : Nat} {f : Nat → Value} {v : Value} (h : Laid A Ak lo k f) (hlo : lo ≤ k) (hk : k < Ak.slots.size) (hv : v = f k) : Laid A (Ak.setSlot k v) lo (k + 1) f := by
  refine ⟨h.1, h.2.1, by simpa [Cell.setSlot] using h.2.2.1, fun i => ?_⟩
  by_cases e : k = i
  · subst e; rw [Cell.slots_setSlot_self v hk, if_pos (by omega), hv]
  · rw [Cell.slots_setSlot_ne v e, h.2.2.2 i]
    by_cases q : lo ≤ i ∧ i < k
    · rw [if_pos q, if_pos (by omega)]
    · rw [if_neg q, if_neg (by omega)]
def U16 : String := "java/lang/StringUTF16"
namespace Cmp5
def yN : MethodName := ⟨"java/lang/StringUTF16", "compress", "([CI[BII)I"⟩
abbrev yB : ByteArray := jdk_52_method_21_code
theorem d0 : decode yB 0 = .ok (.iconst 0, 1) := by decide +kernel
theorem d1 : decode yB 1 = .ok (.istore 5, 2) := by decide +kernel
theorem d3 : decode yB 3 = .ok (.iload 5, 2) := by decide +kernel
theorem d5 : decode yB 5 = .ok (.iload 4, 2) := by decide +kernel
theorem d7 : decode yB 7 = .ok (.if_icmp (.ge) 37, 3) := by decide +kernel
theorem d10 : decode yB 10 = .ok (.aload_n 0, 1) := by decide +kernel
theorem d11 : decode yB 11 = .ok (.iload_n 1, 1) := by decide +kernel
theorem d12 : decode yB 12 = .ok (.caload, 1) := by decide +kernel
theorem d13 : decode yB 13 = .ok (.istore 6, 2) := by decide +kernel
theorem d15 : decode yB 15 = .ok (.iload 6, 2) := by decide +kernel
theorem d17 : decode yB 17 = .ok (.sipush 255, 3) := by decide +kernel
theorem d20 : decode yB 20 = .ok (.if_icmp (.le) 6, 3) := by decide +kernel
theorem d26 : decode yB 26 = .ok (.aload_n 2, 1) := by decide +kernel
theorem d27 : decode yB 27 = .ok (.iload_n 3, 1) := by decide +kernel
theorem d28 : decode yB 28 = .ok (.iload 6, 2) := by decide +kernel
theorem d30 : decode yB 30 = .ok (.i2b, 1) := by decide +kernel
theorem d31 : decode yB 31 = .ok (.bastore, 1) := by decide +kernel
theorem d32 : decode yB 32 = .ok (.iinc 1 1, 3) := by decide +kernel
theorem d35 : decode yB 35 = .ok (.iinc 3 1, 3) := by decide +kernel
theorem d38 : decode yB 38 = .ok (.iinc 5 1, 3) := by decide +kernel
theorem d41 : decode yB 41 = .ok (.goto (-38), 3) := by decide +kernel
theorem d44 : decode yB 44 = .ok (.iload 4, 2) := by decide +kernel
theorem d46 : decode yB 46 = .ok (.ireturn, 1) := by decide +kernel
def site : List Cond := []
def tab : Cond := tabOf yN yB 7 (some .int) site
def P (b : Addr) (A : Cell) (d : Addr) (B : Cell) (o q len : Nat) (args : Array Value) (s : State) : Prop := args = #[.ref b, .int (Int32.ofNat o), .ref d, .int (Int32.ofNat q), .int (Int32.ofNat len)] ∧ Ch b A s ∧ Arr .byte d B s ∧ b ≠ d ∧ o + len ≤ A.slots.size ∧ q + len ≤ B.slots.size ∧ ∀ i, i < len → ¬ 255 < cv A (o + i)
def E (b : Addr) (A : Cell) (d : Addr) (B : Cell) (o q len : Nat) (r : Option Value) (s u : State) : Prop := r = some (.int (Int32.ofNat len)) ∧ ∃ B', Put d B' s u ∧ Laid B B' q (q + len) (fun j => Value.int (lo8 (cv A (o + (j - q)))))
/-- no char of the range above 255: len; the places written hold each char's low byte -/
theorem law (l : Launch) (b : Addr) (A : Cell) (d : Addr) (B : Cell) (o q len : Nat) : Law l yN 5 5 0 0 yB 7 (some .int) site (P b A d B o q len) (E b A d B o q len) (copyLocs d q len) 0 0 := by
  refine Law.of_walk (plainFor_of_name (by decide +kernel)) (by decide +kernel) (by decide +kernel) (by decide) (fun _ _ h => by rw [h.1]; rfl) (fun _ U U' hal hh h => ⟨h.1, h.2.1.mv hal hh, h.2.2.1.mv hal hh, h.2.2.2⟩) (fun r U U' V V' h1 hal h2 h => ⟨h.1, h.2.elim fun B' q => ⟨B', q.1.mv h1 h2, q.2⟩⟩) ?_
  intro p e s m args below meth c s₁ X0 hexec hbytes hml hret hlk hnm hown hh0 W hP
  obtain ⟨rfl, hA, hB, hne, l1, l2, hp⟩ := hP
  have c1 : Steps p.tables e below (s₁.setTop (entryFrame m #[.ref b, .int (Int32.ofNat o), .ref d, .int (Int32.ofNat q), .int (Int32.ofNat len)] 7)) (s₁.setTop (mkF m 0 #[.val (.ref b), .val (.int (Int32.ofNat o)), .val (.ref d), .val (.int (Int32.ofNat q)), .val (.int (Int32.ofNat len)), .unset, .unset] [])) := entry rfl
  have hA0 := hA.1.mv X0.warmed.alike hh0
  have hB0 := hB.mv X0.warmed.alike hh0
  have a31 := hA.1.2.2.2
  have c2 : Steps p.tables e below (s₁.setTop (entryFrame m #[.ref b, .int (Int32.ofNat o), .ref d, .int (Int32.ofNat q), .int (Int32.ofNat len)] 7)) (s₁.setTop (mkF m 3 #[.val (.ref b), .val (.int (Int32.ofNat o)), .val (.ref d), .val (.int (Int32.ofNat q)), .val (.int (Int32.ofNat len)), .val (.int 0), .unset] [])) := c1.trans (by
    refine iconstV X0.here hexec rfl 0 (hb hbytes d0) (by decide) ?_
    refine XS.istore X0.here hexec rfl (hb hbytes d1) rfl rfl ?_
    exact Steps.refl _)
  have loop : ∀ (r i : Nat), i + r = len → ∀ (z : Slot), (z = .unset ∨ ∃ w, z = .val w ∧ w.category = 1) → ∀ (Tl : State) (Bk : Cell), Stand p l e { frames := 0, locals := 0, cells := 0, slots := 0 } s m #[.ref b, .int (Int32.ofNat o), .ref d, .int (Int32.ofNat q), .int (Int32.ofNat len)] below meth c Tl ([] ++ copyLocs d q i) 0 0 → Put d Bk s₁ Tl → Laid B Bk q (q + i) (fun j => Value.int (lo8 (cv A (o + (j - q))))) →
      Steps p.tables e below (s₁.setTop (entryFrame m #[.ref b, .int (Int32.ofNat o), .ref d, .int (Int32.ofNat q), .int (Int32.ofNat len)] 7)) (Tl.setTop (mkF m 3 #[.val (.ref b), .val (.int (Int32.ofNat (o + i))), .val (.ref d), .val (.int (Int32.ofNat (q + i))), .val (.int (Int32.ofNat len)), .val (.int (Int32.ofNat i)), z] [])) → ∃ (T' : State) (B' : Cell) (z' : Slot), Stand p l e { frames := 0, locals := 0, cells := 0, slots := 0 } s m #[.ref b, .int (Int32.ofNat o), .ref d, .int (Int32.ofNat q), .int (Int32.ofNat len)] below meth c T' ([] ++ copyLocs d q len) 0 0 ∧ Put d B' s₁ T' ∧ Laid B B' q (q + len) (fun j => Value.int (lo8 (cv A (o + (j - q))))) ∧
      Steps p.tables e below (s₁.setTop (entryFrame m #[.ref b, .int (Int32.ofNat o), .ref d, .int (Int32.ofNat q), .int (Int32.ofNat len)] 7)) (T'.setTop (mkF m 3 #[.val (.ref b), .val (.int (Int32.ofNat (o + len))), .val (.ref d), .val (.int (Int32.ofNat (q + len))), .val (.int (Int32.ofNat len)), .val (.int (Int32.ofNat len)), z'] [])) := by
    intro r
    induction r with
    | zero =>
      intro i hi z hz Tl Bk Xl pl fl cl
      have hil : i = len := by omega
      rw [hil] at Xl fl cl
      exact ⟨Tl, Bk, z, Xl, pl, fl, cl⟩
    | succ r ih =>
      intro i hi z hz Tl Bk Xl pl fl cl
      have all := X0.warmed.alike.symm.trans Xl.warmed.alike
      have hAl := hA0.keep all (pl.other hne hA0.1)
      have hBk := hB0.like all pl.1 fl.1 fl.2.1 fl.2.2.1
      have hlt : q + i < Bk.slots.size := by rw [fl.2.2.1]; omega
      have c3 : Steps p.tables e below (s₁.setTop (entryFrame m #[.ref b, .int (Int32.ofNat o), .ref d, .int (Int32.ofNat q), .int (Int32.ofNat len)] 7)) (Tl.setTop (mkF m 12 #[.val (.ref b), .val (.int (Int32.ofNat (o + i))), .val (.ref d), .val (.int (Int32.ofNat (q + i))), .val (.int (Int32.ofNat len)), .val (.int (Int32.ofNat i)), z] [.int (Int32.ofNat (o + i)), .ref b])) := cl.trans (by
        refine XS.iload Xl.here hexec rfl (hb hbytes d3) rfl ?_
        refine XS.iload Xl.here hexec rfl (hb hbytes d5) rfl ?_
        refine XS.icmpNo Xl.here hexec rfl (hb hbytes d7) rfl (ii_ge_f (lt32 (by omega) (by omega))) ?_
        refine XS.aloadN Xl.here hexec rfl (hb hbytes d10) rfl rfl ?_
        refine XS.iloadN Xl.here hexec rfl (hb hbytes d11) rfl ?_
        exact Steps.refl _)
      have c4 : Steps p.tables e below (s₁.setTop (entryFrame m #[.ref b, .int (Int32.ofNat o), .ref d, .int (Int32.ofNat q), .int (Int32.ofNat len)] 7)) (Tl.setTop (mkF m 13 #[.val (.ref b), .val (.int (Int32.ofNat (o + i))), .val (.ref d), .val (.int (Int32.ofNat (q + i))), .val (.int (Int32.ofNat len)), .val (.int (Int32.ofNat i)), z] [.int (cv A (o + i))])) := c3.trans (by
        refine Xl.aget hexec hAl rfl (hA.get (i := o + i) (by omega)) rfl rfl (hb hbytes d12) ?_
        exact Steps.refl _)
      have c5 : Steps p.tables e below (s₁.setTop (entryFrame m #[.ref b, .int (Int32.ofNat o), .ref d, .int (Int32.ofNat q), .int (Int32.ofNat len)] 7)) (Tl.setTop (mkF m 15 #[.val (.ref b), .val (.int (Int32.ofNat (o + i))), .val (.ref d), .val (.int (Int32.ofNat (q + i))), .val (.int (Int32.ofNat len)), .val (.int (Int32.ofNat i)), .val (.int (cv A (o + i)))] [])) := c4.trans (by
        refine XS.istoreS Xl.here hexec rfl (hb hbytes d13) rfl rfl hz ?_
        exact Steps.refl _)
      have c6 : Steps p.tables e below (s₁.setTop (entryFrame m #[.ref b, .int (Int32.ofNat o), .ref d, .int (Int32.ofNat q), .int (Int32.ofNat len)] 7)) (Tl.setTop (mkF m 31 #[.val (.ref b), .val (.int (Int32.ofNat (o + i))), .val (.ref d), .val (.int (Int32.ofNat (q + i))), .val (.int (Int32.ofNat len)), .val (.int (Int32.ofNat i)), .val (.int (cv A (o + i)))] [.int (lo8 (cv A (o + i))), .int (Int32.ofNat (q + i)), .ref d])) := c5.trans (by
        refine XS.iload Xl.here hexec rfl (hb hbytes d15) rfl ?_
        refine sipushV Xl.here hexec rfl 255 (hb hbytes d17) (by decide) ?_
        refine XS.icmpYes Xl.here hexec rfl (pc0 := 20) rfl (hb hbytes d20) rfl (ii_le_t (hp i (by omega))) (by decide) rfl ?_
        refine XS.aloadN Xl.here hexec rfl (hb hbytes d26) rfl rfl ?_
        refine XS.iloadN Xl.here hexec rfl (hb hbytes d27) rfl ?_
        refine XS.iload Xl.here hexec rfl (hb hbytes d28) rfl ?_
        refine i2b Xl.here hexec rfl (hb hbytes d30) rfl ?_
        exact Steps.refl _)
      obtain ⟨T7, X7, p7, st7⟩ := Xl.aput hexec hBk rfl hlt rfl (fits_lo8 (cv A (o + i))) (g := (mkF m 31 #[.val (.ref b), .val (.int (Int32.ofNat (o + i))), .val (.ref d), .val (.int (Int32.ofNat (q + i))), .val (.int (Int32.ofNat len)), .val (.int (Int32.ofNat i)), .val (.int (cv A (o + i)))] [.int (lo8 (cv A (o + i))), .int (Int32.ofNat (q + i)), .ref d])) rfl (rest := []) rfl (hb hbytes d31)
      have c8 : Steps p.tables e below (s₁.setTop (entryFrame m #[.ref b, .int (Int32.ofNat o), .ref d, .int (Int32.ofNat q), .int (Int32.ofNat len)] 7)) (T7.setTop (mkF m 32 #[.val (.ref b), .val (.int (Int32.ofNat (o + i))), .val (.ref d), .val (.int (Int32.ofNat (q + i))), .val (.int (Int32.ofNat len)), .val (.int (Int32.ofNat i)), .val (.int (cv A (o + i)))] [])) := c6.trans (st7 _ (Steps.refl _))
      have c9 : Steps p.tables e below (s₁.setTop (entryFrame m #[.ref b, .int (Int32.ofNat o), .ref d, .int (Int32.ofNat q), .int (Int32.ofNat len)] 7)) (T7.setTop (mkF m 3 #[.val (.ref b), .val (.int (Int32.ofNat (o + i) + 1)), .val (.ref d), .val (.int (Int32.ofNat (q + i) + 1)), .val (.int (Int32.ofNat len)), .val (.int (Int32.ofNat i + 1)), .val (.int (cv A (o + i)))] [])) := c8.trans (by
        refine iincV X7.here hexec rfl 1 (hb hbytes d32) (by decide) rfl rfl ?_
        refine iincV X7.here hexec rfl 1 (hb hbytes d35) (by decide) rfl rfl ?_
        refine iincV X7.here hexec rfl 1 (hb hbytes d38) (by decide) rfl rfl ?_
        refine XS.goto X7.here hexec rfl (pc0 := 41) rfl (hb hbytes d41) (by decide) rfl ?_
        exact Steps.refl _)
      have c10 : Steps p.tables e below (s₁.setTop (entryFrame m #[.ref b, .int (Int32.ofNat o), .ref d, .int (Int32.ofNat q), .int (Int32.ofNat len)] 7)) (T7.setTop (mkF m 3 #[.val (.ref b), .val (.int (Int32.ofNat (o + (i + 1)))), .val (.ref d), .val (.int (Int32.ofNat (q + (i + 1)))), .val (.int (Int32.ofNat len)), .val (.int (Int32.ofNat (i + 1))), .val (.int (cv A (o + i)))] [])) := by
        have := c9
        rw [succ32, succ32, succ32] at this
        exact this
      exact ih (i + 1) (by omega) _ (Or.inr ⟨_, rfl, rfl⟩) T7 _ (by rw [copyLocs_step, ← List.append_assoc]; exact X7) (pl.trans p7) (fl.step (by omega) hlt (by simp)) c10
  obtain ⟨T9, B9, z9, X9, p9, f9, g9⟩ := loop len 0 (by omega) .unset (Or.inl rfl) s₁ B (by simpa [copyLocs] using X0) ⟨hB0.1, fun _ _ => rfl, rfl⟩ (Laid.zero _ _ _) c2
  have c11 : Steps p.tables e below (s₁.setTop (entryFrame m #[.ref b, .int (Int32.ofNat o), .ref d, .int (Int32.ofNat q), .int (Int32.ofNat len)] 7)) (T9.setTop (mkF m 46 #[.val (.ref b), .val (.int (Int32.ofNat (o + len))), .val (.ref d), .val (.int (Int32.ofNat (q + len))), .val (.int (Int32.ofNat len)), .val (.int (Int32.ofNat len)), z9] [.int (Int32.ofNat len)])) := g9.trans (by
    refine XS.iload X9.here hexec rfl (hb hbytes d3) rfl ?_
    refine XS.iload X9.here hexec rfl (hb hbytes d5) rfl ?_
    refine XS.icmpYes X9.here hexec rfl (pc0 := 7) rfl (hb hbytes d7) rfl (ii_ge_t (nlt32 (by omega) (Nat.le_refl _))) (by decide) rfl ?_
    refine XS.iload X9.here hexec rfl (hb hbytes d44) rfl ?_
    exact Steps.refl _)
  exact ⟨T9, some (.int (Int32.ofNat len)), _, _, _, X9, by simp, rfl, rfl, (fun h => by cases h), ⟨rfl, B9, p9.from hh0, f9⟩, fun fs hl => c11.trans (X9.ireturnOut hexec hret rfl (Or.inl rfl) (hb hbytes d46) hl)⟩
end Cmp5
namespace Cmp3
def yN : MethodName := ⟨"java/lang/StringUTF16", "compress", "([CII)[B"⟩
abbrev yB : ByteArray := jdk_52_method_16_code
theorem d0 : decode yB 0 = .ok (.iload_n 2, 1) := by decide +kernel
theorem d1 : decode yB 1 = .ok (.newarray .byte, 2) := by decide +kernel
theorem d3 : decode yB 3 = .ok (.astore_n 3, 1) := by decide +kernel
theorem d4 : decode yB 4 = .ok (.aload_n 0, 1) := by decide +kernel
theorem d5 : decode yB 5 = .ok (.iload_n 1, 1) := by decide +kernel
theorem d6 : decode yB 6 = .ok (.aload_n 3, 1) := by decide +kernel
theorem d7 : decode yB 7 = .ok (.iconst 0, 1) := by decide +kernel
theorem d8 : decode yB 8 = .ok (.iload_n 2, 1) := by decide +kernel
theorem d9 : decode yB 9 = .ok (.invokestatic 115, 3) := by decide +kernel
theorem d12 : decode yB 12 = .ok (.istore 4, 2) := by decide +kernel
theorem d14 : decode yB 14 = .ok (.iload 4, 2) := by decide +kernel
theorem d16 : decode yB 16 = .ok (.iload_n 2, 1) := by decide +kernel
theorem d17 : decode yB 17 = .ok (.if_icmp (.eq) 40, 3) := by decide +kernel
theorem d57 : decode yB 57 = .ok (.aload_n 3, 1) := by decide +kernel
theorem d58 : decode yB 58 = .ok (.areturn, 1) := by decide +kernel
def site : List Cond := [.arrayClass .byte, Cmp5.tab] ++ staticW U16 115 Cmp5.yN
def tab : Cond := tabOf yN yB 6 (some (.array .byte)) site
def P (b : Addr) (A : Cell) (o len : Nat) (args : Array Value) (s : State) : Prop := args = #[.ref b, .int (Int32.ofNat o), .int (Int32.ofNat len)] ∧ Ch b A s ∧ o + len ≤ A.slots.size ∧ len ≤ 536870912 ∧ ∀ i, i < len → ¬ 255 < cv A (o + i)
def E (b : Addr) (A : Cell) (o len : Nat) (r : Option Value) (s u : State) : Prop := NewArr .byte "[B" len (fun j => .int (lo8 (cv A (o + j)))) r s u ∧ u.heap.size = s.heap.size + 1
/-- no char of the range above 255: a new byte[] of their low bytes -/
theorem law (l : Launch) (b : Addr) (A : Cell) (o len : Nat) : Law l yN 3 3 1 18 yB 6 (some (.array .byte)) site (P b A o len) (E b A o len) [] 1 len := by
  refine Law.of_walk (plainFor_of_name (by decide +kernel)) (by decide +kernel) (by decide +kernel) (by decide) (fun _ _ h => by rw [h.1]; rfl) (fun _ U U' hal hh h => ⟨h.1, h.2.1.mv hal hh, h.2.2⟩) (fun r U U' V V' h1 hal h2 h => ⟨NewArr.mv r U U' V V' h1 hal h2 h.1, by rw [h1, h2]; exact h.2⟩) ?_
  intro p e s m args below meth c s₁ X0 hexec hbytes hml hret hlk hnm hown hh0 W hP
  obtain ⟨rfl, hA, l1, l2, hp⟩ := hP
  have a31 := hA.1.2.2.2
  have c1 : Steps p.tables e below (s₁.setTop (entryFrame m #[.ref b, .int (Int32.ofNat o), .int (Int32.ofNat len)] 6)) (s₁.setTop (mkF m 0 #[.val (.ref b), .val (.int (Int32.ofNat o)), .val (.int (Int32.ofNat len)), .unset, .unset, .unset] [])) := entry rfl
  have c2 : Steps p.tables e below (s₁.setTop (entryFrame m #[.ref b, .int (Int32.ofNat o), .int (Int32.ofNat len)] 6)) (s₁.setTop (mkF m 1 #[.val (.ref b), .val (.int (Int32.ofNat o)), .val (.int (Int32.ofNat len)), .unset, .unset, .unset] [.int (Int32.ofNat len)])) := c1.trans (by
    refine XS.iloadN X0.here hexec rfl (hb hbytes d0) rfl ?_
    exact Steps.refl _)
  obtain ⟨T3, B3, X3, ba3, bs3, bv3, bh3, bf3, st3⟩ := X0.anew hexec (atype := .byte) (wk W (.arrayClass .byte)) rfl (by show len * 1 ≤ _; omega) (by omega) (g := (mkF m 1 #[.val (.ref b), .val (.int (Int32.ofNat o)), .val (.int (Int32.ofNat len)), .unset, .unset, .unset] [.int (Int32.ofNat len)])) rfl (hb hbytes d1) (rest := []) rfl (Nat.le_refl _) (by show 0 + len ≤ len; omega)
  rw [hh0] at ba3 st3
  have kp3 : XT.Kept s T3 := (XT.Kept.of_eq hh0).push bh3
  have hA3 := hA.keep X3.warmed.alike (kp3 _ _ hA.1.1)
  have hne : b ≠ s.heap.size := hA.1.ne
  have c4 : Steps p.tables e below (s₁.setTop (entryFrame m #[.ref b, .int (Int32.ofNat o), .int (Int32.ofNat len)] 6)) (T3.setTop (mkF m 3 #[.val (.ref b), .val (.int (Int32.ofNat o)), .val (.int (Int32.ofNat len)), .unset, .unset, .unset] [.ref s.heap.size])) := c2.trans (st3 _ (Steps.refl _))
  have c5 : Steps p.tables e below (s₁.setTop (entryFrame m #[.ref b, .int (Int32.ofNat o), .int (Int32.ofNat len)] 6)) (T3.setTop (mkF m 9 #[.val (.ref b), .val (.int (Int32.ofNat o)), .val (.int (Int32.ofNat len)), .val (.ref s.heap.size), .unset, .unset] [.int (Int32.ofNat len), .int 0, .ref s.heap.size, .int (Int32.ofNat o), .ref b])) := c4.trans (by
    refine XS.astoreN X3.here hexec rfl (hb hbytes d3) rfl rfl rfl ?_
    refine XS.aloadN X3.here hexec rfl (hb hbytes d4) rfl rfl ?_
    refine XS.iloadN X3.here hexec rfl (hb hbytes d5) rfl ?_
    refine XS.aloadN X3.here hexec rfl (hb hbytes d6) rfl rfl ?_
    refine iconstV X3.here hexec rfl 0 (hb hbytes d7) (by decide) ?_
    refine XS.iloadN X3.here hexec rfl (hb hbytes d8) rfl ?_
    exact Steps.refl _)
  obtain ⟨v6, T6, X6, E6, g6⟩ := X3.callS hexec (Cmp5.law l b A s.heap.size B3 o 0 len) hown (wks W (staticW U16 115 Cmp5.yN)) (wk W Cmp5.tab) (W := 0) (Nat.le_of_ble_eq_true rfl) (Nat.le_of_ble_eq_true rfl) (Nat.le_refl _) (by show 0 + len + 0 ≤ len; omega) (g := (mkF m 9 #[.val (.ref b), .val (.int (Int32.ofNat o)), .val (.int (Int32.ofNat len)), .val (.ref s.heap.size), .unset, .unset] [.int (Int32.ofNat len), .int (Int32.ofNat 0), .ref s.heap.size, .int (Int32.ofNat o), .ref b])) rfl (by rw [hml]; rfl) c5 (argsL := [.ref b, .int (Int32.ofNat o), .ref s.heap.size, .int (Int32.ofNat 0), .int (Int32.ofNat len)]) (rest := []) rfl rfl (by show 2 * 0 + 0 ≤ _; decide) (hb hbytes d9) (⟨rfl, hA3, ba3, hne, l1, by rw [bs3]; simp, hp⟩)
  obtain ⟨rfl, B6, p6, f6⟩ := E6
  have c7 : Steps p.tables e below (s₁.setTop (entryFrame m #[.ref b, .int (Int32.ofNat o), .int (Int32.ofNat len)] 6)) (T6.setTop (mkF m 12 #[.val (.ref b), .val (.int (Int32.ofNat o)), .val (.int (Int32.ofNat len)), .val (.ref s.heap.size), .unset, .unset] [.int (Int32.ofNat len)])) := g6
  have c8 : Steps p.tables e below (s₁.setTop (entryFrame m #[.ref b, .int (Int32.ofNat o), .int (Int32.ofNat len)] 6)) (T6.setTop (mkF m 58 #[.val (.ref b), .val (.int (Int32.ofNat o)), .val (.int (Int32.ofNat len)), .val (.ref s.heap.size), .val (.int (Int32.ofNat len)), .unset] [.ref s.heap.size])) := c7.trans (by
    refine XS.istore X6.here hexec rfl (hb hbytes d12) rfl rfl ?_
    refine XS.iload X6.here hexec rfl (hb hbytes d14) rfl ?_
    refine XS.iloadN X6.here hexec rfl (hb hbytes d16) rfl ?_
    refine XS.icmpYes X6.here hexec rfl (pc0 := 17) rfl (hb hbytes d17) rfl (ii_eq_t rfl) (by decide) rfl ?_
    refine XS.aloadN X6.here hexec rfl (hb hbytes d57) rfl rfl ?_
    exact Steps.refl _)
  have X8 := X6.wide (L' := []) (cells' := 1) (slots' := len) (fun x hx hlt => by
    simp only [List.nil_append, copyLocs, List.mem_map, List.mem_range] at hx
    obtain ⟨i, -, rfl⟩ := hx
    exact absurd hlt (Nat.lt_irrefl _)) (Nat.le_refl _) (by omega)
  exact ⟨T6, some (.ref s.heap.size), _, _, _, X8, rfl, rfl, rfl, (fun h => by cases h), ⟨⟨rfl, B6, ba3.like (X3.warmed.alike.symm.trans X6.warmed.alike) p6.1 f6.1 f6.2.1 f6.2.2.1, f6.2.1.trans bv3, by rw [X6.warmed.alike.findClass, f6.1]; exact bf3, by rw [f6.2.2.1, bs3]; simp, fun j hj => by rw [f6.2.2.2 j, if_pos (by omega)]; rfl, kp3.put p6 (Nat.le_refl _)⟩, by rw [p6.2.2, bh3, hh0]; simp⟩, fun fs hl => c8.trans (X8.areturnOut hexec rfl hret rfl (hb hbytes d58) hl)⟩
end Cmp3
namespace CodL
def yN : MethodName := ⟨"java/lang/StringUTF16", "coderFromArrayLen", "([BI)B"⟩
abbrev yB : ByteArray := jdk_52_method_15_code
theorem d0 : decode yB 0 = .ok (.iload_n 1, 1) := by decide +kernel
theorem d1 : decode yB 1 = .ok (.aload_n 0, 1) := by decide +kernel
theorem d2 : decode yB 2 = .ok (.arraylength, 1) := by decide +kernel
theorem d3 : decode yB 3 = .ok (.isub, 1) := by decide +kernel
theorem d4 : decode yB 4 = .ok (.bipush 31, 2) := by decide +kernel
theorem d6 : decode yB 6 = .ok (.iushr, 1) := by decide +kernel
theorem d7 : decode yB 7 = .ok (.i2b, 1) := by decide +kernel
theorem d8 : decode yB 8 = .ok (.ireturn, 1) := by decide +kernel
def site : List Cond := []
def tab : Cond := tabOf yN yB 2 (some .byte) site
def P (d : Addr) (B : Cell) (args : Array Value) (s : State) : Prop := args = #[.ref d, .int (Int32.ofNat B.slots.size)] ∧ Arr .byte d B s
def E (r : Option Value) (s u : State) : Prop := XT.PureE (some (.int 0)) r s u
/-- an array as long as the number of chars: LATIN1 -/
theorem law (l : Launch) (d : Addr) (B : Cell) : Law l yN 2 2 0 0 yB 2 (some .byte) site (P d B) E [] 0 0 := by
  refine Law.of_walk (plainFor_of_name (by decide +kernel)) (by decide +kernel) (by decide +kernel) (by decide) (fun _ _ h => by rw [h.1]; rfl) (fun _ U U' hal hh h => ⟨h.1, h.2.mv hal hh⟩) (fun r U U' V V' h1 hal h2 h => XT.PureE.mv r U U' V V' h1 hal h2 h) ?_
  intro p e s m args below meth c s₁ X0 hexec hbytes hml hret hlk hnm hown hh0 W hP
  obtain ⟨rfl, hB⟩ := hP
  have hB0 := hB.mv X0.warmed.alike hh0
  have c1 : Steps p.tables e below (s₁.setTop (entryFrame m #[.ref d, .int (Int32.ofNat B.slots.size)] 2)) (s₁.setTop (mkF m 0 #[.val (.ref d), .val (.int (Int32.ofNat B.slots.size))] [])) := entry rfl
  have c2 : Steps p.tables e below (s₁.setTop (entryFrame m #[.ref d, .int (Int32.ofNat B.slots.size)] 2)) (s₁.setTop (mkF m 2 #[.val (.ref d), .val (.int (Int32.ofNat B.slots.size))] [.ref d, .int (Int32.ofNat B.slots.size)])) := c1.trans (by
    refine XS.iloadN X0.here hexec rfl (hb hbytes d0) rfl ?_
    refine XS.aloadN X0.here hexec rfl (hb hbytes d1) rfl rfl ?_
    exact Steps.refl _)
  have c3 : Steps p.tables e below (s₁.setTop (entryFrame m #[.ref d, .int (Int32.ofNat B.slots.size)] 2)) (s₁.setTop (mkF m 8 #[.val (.ref d), .val (.int (Int32.ofNat B.slots.size))] [.int (lo8 (ushr (Int32.ofNat B.slots.size - Int32.ofNat B.slots.size) 31))])) := c2.trans (by
    refine X0.alen hexec hB0 rfl rfl (hb hbytes d2) ?_
    refine XS.isub X0.here hexec rfl (hb hbytes d3) rfl ?_
    refine bipushV X0.here hexec rfl 31 (hb hbytes d4) (by decide) ?_
    refine iushr X0.here hexec rfl (hb hbytes d6) rfl ?_
    refine i2b X0.here hexec rfl (hb hbytes d7) rfl ?_
    exact Steps.refl _)
  have e0 : lo8 (ushr (Int32.ofNat B.slots.size - Int32.ofNat B.slots.size) 31) = 0 := by rw [Int32.sub_self]; decide
  rw [e0] at c3
  exact ⟨s₁, some (.int 0), _, _, _, X0, rfl, rfl, rfl, (fun h => by cases h), ⟨rfl, hh0⟩, fun fs hl => c3.trans (X0.ireturnOut hexec hret rfl (Or.inr (Or.inr (Or.inl rfl))) (hb hbytes d8) hl)⟩
end CodL
/-- the String at a is Latin-1 over a new byte[] (the heap's one new cell): the low bytes of the len chars of A from o on; every cell but a is kept -/
def Got (a : Addr) (D : Cell) (fV fC : Field) (A : Cell) (o len : Nat) (r : Option Value) (s u : State) : Prop := r = none ∧ ∃ D' V : Cell, Blank "java/lang/String" a D' u ∧ Same D D' [fV.slot, fC.slot] ∧ D'.slots[fV.slot]? = some (.ref s.heap.size) ∧ D'.slots[fC.slot]? = some (.int 0) ∧ Arr .byte s.heap.size V u ∧ V.vm = .none ∧ u.vm.findClass "[B" = some V.cls ∧ V.slots.size = len ∧ (∀ j, j < len → V.slots[j]? = some (.int (lo8 (cv A (o + j))))) ∧ (∀ (y : Addr) (c : Cell), y ≠ a → s.heap[y]? = some c → u.heap[y]? = some c) ∧ u.heap.size = s.heap.size + 1
theorem Got.mv {a : Addr} {D A : Cell} {fV fC : Field} {o len : Nat} : ∀ r (U U' V V' : State), U'.heap = U.heap → V.vm.Alike V'.vm → V'.heap = V.heap → Got a D fV fC A o len r U V → Got a D fV fC A o len r U' V' :=
  fun r U U' V V' h1 hal h2 ⟨e0, D', X, a1, a2, a3, a4, a5, a6, a7, a8, a9, a10, a11⟩ => ⟨e0, D', X, a1.mv hal h2, a2, by rw [h1]; exact a3, a4, by rw [h1]; exact a5.mv hal h2, a6, by rw [hal.findClass]; exact a7, a8, a9, by rw [h1, h2]; exact a10, by rw [h1, h2]; exact a11⟩
namespace New4
def yN : MethodName := ⟨"java/lang/String", "<init>", "([CIILjava/lang/Void;)V"⟩
abbrev yB : ByteArray := jdk_42_method_149_code
theorem d0 : decode yB 0 = .ok (.aload_n 0, 1) := by decide +kernel
theorem d1 : decode yB 1 = .ok (.invokespecial 1, 3) := by decide +kernel
theorem d4 : decode yB 4 = .ok (.iload_n 3, 1) := by decide +kernel
theorem d5 : decode yB 5 = .ok (.ifCond (.ne) 22, 3) := by decide +kernel
theorem d27 : decode yB 27 = .ok (.getstatic 38, 3) := by decide +kernel
theorem d30 : decode yB 30 = .ok (.ifCond (.eq) 28, 3) := by decide +kernel
theorem d33 : decode yB 33 = .ok (.aload_n 1, 1) := by decide +kernel
theorem d34 : decode yB 34 = .ok (.iload_n 2, 1) := by decide +kernel
theorem d35 : decode yB 35 = .ok (.iload_n 3, 1) := by decide +kernel
theorem d36 : decode yB 36 = .ok (.invokestatic 177, 3) := by decide +kernel
theorem d39 : decode yB 39 = .ok (.astore 5, 2) := by decide +kernel
theorem d41 : decode yB 41 = .ok (.aload_n 0, 1) := by decide +kernel
theorem d42 : decode yB 42 = .ok (.aload 5, 2) := by decide +kernel
theorem d44 : decode yB 44 = .ok (.iload_n 3, 1) := by decide +kernel
theorem d45 : decode yB 45 = .ok (.invokestatic 47, 3) := by decide +kernel
theorem d48 : decode yB 48 = .ok (.putfield 15, 3) := by decide +kernel
theorem d51 : decode yB 51 = .ok (.aload_n 0, 1) := by decide +kernel
theorem d52 : decode yB 52 = .ok (.aload 5, 2) := by decide +kernel
theorem d54 : decode yB 54 = .ok (.putfield 9, 3) := by decide +kernel
theorem d57 : decode yB 57 = .ok (.return_, 1) := by decide +kernel
def site : List Cond := [.fieldLink "java/lang/String" 38 "java/lang/String" "COMPACT_STRINGS" "Z", Cmp3.tab, CodL.tab, .laysFinal "java/lang/String" "java/lang/String" "value" "[B", .fieldLink "java/lang/String" 9 "java/lang/String" "value" "[B", .laysFinal "java/lang/String" "java/lang/String" "coder" "B", .fieldLink "java/lang/String" 15 "java/lang/String" "coder" "B"] ++ objW "java/lang/String" 1 ++ staticW "java/lang/String" 177 Cmp3.yN ++ staticW "java/lang/String" 47 CodL.yN
def tab : Cond := tabOf yN yB 6 none site
def P (a : Addr) (D : Cell) (fV fC : Field) (b : Addr) (A : Cell) (z : Int32) (o len : Nat) (args : Array Value) (s : State) : Prop := args = #[.ref a, .ref b, .int (Int32.ofNat o), .int (Int32.ofNat len), .null] ∧ Blank "java/lang/String" a D s ∧ Found "java/lang/String" "value" "[B" fV s ∧ Found "java/lang/String" "coder" "B" fC s ∧ Ch b A s ∧ StaticIs s "java/lang/String" "COMPACT_STRINGS" "Z" (.int z) ∧ ¬ z = 0 ∧ 0 < len ∧ o + len ≤ A.slots.size ∧ len ≤ 536870912 ∧ ∀ i, i < len → ¬ 255 < cv A (o + i)
def E (a : Addr) (D : Cell) (fV fC : Field) (A : Cell) (o len : Nat) (r : Option Value) (s u : State) : Prop := Got a D fV fC A o len r s u
/-- len > 0, no char of the range above 255: a Latin-1 String of their low bytes -/
theorem law (l : Launch) (a : Addr) (D : Cell) (fV fC : Field) (b : Addr) (A : Cell) (z : Int32) (o len : Nat) : Law l yN 5 4 2 35 yB 6 none site (P a D fV fC b A z o len) (E a D fV fC A o len) [⟨a, fC.slot⟩, ⟨a, fV.slot⟩] 1 len := by
  refine Law.of_walk (plainFor_of_name (by decide +kernel)) (by decide +kernel) (by decide +kernel) (by decide) (fun _ _ h => by rw [h.1]; rfl) (fun _ U U' hal hh h => ⟨h.1, h.2.1.mv hal hh, h.2.2.1.al hal, h.2.2.2.1.al hal, h.2.2.2.2.1.mv hal hh, h.2.2.2.2.2.1.there hal hh, h.2.2.2.2.2.2⟩) (fun r U U' V V' h1 hal h2 h => Got.mv r U U' V V' h1 hal h2 h) ?_
  intro p e s m args below meth c s₁ X0 hexec hbytes hml hret hlk hnm hown hh0 W hP
  obtain ⟨rfl, hB, f1, f2, hA, s1, hz, l0, l1, l2, hp⟩ := hP
  have a31 := hA.1.2.2.2
  have c1 : Steps p.tables e below (s₁.setTop (entryFrame m #[.ref a, .ref b, .int (Int32.ofNat o), .int (Int32.ofNat len), .null] 6)) (s₁.setTop (mkF m 0 #[.val (.ref a), .val (.ref b), .val (.int (Int32.ofNat o)), .val (.int (Int32.ofNat len)), .val .null, .unset] [])) := entry rfl
  have c2 : Steps p.tables e below (s₁.setTop (entryFrame m #[.ref a, .ref b, .int (Int32.ofNat o), .int (Int32.ofNat len), .null] 6)) (s₁.setTop (mkF m 1 #[.val (.ref a), .val (.ref b), .val (.int (Int32.ofNat o)), .val (.int (Int32.ofNat len)), .val .null, .unset] [.ref a])) := c1.trans (by
    refine XS.aloadN X0.here hexec rfl (hb hbytes d0) rfl rfl ?_
    exact Steps.refl _)
  obtain ⟨T3, X3, q3, st3⟩ := X0.oinit hexec hown (wks W (objW "java/lang/String" 1)) (g := (mkF m 1 #[.val (.ref a), .val (.ref b), .val (.int (Int32.ofNat o)), .val (.int (Int32.ofNat len)), .val .null, .unset] [.ref a])) rfl (by rw [hml]; rfl) (rest := []) rfl (hb hbytes d1) (W := 0) (by show 2 * 0 + 0 ≤ _; decide) (Nat.le_of_ble_eq_true rfl) (Nat.le_of_ble_eq_true rfl)
  have hh3 := q3.trans hh0
  have c4 : Steps p.tables e below (s₁.setTop (entryFrame m #[.ref a, .ref b, .int (Int32.ofNat o), .int (Int32.ofNat len), .null] 6)) (T3.setTop (mkF m 27 #[.val (.ref a), .val (.ref b), .val (.int (Int32.ofNat o)), .val (.int (Int32.ofNat len)), .val .null, .unset] [])) := (c2.trans (st3 _ (Steps.refl _))).trans (by
    refine XS.iloadN X3.here hexec rfl (hb hbytes d4) rfl ?_
    refine XS.ifYes X3.here hexec rfl (pc0 := 5) rfl (hb hbytes d5) rfl (i0_ne_t (nz32 (by omega) l0)) (by decide) rfl ?_
    exact Steps.refl _)
  obtain ⟨T5, X5, q5, st5⟩ := X3.sget hexec hown (wk W (.fieldLink "java/lang/String" 38 "java/lang/String" "COMPACT_STRINGS" "Z")) s1 (fun _ _ h => by rw [hh3]; exact h) (g := (mkF m 27 #[.val (.ref a), .val (.ref b), .val (.int (Int32.ofNat o)), .val (.int (Int32.ofNat len)), .val .null, .unset] [])) rfl (hb hbytes d27)
  have hh5 := q5.trans hh3
  have c6 : Steps p.tables e below (s₁.setTop (entryFrame m #[.ref a, .ref b, .int (Int32.ofNat o), .int (Int32.ofNat len), .null] 6)) (T5.setTop (mkF m 30 #[.val (.ref a), .val (.ref b), .val (.int (Int32.ofNat o)), .val (.int (Int32.ofNat len)), .val .null, .unset] [.int z])) := c4.trans (st5 _ (Steps.refl _))
  have c7 : Steps p.tables e below (s₁.setTop (entryFrame m #[.ref a, .ref b, .int (Int32.ofNat o), .int (Int32.ofNat len), .null] 6)) (T5.setTop (mkF m 36 #[.val (.ref a), .val (.ref b), .val (.int (Int32.ofNat o)), .val (.int (Int32.ofNat len)), .val .null, .unset] [.int (Int32.ofNat len), .int (Int32.ofNat o), .ref b])) := c6.trans (by
    refine XS.ifNo X5.here hexec rfl (hb hbytes d30) rfl (i0_eq_f hz) ?_
    refine XS.aloadN X5.here hexec rfl (hb hbytes d33) rfl rfl ?_
    refine XS.iloadN X5.here hexec rfl (hb hbytes d34) rfl ?_
    refine XS.iloadN X5.here hexec rfl (hb hbytes d35) rfl ?_
    exact Steps.refl _)
  obtain ⟨v8, T8, X8, E8, g8⟩ := X5.callS hexec (Cmp3.law l b A o len) hown (wks W (staticW "java/lang/String" 177 Cmp3.yN)) (wk W Cmp3.tab) (W := 0) (Nat.le_of_ble_eq_true rfl) (Nat.le_of_ble_eq_true rfl) (Nat.le_refl _) (by show 0 + len ≤ len; omega) (g := (mkF m 36 #[.val (.ref a), .val (.ref b), .val (.int (Int32.ofNat o)), .val (.int (Int32.ofNat len)), .val .null, .unset] [.int (Int32.ofNat len), .int (Int32.ofNat o), .ref b])) rfl (by rw [hml]; rfl) c7 (argsL := [.ref b, .int (Int32.ofNat o), .int (Int32.ofNat len)]) (rest := []) rfl rfl (by show 2 * 0 + 0 ≤ _; decide) (hb hbytes d36) (⟨rfl, hA.mv X5.warmed.alike hh5, l1, l2, hp⟩)
  obtain ⟨e8, z8⟩ := E8
  obtain ⟨rfl, N, n1, n2, n3, n4, n5, n6⟩ := NewArr.mv _ T5 s _ _ hh5.symm (Vm.Alike.refl _) rfl e8
  rw [hh5] at z8
  have hB1 := hB.keep X8.warmed.alike (n6 _ _ hB.1)
  have hne : s.heap.size ≠ a := (Nat.ne_of_lt (Array.getElem?_eq_some_iff.mp hB.1).1).symm
  have c9 : Steps p.tables e below (s₁.setTop (entryFrame m #[.ref a, .ref b, .int (Int32.ofNat o), .int (Int32.ofNat len), .null] 6)) (T8.setTop (mkF m 39 #[.val (.ref a), .val (.ref b), .val (.int (Int32.ofNat o)), .val (.int (Int32.ofNat len)), .val .null, .unset] [.ref s.heap.size])) := g8
  have c10 : Steps p.tables e below (s₁.setTop (entryFrame m #[.ref a, .ref b, .int (Int32.ofNat o), .int (Int32.ofNat len), .null] 6)) (T8.setTop (mkF m 45 #[.val (.ref a), .val (.ref b), .val (.int (Int32.ofNat o)), .val (.int (Int32.ofNat len)), .val .null, .val (.ref s.heap.size)] [.int (Int32.ofNat N.slots.size), .ref s.heap.size, .ref a])) := by
    have hc : Steps p.tables e below (s₁.setTop (entryFrame m #[.ref a, .ref b, .int (Int32.ofNat o), .int (Int32.ofNat len), .null] 6)) (T8.setTop (mkF m 45 #[.val (.ref a), .val (.ref b), .val (.int (Int32.ofNat o)), .val (.int (Int32.ofNat len)), .val .null, .val (.ref s.heap.size)] [.int (Int32.ofNat len), .ref s.heap.size, .ref a])) := c9.trans (by
      refine XS.astore X8.here hexec rfl (hb hbytes d39) rfl rfl rfl ?_
      refine XS.aloadN X8.here hexec rfl (hb hbytes d41) rfl rfl ?_
      refine XS.aload X8.here hexec rfl (hb hbytes d42) rfl rfl ?_
      refine XS.iloadN X8.here hexec rfl (hb hbytes d44) rfl ?_
      exact Steps.refl _)
    rw [n4]; exact hc
  obtain ⟨v11, T11, X11, E11, g11⟩ := X8.callS hexec (CodL.law l s.heap.size N) hown (wks W (staticW "java/lang/String" 47 CodL.yN)) (wk W CodL.tab) (W := 1) (Nat.le_of_ble_eq_true rfl) (Nat.le_of_ble_eq_true rfl) (Nat.le_refl _) (by show 0 + len + 0 ≤ len; omega) (g := (mkF m 45 #[.val (.ref a), .val (.ref b), .val (.int (Int32.ofNat o)), .val (.int (Int32.ofNat len)), .val .null, .val (.ref s.heap.size)] [.int (Int32.ofNat N.slots.size), .ref s.heap.size, .ref a])) rfl (by rw [hml]; rfl) c10 (argsL := [.ref s.heap.size, .int (Int32.ofNat N.slots.size)]) (rest := [.ref a]) rfl rfl (by show 2 * 0 + (1 + 0) ≤ _; decide) (hb hbytes d45) (⟨rfl, n1⟩)
  obtain ⟨rfl, q11⟩ := E11
  have hB11 := hB1.mv (X8.warmed.alike.symm.trans X11.warmed.alike) q11
  have c12 : Steps p.tables e below (s₁.setTop (entryFrame m #[.ref a, .ref b, .int (Int32.ofNat o), .int (Int32.ofNat len), .null] 6)) (T11.setTop (mkF m 48 #[.val (.ref a), .val (.ref b), .val (.int (Int32.ofNat o)), .val (.int (Int32.ofNat len)), .val .null, .val (.ref s.heap.size)] [.int 0, .ref a])) := g11
  obtain ⟨T13, X13, p13, bl13, sl13, st13⟩ := X11.finit hexec hown (wk W (.fieldLink "java/lang/String" 15 "java/lang/String" "coder" "B")) (Or.inr ⟨_, (wk W (.laysFinal "java/lang/String" "java/lang/String" "coder" "B"))⟩) (Or.inl ⟨rfl, hnm⟩) f2 (Or.inl rfl) hB11 (t := .byte) (by decide +kernel) rfl (g := (mkF m 48 #[.val (.ref a), .val (.ref b), .val (.int (Int32.ofNat o)), .val (.int (Int32.ofNat len)), .val .null, .val (.ref s.heap.size)] [.int 0, .ref a])) rfl (rest := []) rfl (hb hbytes d48)
  have c14 : Steps p.tables e below (s₁.setTop (entryFrame m #[.ref a, .ref b, .int (Int32.ofNat o), .int (Int32.ofNat len), .null] 6)) (T13.setTop (mkF m 54 #[.val (.ref a), .val (.ref b), .val (.int (Int32.ofNat o)), .val (.int (Int32.ofNat len)), .val .null, .val (.ref s.heap.size)] [.ref s.heap.size, .ref a])) := (c12.trans (st13 _ (Steps.refl _))).trans (by
    refine XS.aloadN X13.here hexec rfl (hb hbytes d51) rfl rfl ?_
    refine XS.aload X13.here hexec rfl (hb hbytes d52) rfl rfl ?_
    exact Steps.refl _)
  obtain ⟨T15, X15, p15, bl15, sl15, st15⟩ := X13.finit hexec hown (wk W (.fieldLink "java/lang/String" 9 "java/lang/String" "value" "[B")) (Or.inr ⟨_, (wk W (.laysFinal "java/lang/String" "java/lang/String" "value" "[B"))⟩) (Or.inl ⟨rfl, hnm⟩) f1 (Or.inl rfl) bl13 (t := (.array .byte)) (by decide +kernel) rfl (g := (mkF m 54 #[.val (.ref a), .val (.ref b), .val (.int (Int32.ofNat o)), .val (.int (Int32.ofNat len)), .val .null, .val (.ref s.heap.size)] [.ref s.heap.size, .ref a])) rfl (rest := []) rfl (hb hbytes d54)
  have c16 : Steps p.tables e below (s₁.setTop (entryFrame m #[.ref a, .ref b, .int (Int32.ofNat o), .int (Int32.ofNat len), .null] 6)) (T15.setTop (mkF m 57 #[.val (.ref a), .val (.ref b), .val (.int (Int32.ofNat o)), .val (.int (Int32.ofNat len)), .val .null, .val (.ref s.heap.size)] [])) := c14.trans (st15 _ (Steps.refl _))
  have ap := apart (Or.inr ⟨_, (wk W (.laysFinal "java/lang/String" "java/lang/String" "value" "[B"))⟩) (Or.inr ⟨_, (wk W (.laysFinal "java/lang/String" "java/lang/String" "coder" "B"))⟩) f1 f2 (t₁ := .array .byte) (t₂ := .byte) (by decide +kernel) (by decide +kernel) (by decide)
  have al := X8.warmed.alike.symm.trans X15.warmed.alike
  have n7 : T11.heap[s.heap.size]? = some N := by rw [q11]; exact n1.1
  exact ⟨T15, none, _, _, _, X15, by simp, rfl, by omega, (fun _ => rfl), ⟨rfl, _, N, bl15, ((Same.refl D _).set _ (by simp)).set _ (by simp), sl15, (Cell.slots_setSlot_ne _ ap).trans sl13, n1.keep al (p15.other hne (p13.other hne n7)), n2, by rw [al.findClass]; exact n3, n4, n5, fun y c h1 h2 => p15.other h1 (p13.other h1 (by rw [q11]; exact n6 y c h2)), by rw [p15.2.2, p13.2.2, q11]; exact z8⟩, fun fs hl => c16.trans (X15.returnOut hexec hret (hb hbytes d57) hl)⟩
end New4
namespace New1
def yN : MethodName := ⟨"java/lang/String", "<init>", "([C)V"⟩
abbrev yB : ByteArray := jdk_42_method_3_code
theorem d0 : decode yB 0 = .ok (.aload_n 0, 1) := by decide +kernel
theorem d1 : decode yB 1 = .ok (.aload_n 1, 1) := by decide +kernel
theorem d2 : decode yB 2 = .ok (.iconst 0, 1) := by decide +kernel
theorem d3 : decode yB 3 = .ok (.aload_n 1, 1) := by decide +kernel
theorem d4 : decode yB 4 = .ok (.arraylength, 1) := by decide +kernel
theorem d5 : decode yB 5 = .ok (.aconst_null, 1) := by decide +kernel
theorem d6 : decode yB 6 = .ok (.invokespecial 27, 3) := by decide +kernel
theorem d9 : decode yB 9 = .ok (.return_, 1) := by decide +kernel
def site : List Cond := [New4.tab] ++ initW "java/lang/String" 27 New4.yN
def tab : Cond := tabOf yN yB 2 none site
def P (a : Addr) (D : Cell) (fV fC : Field) (b : Addr) (A : Cell) (z : Int32) (args : Array Value) (s : State) : Prop := args = #[.ref a, .ref b] ∧ Blank "java/lang/String" a D s ∧ Found "java/lang/String" "value" "[B" fV s ∧ Found "java/lang/String" "coder" "B" fC s ∧ Ch b A s ∧ StaticIs s "java/lang/String" "COMPACT_STRINGS" "Z" (.int z) ∧ ¬ z = 0 ∧ 0 < A.slots.size ∧ A.slots.size ≤ 536870912 ∧ ∀ i, i < A.slots.size → ¬ 255 < cv A i
def E (a : Addr) (D : Cell) (fV fC : Field) (A : Cell) (r : Option Value) (s u : State) : Prop := Got a D fV fC A 0 A.slots.size r s u
/-- new String(chars), not empty, no char above 255: a Latin-1 String of their low bytes -/
theorem law (l : Launch) (a : Addr) (D : Cell) (fV fC : Field) (b : Addr) (A : Cell) (z : Int32) : Law l yN 2 1 3 52 yB 2 none site (P a D fV fC b A z) (E a D fV fC A) [⟨a, fC.slot⟩, ⟨a, fV.slot⟩] 1 A.slots.size := by
  refine Law.of_walk (plainFor_of_name (by decide +kernel)) (by decide +kernel) (by decide +kernel) (by decide) (fun _ _ h => by rw [h.1]; rfl) (fun _ U U' hal hh h => ⟨h.1, h.2.1.mv hal hh, h.2.2.1.al hal, h.2.2.2.1.al hal, h.2.2.2.2.1.mv hal hh, h.2.2.2.2.2.1.there hal hh, h.2.2.2.2.2.2⟩) (fun r U U' V V' h1 hal h2 h => Got.mv r U U' V V' h1 hal h2 h) ?_
  intro p e s m args below meth c s₁ X0 hexec hbytes hml hret hlk hnm hown hh0 W hP
  obtain ⟨rfl, hB, f1, f2, hA, s1, hz, l0, l2, hp⟩ := hP
  have c1 : Steps p.tables e below (s₁.setTop (entryFrame m #[.ref a, .ref b] 2)) (s₁.setTop (mkF m 0 #[.val (.ref a), .val (.ref b)] [])) := entry rfl
  have c2 : Steps p.tables e below (s₁.setTop (entryFrame m #[.ref a, .ref b] 2)) (s₁.setTop (mkF m 6 #[.val (.ref a), .val (.ref b)] [.null, .int (Int32.ofNat A.slots.size), .int 0, .ref b, .ref a])) := c1.trans (by
    refine XS.aloadN X0.here hexec rfl (hb hbytes d0) rfl rfl ?_
    refine XS.aloadN X0.here hexec rfl (hb hbytes d1) rfl rfl ?_
    refine iconstV X0.here hexec rfl 0 (hb hbytes d2) (by decide) ?_
    refine XS.aloadN X0.here hexec rfl (hb hbytes d3) rfl rfl ?_
    refine X0.alen hexec (hA.1.mv X0.warmed.alike hh0) rfl rfl (hb hbytes d4) ?_
    refine XS.aconstNull X0.here hexec rfl (hb hbytes d5) ?_
    exact Steps.refl _)
  obtain ⟨v3, T3, X3, E3, g3⟩ := X0.callN hexec (New4.law l a D fV fC b A z 0 A.slots.size) rfl hown (wks W (initW "java/lang/String" 27 New4.yN)) (W New4.tab (by simp only [site, List.mem_cons, List.mem_append, true_or, or_true])) (W := 0) (Nat.le_of_ble_eq_true rfl) (Nat.le_of_ble_eq_true rfl) (Nat.le_refl _) (by show 0 + A.slots.size ≤ A.slots.size; omega) (g := (mkF m 6 #[.val (.ref a), .val (.ref b)] [.null, .int (Int32.ofNat A.slots.size), .int (Int32.ofNat 0), .ref b, .ref a])) rfl (by rw [hml]; rfl) c2 (argsL := [.ref b, .int (Int32.ofNat 0), .int (Int32.ofNat A.slots.size), .null]) (rest := []) rfl rfl (by show 2 * 0 + 0 ≤ _; decide) (hb hbytes d6) (⟨rfl, hB.mv X0.warmed.alike hh0, f1.al X0.warmed.alike, f2.al X0.warmed.alike, hA.mv X0.warmed.alike hh0, s1.there X0.warmed.alike hh0, hz, l0, by omega, l2, fun i hi => by rw [Nat.zero_add]; exact hp i hi⟩)
  have e0 := Got.mv _ s₁ s _ _ hh0.symm (Vm.Alike.refl _) rfl E3
  obtain rfl := e0.1
  have c4 : Steps p.tables e below (s₁.setTop (entryFrame m #[.ref a, .ref b] 2)) (T3.setTop (mkF m 9 #[.val (.ref a), .val (.ref b)] [])) := g3
  exact ⟨T3, none, _, _, _, X3, by simp, rfl, by omega, (fun _ => rfl), e0, fun fs hl => c4.trans (X3.returnOut hexec hret (hb hbytes d9) hl)⟩
theorem pays {l : Launch} {R : Room} {p : Program} {e : Env} {below : List Frame} {s : State} {sargs : Array Value} {len W : Nat} (a : Addr) (D : Cell) (fV fC : Field) (b : Addr) (A : Cell) (z : Int32) (htab : tab.before sargs s = true) (hfr : 4 ≤ R.frames) (hlo : W + 65 ≤ R.locals) :
    Back l R p e below s sargs yN len W (fun A₁ a₁ => A₁.cells + 1 ≤ R.cells ∧ A₁.slots + A.slots.size ≤ R.slots ∧ P a D fV fC b A z a₁ A₁.U) (fun A₁ _ v₁ B₁ => E a D fV fC A v₁ A₁.U B₁.U ∧ B₁.locs = A₁.locs ++ [⟨a, fC.slot⟩, ⟨a, fV.slot⟩] ∧ B₁.cells = A₁.cells + 1 ∧ B₁.slots = A₁.slots + A.slots.size) :=
  (law l a D fV fC b A z).pays htab hfr (by omega)
end New1
/-- the byte, read back as charAt reads it, is the char -/
theorem lo8_mask {x : Int32} (h0 : ¬ x < 0) (h1 : ¬ 255 < x) : lo8 x &&& 255 = x := by
  have t : ∀ k : Fin 256, lo8 (Int32.ofNat k.val) &&& 255 = Int32.ofNat k.val := by decide +kernel
  rw [Int32.lt_iff_toInt_lt] at h0 h1
  have e0 : (0 : Int32).toInt = 0 := rfl
  have e1 : (255 : Int32).toInt = 255 := rfl
  obtain ⟨k, hk⟩ : ∃ k : Nat, x.toInt = k := ⟨x.toInt.toNat, by omega⟩
  have hx : x = Int32.ofNat k := Int32.toInt_inj.mp (by rw [hk, Int32.toInt_ofNat_small (by omega)])
  rw [hx]
  exact t ⟨k, by omega⟩
end StrChars
namespace StrChars.Road
open Jvm Sem ClassFile Op Lib Jvm.Stand Jvm.Free Jvm.Free.XT
open Jvm.Lib.Cold (StaticIs)
abbrev ST : String := "java/lang/String"
/-- every table word that New1's law asks, flat -/
abbrev words : List Jvm.Cond := [.code New1.yN New1.yB 2 none, .initialized ST, .methodLink ST 27 New4.yN, .instanceMethod New4.yN,
  .code New4.yN New4.yB 6 none, .fieldLink ST 38 ST "COMPACT_STRINGS" "Z", .laysFinal ST ST "value" "[B", .fieldLink ST 9 ST "value" "[B", .laysFinal ST ST "coder" "B", .fieldLink ST 15 ST "coder" "B",
  .methodLink ST 1 Lib.objectInit, .instanceMethod Lib.objectInit, .code Lib.objectInit ⟨#[0xb1]⟩ 1 none, .methodLink ST 177 Cmp3.yN, .static Cmp3.yN, .methodLink ST 47 CodL.yN, .static CodL.yN,
  .code Cmp3.yN Cmp3.yB 6 (some (.array .byte)), .initialized U16, .arrayClass .byte, .methodLink U16 115 Cmp5.yN, .static Cmp5.yN, .code Cmp5.yN Cmp5.yB 7 (some .int), .code CodL.yN CodL.yB 2 (some .byte)]
theorem tab_of {a : Array Value} {s : State} (h : ∀ w ∈ words, w.before a s = true) : New1.tab.before a s = true := by
  have h5 : Cmp5.tab.before a s = true := unparts (wk h (.code Cmp5.yN Cmp5.yB 7 (some .int))) (wks h (.initialized Cmp5.yN.cls :: Cmp5.site))
  have hc : CodL.tab.before a s = true := unparts (wk h (.code CodL.yN CodL.yB 2 (some .byte))) (wks h (.initialized CodL.yN.cls :: CodL.site))
  have q5 : ∀ w ∈ Cmp5.tab :: words, w.before a s = true := fun w hw => (List.mem_cons.mp hw).elim (fun e => e ▸ h5) (h w)
  have h3 : Cmp3.tab.before a s = true := unparts (wk q5 (.code Cmp3.yN Cmp3.yB 6 (some (.array .byte)))) (wks q5 (.initialized Cmp3.yN.cls :: Cmp3.site))
  have q3 : ∀ w ∈ Cmp3.tab :: CodL.tab :: words, w.before a s = true := fun w hw => (List.mem_cons.mp hw).elim (fun e => e ▸ h3) fun hw => (List.mem_cons.mp hw).elim (fun e => e ▸ hc) (h w)
  have h4 : New4.tab.before a s = true := unparts (wk q3 (.code New4.yN New4.yB 6 none)) (wks q3 (.initialized New4.yN.cls :: New4.site))
  have q4 : ∀ w ∈ New4.tab :: words, w.before a s = true := fun w hw => (List.mem_cons.mp hw).elim (fun e => e ▸ h4) (h w)
  exact unparts (wk q4 (.code New1.yN New1.yB 2 none)) (wks q4 (.initialized New1.yN.cls :: New1.site))
/-- the words ride from the start Z to the walk's own state -/
theorem moved {Z s : State} {a0 args : Array Value} (hZ : Z.Warmed39 s.vm) (hw : ∀ d ∈ words, d.before a0 Z = true) : ∀ d ∈ words, d.before args s = true := fun d hd => by
  have q := hw d hd
  have t : ∀ d ∈ words, d = .arrayClass .byte ∨ (d.onTables && d.keepsFace) = true := by decide +kernel
  rcases t d hd with rfl | t
  · exact RoadKit.mvA hZ q
  · exact RoadKit.mv hZ q t
/-- WHAT COMES BACK, over the tables of the start Z: h the heap at the call, h' behind it -/
def Q (Z : State) (x : Addr) (A : Cell) (h : Heap) (v : Option Value) (h' : Heap) (L : List Loc) : Prop := v = none ∧ (∀ y ∈ L, y.base = x) ∧ RoadKit.Keep h h' [x] ∧ h'.size = h.size + 1 ∧ RoadKit.Exa Z h' x ST ∧ RoadKit.Fld Z h' x ST "value" "[B" (.ref h.size) ∧ RoadKit.Fld Z h' x ST "coder" "B" (.int 0) ∧
  (∃ V : Cell, RoadKit.Arr Z h' h.size V .byte ∧ V.vm = .none ∧ Z.vm.findClass "[B" = some V.cls ∧ V.slots.size = A.slots.size ∧ ∀ j, j < A.slots.size → V.slots[j]? = some (.int (lo8 (cv A j)))) ∧
  ∀ (O n d : String) (w : Value), RoadKit.Fld Z h x O n d w → RoadKit.slotOf Z O n d ≠ RoadKit.slotOf Z ST "value" "[B" → RoadKit.slotOf Z O n d ≠ RoadKit.slotOf Z ST "coder" "B" → RoadKit.Fld Z h' x O n d w
/-- **new String(chars) AT A CALL, IN THE ROAD'S FORM**: for specialBack behind newO: x the fresh String, b the char[] with the cell A -/
theorem back {p : Program} {l : Launch} {e : Env} {R : Room} {s : State} {args : Array Value} {below : List Frame} {len W : Nat} {Z : State} {a0 : Array Value} {h : Heap} (hZ : Z.Warmed39 s.vm) (hw : ∀ d ∈ words, d.before a0 Z = true) {kI : Nat} (wi : (Jvm.Cond.instantiable ST kI).before a0 Z = true)
    {x b : Addr} {A : Cell} {z : Int32} {v0 c0 : Value} (E : RoadKit.Exa Z h x ST) (V : RoadKit.Fld Z h x ST "value" "[B" v0) (C : RoadKit.Fld Z h x ST "coder" "B" c0) (K : RoadKit.Arr Z h b A .char) (hty : Typed .char A) (S : RoadKit.Sta Z h ST "COMPACT_STRINGS" "Z" (.int z)) (hz : ¬ z = 0)
    (l0 : 0 < A.slots.size) (l2 : A.slots.size ≤ 536870912) (hp : ∀ i, i < A.slots.size → ¬ 255 < cv A i) (hfr : 4 ≤ R.frames) (hlo : W + 65 ≤ R.locals) :
    Back l R p e below s args New1.yN len W (fun P a => a = #[.ref x, .ref b] ∧ P.U.heap = h ∧ P.cells + 1 ≤ R.cells ∧ P.slots + A.slots.size ≤ R.slots)
      (fun P _ v B => ∃ L, Q Z x A h v B.U.heap L ∧ B.locs = P.locs ++ L ∧ B.cells = P.cells + 1 ∧ B.slots = P.slots + A.slots.size) := by
  intro m meth c P g ig mk a X hg hsize hdg hW hn hp'
  obtain ⟨rfl, rfl, r1, r2⟩ := hp'
  have al : Z.vm.Alike P.U.vm := hZ.alike.trans X.warmed.alike
  obtain ⟨D, cfV, kV, iV, fV, hD, gV, stV, knV, obV, asV, slV⟩ := id V
  obtain ⟨D', cfC, kC, iC, fC, hD', gC, stC, -, -, asC, slC⟩ := id C
  cases hD.symm.trans hD'
  obtain ⟨D2, kD, e1, e2, e3, e4, e5⟩ := id E
  cases hD.symm.trans e1
  obtain ⟨c2, k2, i1, i2, i3, -⟩ := Cond.instantiable_spec wi
  cases e2.symm.trans i1
  cases e3.symm.trans i2
  obtain ⟨kU, u1, u2⟩ := al.2.2 _ _ e3
  have hB : Blank ST x D P.U := ⟨hD, ⟨knV, fun q hq => by rw [hq] at obV; cases obV⟩, by rw [al.findClass]; exact e2, kU, u1, by rw [u2]; exact i3, by rw [u2]; exact e5 i3⟩
  have F1 : Found ST "value" "[B" fV P.U := ⟨SBG.found_only al ⟨cfV, kV, iV, gV⟩, stV⟩
  have F2 : Found ST "coder" "B" fC P.U := ⟨SBG.found_only al ⟨cfC, kC, iC, gC⟩, stC⟩
  have hA : Ch b A P.U := ⟨⟨K.1, State.isArrayOf_alike al K.2.1, K.2.2, by omega⟩, hty⟩
  have hS : StaticIs P.U ST "COMPACT_STRINGS" "Z" (.int z) := by
    obtain ⟨cfS, iS, kS, fS, st, cS, t1, t2, t3, t4, t5, t6, t7⟩ := S
    exact StaticIs.there (s := { Z with heap := P.U.heap }) ⟨cfS, iS, kS, fS, st, cS, t1, t2, t3, t4, t5, (fun q => by rw [q] at t6; cases t6), t7⟩ al rfl
  obtain ⟨v, B, X', ⟨⟨hv, E', V', q1, q2, q3, q4, q5, q6, q7, q8, q9, q10, q11⟩, hl, hc, hs⟩, st⟩ := New1.pays x D fV fC b A z (tab_of (moved hZ hw)) hfr hlo m meth c P g ig mk _ X hg hsize hdg hW hn ⟨r1, r2, rfl, hB, F1, F2, hA, hS, hz, l0, l2, hp⟩
  have al' : Z.vm.Alike B.U.vm := hZ.alike.trans X'.warmed.alike
  have hsz : E'.slots.size = D.slots.size := by
    obtain ⟨-, -, -, kB, w1, w2, w3⟩ := q1
    obtain ⟨kB', y1, y2⟩ := al'.2.2 _ _ e3
    rw [q2.2.1] at w1
    cases w1.symm.trans y1
    rw [w3, e5 i3, y2]
  refine ⟨v, B, X', ⟨_, ⟨hv, ?_, ⟨by omega, fun y cy hy hn' => q10 y cy (by simpa using hn') hy, fun y cy hy => ?_⟩, q11, ⟨E', _, q1.1, by rw [q2.2.1]; exact e2, by rw [q2.2.1]; exact e3, by rw [q2.1]; exact obV, fun _ => by rw [hsz]; exact e5 i3⟩,
    ⟨E', cfV, kV, iV, fV, q1.1, gV, stV, by rw [q2.1]; exact knV, by rw [q2.1]; exact obV, by rw [q2.2.1]; exact asV, q3⟩, ⟨E', cfC, kC, iC, fC, q1.1, gC, stC, by rw [q2.1]; exact knV, by rw [q2.1]; exact obV, by rw [q2.2.1]; exact asC, q4⟩,
    ⟨V', ⟨q5.1, State.isArrayOf_alike al'.symm q5.2.1, q5.2.2.1⟩, q6, by rw [← al'.findClass]; exact q7, q8, fun j hj => by have := q9 j hj; rwa [Nat.zero_add] at this⟩, fun O n d w F n1 n2 => ?_⟩, hl, hc, hs⟩, st⟩
  · intro y hy
    simp only [List.mem_cons, List.not_mem_nil, or_false] at hy
    rcases hy with rfl | rfl <;> rfl
  · by_cases q : y = x
    · subst q
      cases hD.symm.trans hy
      exact ⟨E', q1.1, q2.2.1, q2.1, hsz⟩
    · exact ⟨cy, q10 y cy q hy, rfl, rfl, rfl⟩
  · obtain ⟨D3, cf, k, i, f, g1, g2, g3, g4, g5, g6, g7⟩ := F
    cases hD.symm.trans g1
    simp only [RoadKit.slotOf, g2, gV, gC, Option.map_some, Option.getD_some] at n1 n2
    exact ⟨E', cf, k, i, f, q1.1, g2, g3, by rw [q2.1]; exact g4, by rw [q2.1]; exact g5, by rw [q2.2.1]; exact g6, by rw [q2.2.2 f.slot (by simp [n1, n2])]; exact g7⟩
end StrChars.Road
namespace StrChars.Road
open Jvm Sem ClassFile Op Lib Jvm.Stand Jvm.Free Jvm.Free.XT
/-- WHAT COMES BACK, the byte[] as a list of values -/
def QA (Z : State) (x : Addr) (zn : Int32) (cs : List Int32) (h : Heap) (v : Option Value) (h' : Heap) (L : List Loc) : Prop := v = none ∧ (∀ y ∈ L, y.base = x) ∧ RoadKit.Keep h h' [x] ∧ h'.size = h.size + 1 ∧ RoadKit.Exa Z h' x ST ∧ RoadKit.Fld Z h' x ST "value" "[B" (.ref h.size) ∧ RoadKit.Fld Z h' x ST "coder" "B" (.int 0) ∧
  (∃ kb, Z.vm.findClass "[B" = some kb ∧ RoadKit.Arv Z h' h.size kb .byte zn (cs.map fun c => .int (lo8 c)) (.int 0)) ∧
  ∀ (O n d : String) (w : Value), RoadKit.Fld Z h x O n d w → RoadKit.slotOf Z O n d ≠ RoadKit.slotOf Z ST "value" "[B" → RoadKit.slotOf Z O n d ≠ RoadKit.slotOf Z ST "coder" "B" → RoadKit.Fld Z h' x O n d w
/-- **new String(chars) AT A CALL, THE ARRAYS AS LISTS**: the char[] at b holds cs, not empty, no char above 255 -/
theorem backArv {p : Program} {l : Launch} {e : Env} {R : Room} {s : State} {args : Array Value} {below : List Frame} {len W : Nat} {Z : State} {a0 : Array Value} {h : Heap} (hZ : Z.Warmed39 s.vm) (hw : ∀ d ∈ words, d.before a0 Z = true) {kI : Nat} (wi : (Jvm.Cond.instantiable ST kI).before a0 Z = true)
    {x b : Addr} {k : ClassId} {zn z : Int32} {cs : List Int32} {dv v0 c0 : Value} (E : RoadKit.Exa Z h x ST) (V : RoadKit.Fld Z h x ST "value" "[B" v0) (C : RoadKit.Fld Z h x ST "coder" "B" c0) (K : RoadKit.Arv Z h b k .char zn (cs.map Value.int) dv) (S : RoadKit.Sta Z h ST "COMPACT_STRINGS" "Z" (.int z)) (hz : ¬ z = 0)
    (hlen : zn.toNatClampNeg = cs.length) (h0 : 0 < cs.length) (hbig : cs.length ≤ 536870912) (hall : ∀ c ∈ cs, ¬ 255 < c) (hfr : 4 ≤ R.frames) (hlo : W + 65 ≤ R.locals) :
    Back l R p e below s args New1.yN len W (fun P a => a = #[.ref x, .ref b] ∧ P.U.heap = h ∧ P.cells + 1 ≤ R.cells ∧ P.slots + cs.length ≤ R.slots)
      (fun P _ v B => ∃ L, QA Z x zn cs h v B.U.heap L ∧ B.locs = P.locs ++ L ∧ B.cells = P.cells + 1 ∧ B.slots = P.slots + cs.length) := by
  obtain ⟨A, K1, K2, K3, K4, K5, K6⟩ := K
  have e : A.slots.size = cs.length := K3.trans hlen
  have hat : ∀ (i : Nat) (hi : i < cs.length), A.slots[i]? = some (.int cs[i]) := fun i hi => by rw [K5 i (by omega)]; simp [List.getD_eq_getElem?_getD, hi]
  have hcv : ∀ (i : Nat) (hi : i < cs.length), cv A i = cs[i] := fun i hi => by unfold cv; rw [hat i hi]
  have hty : Typed .char A := fun i v hv => by
    have hi : i < A.slots.size := (Array.getElem?_eq_some_iff.mp hv).1
    have q := K5 i hi
    rw [hv] at q
    rw [Option.some.inj q]
    exact K6 i hi
  refine Back.mono (back hZ hw wi E V C K1 hty S hz (by omega) (by omega) (fun i hi => by rw [hcv i (by omega)]; exact hall _ (List.getElem_mem _)) hfr hlo) (fun P a hp => ⟨hp.1, hp.2.1, hp.2.2.1, by rw [e]; exact hp.2.2.2⟩) (fun P a v B hp hq => ?_)
  obtain ⟨L, ⟨q1, q2, q3, q4, q5, q6, q7, ⟨V', v1, v2, v3, v4, v5⟩, q9⟩, hl, hc, hs⟩ := hq
  refine ⟨L, ⟨q1, q2, q3, q4, q5, q6, q7, ⟨V'.cls, v3, V', v1, rfl, by rw [v4, e, hlen], K4, fun i hi => ?_, fun i hi => ?_⟩, q9⟩, hl, hc, by rw [hs, e]⟩
  · have hi' : i < cs.length := by omega
    rw [v5 i (by omega), hcv i hi']; simp [List.getD_eq_getElem?_getD, hi']
  · have hi' : i < cs.length := by omega
    simp only [List.getD_eq_getElem?_getD, List.getElem?_map, List.getElem?_eq_getElem hi', Option.map_some, Option.getD_some]
    exact fits_lo8 _
end StrChars.Road
namespace StrChars.Road
open Jvm Sem ClassFile Op Lib Jvm.Stand Jvm.Free Jvm.Free.XT
/-- WHAT COMES BACK, in the writer's own shape -/
def QV (Z : State) (x : Addr) (N : Int32) (bs : List Int32) (h : Heap) (n0 : Nat) (v : Option Value) (h' : Heap) (L : List Loc) : Prop := v = none ∧ RoadKit.Fr n0 L ∧ RoadKit.Keep h h' [x] ∧ RoadKit.Exa Z h' x ST ∧ RoadKit.Fld Z h' x ST "coder" "B" (.int 0) ∧
  ∃ (t : Addr) (kb : ClassId), n0 ≤ t ∧ h.size ≤ t ∧ ¬ t = x ∧ RoadKit.Fld Z h' x ST "value" "[B" (.ref t) ∧ RoadKit.Arv Z h' t kb .byte N (bs.map Value.int) (.int 0)
/-- **new String(chars) AT A CALL, FOR THE WRITER**: a char[] of n known ints, each 0 to 255 -/
theorem backV {p : Program} {l : Launch} {e : Env} {R : Room} {s : State} {args : Array Value} {below : List Frame} {len W : Nat} {Z : State} {a0 : Array Value} {h : Heap} (hZ : Z.Warmed39 s.vm) (hw : ∀ d ∈ words, d.before a0 Z = true) {kI : Nat} (wi : (Jvm.Cond.instantiable ST kI).before a0 Z = true)
    {x b : Addr} {kC : ClassId} {cs bs : List Int32} {d v0 c0 : Value} {z N : Int32} {n n0 : Nat} (hx0 : n0 ≤ x) (hh0 : n0 ≤ h.size) (E : RoadKit.Exa Z h x ST) (V : RoadKit.Fld Z h x ST "value" "[B" v0) (C : RoadKit.Fld Z h x ST "coder" "B" c0) (K : RoadKit.Arv Z h b kC .char N (cs.map Value.int) d) (S : RoadKit.Sta Z h ST "COMPACT_STRINGS" "Z" (.int z)) (hz : ¬ z = 0)
    (hn : cs.length = n) (hN : N = Int32.ofNat n) (l0 : 0 < n) (l2 : n ≤ 4000) (hp : ∀ c ∈ cs, ¬ c < 0 ∧ ¬ (255 : Int32) < c) (hb : bs = cs.map (fun c => c.toInt8.toInt32)) (hfr : 4 ≤ R.frames) (hlo : W + 65 ≤ R.locals) :
    Back l R p e below s args (⟨"java/lang/String", "<init>", "([C)V"⟩ : MethodName) len W (fun P a => a = #[.ref x, .ref b] ∧ P.U.heap = h ∧ P.cells + 1 ≤ R.cells ∧ P.slots + n ≤ R.slots)
      (fun P _ v B => ∃ L, QV Z x N bs h n0 v B.U.heap L ∧ B.locs = P.locs ++ L ∧ B.cells = P.cells + 1 ∧ B.slots = P.slots + n) := by
  subst hn hN hb
  refine Back.mono (backArv hZ hw wi E V C K S hz (n32 (by omega)) l0 (by omega) (fun c hc => (hp c hc).2) hfr hlo) (fun P a hp => hp) (fun P a v B hp hq => ?_)
  obtain ⟨L, ⟨q1, q2, q3, q4, q5, q6, q7, ⟨kb, v1, v2⟩, q9⟩, hl, hc, hs⟩ := hq
  exact ⟨L, ⟨q1, fun y hy => by rw [q2 y hy]; exact hx0, q3, q5, q7, h.size, kb, hh0, Nat.le_refl _, Nat.ne_of_gt E.lt, q6, by rw [List.map_map]; exact v2⟩, hl, hc, hs⟩
end StrChars.Road
namespace StrChars
open Jvm Sem ClassFile Op Lib Jvm.Stand Jvm.Free.XT Jvm.Free.ALB Jvm.Free.JM Jvm.Free
open Jvm.Lib.Cold (StaticIs)
def hi8 (x : Int32) : Int32 := lo8 (x >>> ((8 : Int32) &&& 31))
/-- what StringUTF16.getChar makes of two bytes -/
def pairCh (u v : Int32) : Int32 := (((u &&& 255) <<< ((0 : Int32) &&& 31)) ||| ((v &&& 255) <<< ((8 : Int32) &&& 31))).toUInt32.toUInt16.toUInt32.toInt32
theorem lo8_and (x : Int32) : (lo8 x &&& 255).toBitVec.toNat = x.toBitVec.toNat % 256 := by
  have h : (lo8 x).toBitVec = (x.toBitVec.signExtend 8).signExtend 32 := by rw [lo8, Int8.toBitVec_toInt32, Int32.toBitVec_toInt8]
  rw [Int32.toBitVec_and, BitVec.toNat_and, h]
  have e : ((x.toBitVec.signExtend 8).signExtend 32).toNat % 256 = x.toBitVec.toNat % 256 := by
    rw [BitVec.toNat_signExtend]
    have hlt := x.toBitVec.isLt
    simp only [BitVec.toNat_setWidth, BitVec.toNat_signExtend]
    split <;> split <;> omega
  rw [← e]
  exact Nat.and_two_pow_sub_one_eq_mod _ 8
theorem pair_says {c : Int32} (h0 : ¬ c < 0) (h1 : ¬ 65535 < c) : pairCh (lo8 c) (hi8 c) = c := by
  rw [Int32.lt_iff_toInt_lt] at h0 h1
  have e0 : (0 : Int32).toInt = 0 := rfl
  have e1 : (65535 : Int32).toInt = 65535 := rfl
  have hc : c.toInt = c.toBitVec.toNat := by
    have := c.toBitVec.isLt
    have e : c.toInt = c.toBitVec.toInt := rfl
    rw [e] at h0 h1
    rw [e]
    rw [BitVec.toInt_eq_toNat_cond] at h0 h1 ⊢
    split at h0 <;> split <;> omega
  have hn : c.toBitVec.toNat < 65536 := by omega
  have a1 := lo8_and c
  have a2 : (hi8 c &&& 255).toBitVec.toNat = c.toBitVec.toNat / 256 := by
    rw [hi8, lo8_and]
    have e : ((8 : Int32) &&& 31) = 8 := by decide
    rw [e, Int32.toBitVec_shiftRight]
    have e2 : ((8 : Int32).toBitVec.smod 32) = 8#32 := by decide
    rw [e2, BitVec.sshiftRight_eq', BitVec.toNat_sshiftRight_of_msb_false (by rw [BitVec.msb_eq_false_iff_two_mul_lt]; omega)]
    show c.toBitVec.toNat >>> 8 % 256 = _
    rw [Nat.shiftRight_eq_div_pow]
    omega
  unfold pairCh
  apply Int32.toBitVec_inj.mp
  apply BitVec.eq_of_toNat_eq
  have f0 : ((0 : Int32) &&& 31) = 0 := by decide
  have f8 : ((8 : Int32) &&& 31) = 8 := by decide
  rw [f0, f8]
  have g : (((lo8 c &&& 255) <<< (0 : Int32)) ||| ((hi8 c &&& 255) <<< (8 : Int32))).toBitVec.toNat = c.toBitVec.toNat := by
    rw [Int32.toBitVec_or, Int32.toBitVec_shiftLeft, Int32.toBitVec_shiftLeft]
    have s0 : ((0 : Int32).toBitVec.smod 32) = 0#32 := by decide
    have s8 : ((8 : Int32).toBitVec.smod 32) = 8#32 := by decide
    rw [s0, s8, BitVec.toNat_or]
    simp only [BitVec.shiftLeft_eq', BitVec.toNat_shiftLeft, a1, a2]
    show (c.toBitVec.toNat % 256) <<< 0 % 2 ^ 32 ||| (c.toBitVec.toNat / 256) <<< 8 % 2 ^ 32 = _
    rw [Nat.shiftLeft_zero, Nat.mod_eq_of_lt (show c.toBitVec.toNat % 256 < 2 ^ 32 by omega), Nat.mod_eq_of_lt (show (c.toBitVec.toNat / 256) <<< 8 < 2 ^ 32 by rw [Nat.shiftLeft_eq]; omega), Nat.or_comm, ← Nat.shiftLeft_add_eq_or_of_lt (by omega), Nat.shiftLeft_eq]
    omega
  show BitVec.toNat (((((lo8 c &&& 255) <<< (0 : Int32)) ||| ((hi8 c &&& 255) <<< (8 : Int32))).toBitVec.setWidth 16).setWidth 32) = _
  rw [BitVec.toNat_setWidth, BitVec.toNat_setWidth, g]
  omega
end StrChars
namespace StrChars
open Jvm Sem ClassFile Op Lib Jvm.Stand Jvm.Free.XT Jvm.Free.ALB Jvm.Free.JM Jvm.Free
open Jvm.Lib.Cold (StaticIs)
/-- the array's cell V codes the n chars f 0 .. f (n - 1) by the coder cd, as the JDK does: coder 1 just where some char is above 255 -/
def Cod (cd : Int32) (n : Nat) (f : Nat → Int32) (V : Cell) : Prop := (cd = 0 ∧ V.slots.size = n ∧ ∀ j, j < n → V.slots[j]? = some (.int (lo8 (f j))) ∧ ¬ 255 < f j) ∨ (cd = 1 ∧ V.slots.size = 2 * n ∧ (∀ j, j < n → V.slots[2 * j]? = some (.int (lo8 (f j))) ∧ V.slots[2 * j + 1]? = some (.int (hi8 (f j)))) ∧ ∃ j, j < n ∧ 255 < f j)
/-- **x is a String of the n chars f 0 .. f (n - 1)**, Latin-1 or UTF-16; its array at t has the cell V -/
def Txt (x t : Addr) (V : Cell) (cd : Int32) (n : Nat) (f : Nat → Int32) (U : State) : Prop := Exact "java/lang/String" x U ∧ Has x "java/lang/String" "value" "[B" (.ref t) U ∧ Has x "java/lang/String" "coder" "B" (.int cd) U ∧ XT.Arr .byte t V U ∧ Cod cd n f V ∧ ∀ j, j < n → ¬ f j < 0 ∧ ¬ 65535 < f j
theorem Txt.mv {x t : Addr} {V : Cell} {cd : Int32} {n : Nat} {f : Nat → Int32} {U U' : State} (h : Txt x t V cd n f U) (hal : U.vm.Alike U'.vm) (hh : U'.heap = U.heap) : Txt x t V cd n f U' := ⟨h.1.mv hal hh, h.2.1.mv hal hh, h.2.2.1.mv hal hh, h.2.2.2.1.mv hal hh, h.2.2.2.2⟩
end StrChars
namespace StrChars.Road
open Jvm Sem ClassFile Op Lib Jvm.Stand Jvm.Free Jvm.Free.XT
open Jvm.Lib.Cold (StaticIs)
theorem consq {a : Array Value} {s : State} {c : Jvm.Cond} {L : List Jvm.Cond} (h0 : c.before a s = true) (h : ∀ w ∈ L, w.before a s = true) : ∀ w ∈ c :: L, w.before a s = true := fun w hw => (List.mem_cons.mp hw).elim (fun e => e ▸ h0) (h w)
/-- the bytes of the chars cs, low before high -/
def wideBytes : List Int32 → List Value
  | [] => []
  | c :: cs => .int (lo8 c) :: .int (hi8 c) :: wideBytes cs
theorem wide_lo (d : Value) : ∀ (cs : List Int32) (j : Nat), j < cs.length → (wideBytes cs).getD (2 * j) d = .int (lo8 (cs.getD j 0))
  | [], j, h => absurd h (Nat.not_lt_zero j)
  | c :: cs, 0, _ => rfl
  | c :: cs, j + 1, h => by
    have q := wide_lo d cs j (by simpa using h)
    rw [show 2 * (j + 1) = 2 * j + 1 + 1 from by omega]
    simpa [wideBytes] using q
theorem wide_hi (d : Value) : ∀ (cs : List Int32) (j : Nat), j < cs.length → (wideBytes cs).getD (2 * j + 1) d = .int (hi8 (cs.getD j 0))
  | [], j, h => absurd h (Nat.not_lt_zero j)
  | c :: cs, 0, _ => rfl
  | c :: cs, j + 1, h => by
    have q := wide_hi d cs j (by simpa using h)
    rw [show 2 * (j + 1) + 1 = 2 * j + 1 + 1 + 1 from by omega]
    simpa [wideBytes] using q
theorem low_at (d : Value) (cs : List Int32) (j : Nat) (h : j < cs.length) : (cs.map fun c => Value.int (lo8 c)).getD j d = .int (lo8 (cs.getD j 0)) := by
  simp [List.getD_eq_getElem?_getD, h]
/-- an array of N2 bytes vs codes the chars cs by the coder cd -/
def CodA (cs : List Int32) (cd N2 : Int32) (vs : List Value) : Prop := (cd = 0 ∧ N2 = Int32.ofNat cs.length ∧ vs = (cs.map fun c => Value.int (lo8 c)) ∧ ∀ c ∈ cs, ¬ 255 < c) ∨ (cd = 1 ∧ N2 = Int32.ofNat (2 * cs.length) ∧ vs = wideBytes cs ∧ ∃ c ∈ cs, 255 < c)
theorem CodA.cod {cs : List Int32} {cd N2 : Int32} {vs : List Value} {V : Cell} (h : CodA cs cd N2 vs) (hn : 2 * cs.length < 2 ^ 31) (hs : V.slots.size = N2.toNatClampNeg) (hv : RoadKit.Has V vs (.int 0)) : Cod cd cs.length (fun j => cs.getD j 0) V := by
  rcases h with ⟨rfl, rfl, rfl, h⟩ | ⟨rfl, rfl, rfl, c, hc, hw⟩
  · rw [n32 (by omega)] at hs
    exact Or.inl ⟨rfl, hs, fun j hj => ⟨by rw [hv j (by omega), low_at _ _ _ hj], by
      have e : cs.getD j 0 = cs[j] := by simp [List.getD_eq_getElem?_getD, hj]
      show ¬ 255 < cs.getD j 0
      rw [e]; exact h _ (List.getElem_mem _)⟩⟩
  · rw [n32 (by omega)] at hs
    obtain ⟨j, hj, rfl⟩ := List.getElem_of_mem hc
    exact Or.inr ⟨rfl, hs, fun j hj => ⟨by rw [hv _ (by omega), wide_lo _ _ _ hj], by rw [hv _ (by omega), wide_hi _ _ _ hj]⟩, j, hj, by
      have e : cs.getD j 0 = cs[j] := by simp [List.getD_eq_getElem?_getD, hj]
      show 255 < cs.getD j 0
      rw [e]; exact hw⟩
/-- an object of exactly java/lang/String, its two fields found: as the laws ask it -/
theorem strObj {Z U : State} {a0 : Array Value} {kI : Nat} (wi : (Jvm.Cond.instantiable ST kI).before a0 Z = true) (al : Z.vm.Alike U.vm) {x : Addr} {v0 c0 : Value} (E : RoadKit.Exa Z U.heap x ST) (V : RoadKit.Fld Z U.heap x ST "value" "[B" v0) (C : RoadKit.Fld Z U.heap x ST "coder" "B" c0) :
    ∃ (D : Cell) (fV fC : Field), Blank ST x D U ∧ Found ST "value" "[B" fV U ∧ Found ST "coder" "B" fC U ∧ D.slots[fV.slot]? = some v0 ∧ D.slots[fC.slot]? = some c0 ∧ RoadKit.slotOf Z ST "value" "[B" = fV.slot ∧ RoadKit.slotOf Z ST "coder" "B" = fC.slot := by
  obtain ⟨D, cfV, kV, iV, fV, hD, gV, stV, knV, obV, asV, slV⟩ := V
  obtain ⟨D', cfC, kC, iC, fC, hD', gC, stC, -, -, asC, slC⟩ := C
  cases hD.symm.trans hD'
  obtain ⟨D2, kD, e1, e2, e3, e4, e5⟩ := E
  cases hD.symm.trans e1
  obtain ⟨c2, k2, i1, i2, i3, -⟩ := Cond.instantiable_spec wi
  cases e2.symm.trans i1
  cases e3.symm.trans i2
  obtain ⟨kU, u1, u2⟩ := al.2.2 _ _ e3
  exact ⟨D, fV, fC, ⟨hD, ⟨knV, fun q hq => by rw [hq] at obV; cases obV⟩, by rw [al.findClass]; exact e2, kU, u1, by rw [u2]; exact i3, by rw [u2]; exact e5 i3⟩, ⟨SBG.found_only al ⟨cfV, kV, iV, gV⟩, stV⟩, ⟨SBG.found_only al ⟨cfC, kC, iC, gC⟩, stC⟩, slV, slC, by simp [RoadKit.slotOf, gV], by simp [RoadKit.slotOf, gC]⟩
theorem sta_is {Z U : State} (al : Z.vm.Alike U.vm) {C n d : String} {v : Value} (S : RoadKit.Sta Z U.heap C n d v) : StaticIs U C n d v := by
  obtain ⟨cfS, iS, kS, fS, st, cS, t1, t2, t3, t4, t5, t6, t7⟩ := S
  exact StaticIs.there (s := { Z with heap := U.heap }) ⟨cfS, iS, kS, fS, st, cS, t1, t2, t3, t4, t5, (fun q => by rw [q] at t6; cases t6), t7⟩ al rfl
end StrChars.Road
namespace StrChars
open Jvm Sem ClassFile Op Lib Jvm.Stand Jvm.Free.XT Jvm.Free.ALB Jvm.Free.JM Jvm.Free
open Jvm.Lib.Cold (StaticIs)
/-- what place i of a byte[]'s cell holds -/
def yv (A : Cell) (i : Nat) : Int32 := match A.slots[i]? with | some (.int x) => x | _ => 0
theorem yv_get {a : Addr} {A : Cell} {U : State} (h : XT.Arr .byte a A U) (ht : Typed .byte A) {i : Nat} (hi : i < A.slots.size) : A.slots[i]? = some (.int (yv A i)) := by
  have e := Array.getElem?_eq_getElem hi
  have f := ht i _ e
  unfold yv; rw [e]
  generalize A.slots[i] = v at f
  cases v <;> simp [fits] at f ⊢
/-- the two arrays are equal, place for place -/
def EqC (A B : Cell) : Prop := A.slots.size = B.slots.size ∧ ∀ i, i < A.slots.size → yv A i = yv B i
/-- a boolean that says whether p -/
def Says01 (q : Prop) (r : Option Value) (s u : State) : Prop := ∃ v : Int32, r = some (.int v) ∧ u.heap = s.heap ∧ ((v = 1 ∧ q) ∨ (v = 0 ∧ ¬ q))
theorem Says01.mv {q : Prop} : ∀ r (U U' V V' : State), U'.heap = U.heap → V.vm.Alike V'.vm → V'.heap = V.heap → Says01 q r U V → Says01 q r U' V' :=
  fun r U U' V V' h1 _ h2 ⟨v, a, b, c⟩ => ⟨v, a, by rw [h1, h2]; exact b, c⟩
namespace LEq
def yN : MethodName := ⟨"java/lang/StringLatin1", "equals", "([B[B)Z"⟩
abbrev yB : ByteArray := jdk_43_method_13_code
theorem d0 : decode yB 0 = .ok (.aload_n 0, 1) := by decide +kernel
theorem d1 : decode yB 1 = .ok (.arraylength, 1) := by decide +kernel
theorem d2 : decode yB 2 = .ok (.aload_n 1, 1) := by decide +kernel
theorem d3 : decode yB 3 = .ok (.arraylength, 1) := by decide +kernel
theorem d4 : decode yB 4 = .ok (.if_icmp (.ne) 30, 3) := by decide +kernel
theorem d7 : decode yB 7 = .ok (.iconst 0, 1) := by decide +kernel
theorem d8 : decode yB 8 = .ok (.istore_n 2, 1) := by decide +kernel
theorem d9 : decode yB 9 = .ok (.iload_n 2, 1) := by decide +kernel
theorem d10 : decode yB 10 = .ok (.aload_n 0, 1) := by decide +kernel
theorem d11 : decode yB 11 = .ok (.arraylength, 1) := by decide +kernel
theorem d12 : decode yB 12 = .ok (.if_icmp (.ge) 20, 3) := by decide +kernel
theorem d15 : decode yB 15 = .ok (.aload_n 0, 1) := by decide +kernel
theorem d16 : decode yB 16 = .ok (.iload_n 2, 1) := by decide +kernel
theorem d17 : decode yB 17 = .ok (.baload, 1) := by decide +kernel
theorem d18 : decode yB 18 = .ok (.aload_n 1, 1) := by decide +kernel
theorem d19 : decode yB 19 = .ok (.iload_n 2, 1) := by decide +kernel
theorem d20 : decode yB 20 = .ok (.baload, 1) := by decide +kernel
theorem d21 : decode yB 21 = .ok (.if_icmp (.eq) 5, 3) := by decide +kernel
theorem d24 : decode yB 24 = .ok (.iconst 0, 1) := by decide +kernel
theorem d25 : decode yB 25 = .ok (.ireturn, 1) := by decide +kernel
theorem d26 : decode yB 26 = .ok (.iinc 2 1, 3) := by decide +kernel
theorem d29 : decode yB 29 = .ok (.goto (-20), 3) := by decide +kernel
theorem d32 : decode yB 32 = .ok (.iconst 1, 1) := by decide +kernel
theorem d33 : decode yB 33 = .ok (.ireturn, 1) := by decide +kernel
theorem d34 : decode yB 34 = .ok (.iconst 0, 1) := by decide +kernel
theorem d35 : decode yB 35 = .ok (.ireturn, 1) := by decide +kernel
def site : List Cond := []
def tab : Cond := tabOf yN yB 3 (some .boolean) site
def P (a : Addr) (A : Cell) (b : Addr) (B : Cell) (args : Array Value) (s : State) : Prop := args = #[.ref a, .ref b] ∧ XT.Arr .byte a A s ∧ Typed .byte A ∧ XT.Arr .byte b B s ∧ Typed .byte B
/-- whether two byte[] are equal, place for place -/
theorem law (l : Launch) (a : Addr) (A : Cell) (b : Addr) (B : Cell) : Law l yN 2 2 0 0 yB 3 (some .boolean) site (P a A b B) (Says01 (EqC A B)) [] 0 0 := by
  refine Law.of_walk (plainFor_of_name (by decide +kernel)) (by decide +kernel) (by decide +kernel) (by decide) (fun _ _ h => by rw [h.1]; rfl) (fun _ U U' hal hh h => ⟨h.1, h.2.1.mv hal hh, h.2.2.1, h.2.2.2.1.mv hal hh, h.2.2.2.2⟩) (fun r U U' V V' h1 hal h2 h => Says01.mv r U U' V V' h1 hal h2 h) ?_
  intro p e s m args below meth c s₁ X0 hexec hbytes hml hret hlk hnm hown hh0 W hP
  obtain ⟨rfl, hA, tA, hB, tB⟩ := hP
  have a31 := hA.2.2.2
  have b31 := hB.2.2.2
  have hA0 := hA.mv X0.warmed.alike hh0
  have hB0 := hB.mv X0.warmed.alike hh0
  have c1 : Steps p.tables e below (s₁.setTop (entryFrame m #[.ref a, .ref b] 3)) (s₁.setTop (mkF m 0 #[.val (.ref a), .val (.ref b), .unset] [])) := entry rfl
  have c2 : Steps p.tables e below (s₁.setTop (entryFrame m #[.ref a, .ref b] 3)) (s₁.setTop (mkF m 4 #[.val (.ref a), .val (.ref b), .unset] [.int (Int32.ofNat B.slots.size), .int (Int32.ofNat A.slots.size)])) := c1.trans (by
    refine XS.aloadN X0.here hexec rfl (hb hbytes d0) rfl rfl ?_
    refine X0.alen hexec hA0 rfl rfl (hb hbytes d1) ?_
    refine XS.aloadN X0.here hexec rfl (hb hbytes d2) rfl rfl ?_
    refine X0.alen hexec hB0 rfl rfl (hb hbytes d3) ?_
    exact Steps.refl _)
  by_cases hs : A.slots.size = B.slots.size
  · have c3 : Steps p.tables e below (s₁.setTop (entryFrame m #[.ref a, .ref b] 3)) (s₁.setTop (mkF m 9 #[.val (.ref a), .val (.ref b), .val (.int 0)] [])) := c2.trans (by
      refine XS.icmpNo X0.here hexec rfl (hb hbytes d4) rfl (ii_ne_f (by rw [hs])) ?_
      refine iconstV X0.here hexec rfl 0 (hb hbytes d7) (by decide) ?_
      refine XS.istoreN X0.here hexec rfl (hb hbytes d8) rfl rfl ?_
      exact Steps.refl _)
    have loop : ∀ (r i : Nat), i + r = A.slots.size → (∀ j, j < i → yv A j = yv B j) → Steps p.tables e below (s₁.setTop (entryFrame m #[.ref a, .ref b] 3)) (s₁.setTop (mkF m 9 #[.val (.ref a), .val (.ref b), .val (.int (Int32.ofNat i))] [])) → ∃ (pc : Nat) (Ls : Array Slot) (v : Int32), (pc = 25 ∨ pc = 33) ∧ ((v = 1 ∧ EqC A B) ∨ (v = 0 ∧ ¬ EqC A B)) ∧ Steps p.tables e below (s₁.setTop (entryFrame m #[.ref a, .ref b] 3)) (s₁.setTop (mkF m pc Ls [.int v])) := by
      intro r
      induction r with
      | zero =>
        intro i hi he cl
        exact ⟨33, _, 1, Or.inr rfl, Or.inl ⟨rfl, hs, fun j hj => he j (by omega)⟩, cl.trans (by
          refine XS.iloadN X0.here hexec rfl (hb hbytes d9) rfl ?_
          refine XS.aloadN X0.here hexec rfl (hb hbytes d10) rfl rfl ?_
          refine X0.alen hexec hA0 rfl rfl (hb hbytes d11) ?_
          refine XS.icmpYes X0.here hexec rfl (pc0 := 12) rfl (hb hbytes d12) rfl (ii_ge_t (nlt32 (by omega) (by omega))) (by decide) rfl ?_
          refine iconstV X0.here hexec rfl 1 (hb hbytes d32) (by decide) ?_
          exact Steps.refl _)⟩
      | succ r ih =>
        intro i hi he cl
        have c4 : Steps p.tables e below (s₁.setTop (entryFrame m #[.ref a, .ref b] 3)) (s₁.setTop (mkF m 21 #[.val (.ref a), .val (.ref b), .val (.int (Int32.ofNat i))] [.int (yv B i), .int (yv A i)])) := cl.trans (by
          refine XS.iloadN X0.here hexec rfl (hb hbytes d9) rfl ?_
          refine XS.aloadN X0.here hexec rfl (hb hbytes d10) rfl rfl ?_
          refine X0.alen hexec hA0 rfl rfl (hb hbytes d11) ?_
          refine XS.icmpNo X0.here hexec rfl (hb hbytes d12) rfl (ii_ge_f (lt32 (by omega) (by omega))) ?_
          refine XS.aloadN X0.here hexec rfl (hb hbytes d15) rfl rfl ?_
          refine XS.iloadN X0.here hexec rfl (hb hbytes d16) rfl ?_
          refine X0.aget hexec hA0 rfl (yv_get hA tA (i := i) (by omega)) rfl rfl (hb hbytes d17) ?_
          refine XS.aloadN X0.here hexec rfl (hb hbytes d18) rfl rfl ?_
          refine XS.iloadN X0.here hexec rfl (hb hbytes d19) rfl ?_
          refine X0.aget hexec hB0 rfl (yv_get hB tB (i := i) (by omega)) rfl rfl (hb hbytes d20) ?_
          exact Steps.refl _)
        by_cases hv : yv A i = yv B i
        · have c5 : Steps p.tables e below (s₁.setTop (entryFrame m #[.ref a, .ref b] 3)) (s₁.setTop (mkF m 9 #[.val (.ref a), .val (.ref b), .val (.int (Int32.ofNat i + 1))] [])) := c4.trans (by
            refine XS.icmpYes X0.here hexec rfl (pc0 := 21) rfl (hb hbytes d21) rfl (ii_eq_t hv) (by decide) rfl ?_
            refine iincV X0.here hexec rfl 1 (hb hbytes d26) (by decide) rfl rfl ?_
            refine XS.goto X0.here hexec rfl (pc0 := 29) rfl (hb hbytes d29) (by decide) rfl ?_
            exact Steps.refl _)
          rw [succ32] at c5
          exact ih (i + 1) (by omega) (fun j hj => by
            by_cases e : j = i
            · rw [e]; exact hv
            · exact he j (by omega)) c5
        · exact ⟨25, _, 0, Or.inl rfl, Or.inr ⟨rfl, fun q => hv (q.2 i (by omega))⟩, c4.trans (by
            refine XS.icmpNo X0.here hexec rfl (hb hbytes d21) rfl (ii_eq_f hv) ?_
            refine iconstV X0.here hexec rfl 0 (hb hbytes d24) (by decide) ?_
            exact Steps.refl _)⟩
    obtain ⟨pc, Ls, v, hpc, hv, cz⟩ := loop A.slots.size 0 (by omega) (fun j hj => absurd hj (Nat.not_lt_zero j)) c3
    have nv : narrow .boolean (.int v) = .int v := by rcases hv with ⟨rfl, -⟩ | ⟨rfl, -⟩ <;> rfl
    rcases hpc with rfl | rfl
    · exact ⟨s₁, some (.int v), _, _, _, X0, rfl, rfl, rfl, (fun h => by cases h), ⟨v, rfl, hh0, hv⟩, fun fs hl => cz.trans (X0.ireturnOut hexec hret nv (Or.inr (Or.inl rfl)) (hb hbytes d25) hl)⟩
    · exact ⟨s₁, some (.int v), _, _, _, X0, rfl, rfl, rfl, (fun h => by cases h), ⟨v, rfl, hh0, hv⟩, fun fs hl => cz.trans (X0.ireturnOut hexec hret nv (Or.inr (Or.inl rfl)) (hb hbytes d33) hl)⟩
  · have c3 : Steps p.tables e below (s₁.setTop (entryFrame m #[.ref a, .ref b] 3)) (s₁.setTop (mkF m 35 #[.val (.ref a), .val (.ref b), .unset] [.int 0])) := c2.trans (by
      refine XS.icmpYes X0.here hexec rfl (pc0 := 4) rfl (hb hbytes d4) rfl (ii_ne_t (ne32 a31 b31 hs)) (by decide) rfl ?_
      refine iconstV X0.here hexec rfl 0 (hb hbytes d34) (by decide) ?_
      exact Steps.refl _)
    exact ⟨s₁, some (.int 0), _, _, _, X0, rfl, rfl, rfl, (fun h => by cases h), ⟨0, rfl, hh0, Or.inr ⟨rfl, fun q => hs q.1⟩⟩, fun fs hl => c3.trans (X0.ireturnOut hexec hret rfl (Or.inr (Or.inl rfl)) (hb hbytes d35) hl)⟩
end LEq
theorem Cod.ty {cd : Int32} {n : Nat} {f : Nat → Int32} {V : Cell} (h : Cod cd n f V) : Typed .byte V := fun i v hv => by
  have hi : i < V.slots.size := (Array.getElem?_eq_some_iff.mp hv).1
  rcases h with ⟨-, k1, k2⟩ | ⟨-, k1, k2, -⟩
  · rw [(k2 i (by omega)).1] at hv; cases hv; exact fits_lo8 _
  · rcases Nat.mod_two_eq_zero_or_one i with e | e
    · obtain ⟨j, rfl⟩ : ∃ j, i = 2 * j := ⟨i / 2, by omega⟩
      rw [(k2 j (by omega)).1] at hv; cases hv; exact fits_lo8 _
    · obtain ⟨j, rfl⟩ : ∃ j, i = 2 * j + 1 := ⟨i / 2, by omega⟩
      rw [(k2 j (by omega)).2] at hv; cases hv; exact fits_lo8 _
/-- the same text -/
def SameT (n : Nat) (f : Nat → Int32) (k : Nat) (g : Nat → Int32) : Prop := n = k ∧ ∀ j, j < n → f j = g j
theorem lo8_inj {x y : Int32} (h0 : ¬ x < 0) (h1 : ¬ 255 < x) (k0 : ¬ y < 0) (k1 : ¬ 255 < y) (h : lo8 x = lo8 y) : x = y := by
  rw [← lo8_mask h0 h1, ← lo8_mask k0 k1, h]
/-- arrays coded by one coder are equal just where the texts are -/
theorem Cod.eqv {cd : Int32} {n k : Nat} {f g : Nat → Int32} {V V' : Cell} (h : Cod cd n f V) (h' : Cod cd k g V') (hf : ∀ j, j < n → ¬ f j < 0 ∧ ¬ 65535 < f j) (hg : ∀ j, j < k → ¬ g j < 0 ∧ ¬ 65535 < g j) : EqC V V' ↔ SameT n f k g := by
  have yvv : ∀ {W : Cell} {i : Nat} {x : Int32}, W.slots[i]? = some (.int x) → yv W i = x := fun q => by unfold yv; rw [q]
  rcases h with ⟨rfl, k1, k2⟩ | ⟨rfl, k1, k2, -⟩
  · rcases h' with ⟨-, m1, m2⟩ | ⟨e, -⟩
    · constructor
      · rintro ⟨e1, e2⟩
        refine ⟨by omega, fun j hj => ?_⟩
        have q := e2 j (by omega)
        rw [yvv (k2 j hj).1, yvv (m2 j (by omega)).1] at q
        exact lo8_inj (hf j hj).1 (k2 j hj).2 (hg j (by omega)).1 (m2 j (by omega)).2 q
      · rintro ⟨rfl, e2⟩
        refine ⟨by omega, fun j hj => ?_⟩
        rw [yvv (k2 j (by omega)).1, yvv (m2 j (by omega)).1, e2 j (by omega)]
    · exact absurd e (by decide)
  · rcases h' with ⟨e, -⟩ | ⟨-, m1, m2, -⟩
    · exact absurd e (by decide)
    · constructor
      · rintro ⟨e1, e2⟩
        refine ⟨by omega, fun j hj => ?_⟩
        have q1 := e2 (2 * j) (by omega)
        have q2 := e2 (2 * j + 1) (by omega)
        rw [yvv (k2 j hj).1, yvv (m2 j (by omega)).1] at q1
        rw [yvv (k2 j hj).2, yvv (m2 j (by omega)).2] at q2
        rw [← pair_says (hf j hj).1 (hf j hj).2, ← pair_says (hg j (by omega)).1 (hg j (by omega)).2, q1, q2]
      · rintro ⟨rfl, e2⟩
        refine ⟨by omega, fun i hi => ?_⟩
        rcases Nat.mod_two_eq_zero_or_one i with e | e
        · obtain ⟨j, rfl⟩ : ∃ j, i = 2 * j := ⟨i / 2, by omega⟩
          rw [yvv (k2 j (by omega)).1, yvv (m2 j (by omega)).1, e2 j (by omega)]
        · obtain ⟨j, rfl⟩ : ∃ j, i = 2 * j + 1 := ⟨i / 2, by omega⟩
          rw [yvv (k2 j (by omega)).2, yvv (m2 j (by omega)).2, e2 j (by omega)]
/-- two codings differ: so do the texts -/
theorem Cod.dif {cd cd' : Int32} {n k : Nat} {f g : Nat → Int32} {V V' : Cell} (h : Cod cd n f V) (h' : Cod cd' k g V') (hne : ¬ cd = cd') : ¬ SameT n f k g := by
  rintro ⟨rfl, e⟩
  rcases h with ⟨rfl, -, k2⟩ | ⟨rfl, -, -, j, hj, hw⟩
  · rcases h' with ⟨rfl, -⟩ | ⟨-, -, -, j, hj, hw⟩
    · exact hne rfl
    · exact (k2 j hj).2 (by rw [e j hj]; exact hw)
  · rcases h' with ⟨-, -, m2⟩ | ⟨rfl, -⟩
    · exact (m2 j hj).2 (by rw [← e j hj]; exact hw)
    · exact hne rfl
/-- an object of exactly C is an instance of C -/
theorem cinst {p : Program} {l : Launch} {e : Env} {R : Room} {s : State} {m : MethodId} {args : Array Value} {below : List Frame} {meth : Method} {c : Code} {T : State} {locs : List Loc} {cells slots : Nat} (X : Stand p l e R s m args below meth c T locs cells slots) (hexec : p.tables.exec = Jvm.exec) {own C : String} {index : Nat} (hown : s.vm.findClass own = some m.cls) (hlink : (Cond.classLink own index C).before args s = true) {a : Addr} (hE : Exact C a T)
    {g : JFrame} (hg : g.method = m) {rest : List Value} (hstack : g.stack = .ref a :: rest) (hdg : decode c.code g.pc = .ok (.instanceof index, 3)) :
    ∃ T', Stand p l e R s m args below meth c T' locs cells slots ∧ T'.heap = T.heap ∧ ∀ target, Steps p.tables e below (T'.setTop { g with pc := g.pc + 3, stack := .int 1 :: rest }) target → Steps p.tables e below (T.setTop g) target := by
  obtain ⟨cB, h1, D, h2, h3, h4⟩ := hE
  have h1' : s.vm.findClass C = some cB := by rw [← X.warmed.alike.findClass]; exact h1
  obtain ⟨vm', X', st⟩ := X.instanceofYes hexec hown hlink h2 h4 h1' (by rw [h3]; exact Jvm.Free.SB.assignable_self _ _) hg hstack hdg
  exact ⟨_, X', rfl, st⟩
theorem cself {p : Program} {l : Launch} {e : Env} {R : Room} {s : State} {m : MethodId} {args : Array Value} {below : List Frame} {meth : Method} {c : Code} {T : State} {locs : List Loc} {cells slots : Nat} (X : Stand p l e R s m args below meth c T locs cells slots) (hexec : p.tables.exec = Jvm.exec) {own C : String} {index : Nat} (hown : s.vm.findClass own = some m.cls) (hlink : (Cond.classLink own index C).before args s = true) {a : Addr} (hE : Exact C a T)
    {g : JFrame} (hg : g.method = m) {rest : List Value} (hstack : g.stack = .ref a :: rest) (hdg : decode c.code g.pc = .ok (.checkcast index, 3)) :
    ∃ T', Stand p l e R s m args below meth c T' locs cells slots ∧ T'.heap = T.heap ∧ ∀ target, Steps p.tables e below (T'.setTop { g with pc := g.pc + 3, stack := .ref a :: rest }) target → Steps p.tables e below (T.setTop g) target := by
  obtain ⟨cB, h1, D, h2, h3, h4⟩ := hE
  have h1' : s.vm.findClass C = some cB := by rw [← X.warmed.alike.findClass]; exact h1
  obtain ⟨vm', X', st⟩ := X.checkcastYes hexec hown hlink h2 h4 h1' (by rw [h3]; exact Jvm.Free.SB.assignable_self _ _) hg hstack hdg
  exact ⟨_, X', rfl, fun t h => st t (by rw [← hstack] at h; exact h)⟩
namespace SEq
def yN : MethodName := ⟨"java/lang/String", "equals", "(Ljava/lang/Object;)Z"⟩
abbrev yB : ByteArray := jdk_42_method_66_code
theorem d0 : decode yB 0 = .ok (.aload_n 0, 1) := by decide +kernel
theorem d1 : decode yB 1 = .ok (.aload_n 1, 1) := by decide +kernel
theorem d2 : decode yB 2 = .ok (.if_acmp (.ne) 5, 3) := by decide +kernel
theorem d5 : decode yB 5 = .ok (.iconst 1, 1) := by decide +kernel
theorem d6 : decode yB 6 = .ok (.ireturn, 1) := by decide +kernel
theorem d7 : decode yB 7 = .ok (.aload_n 1, 1) := by decide +kernel
theorem d8 : decode yB 8 = .ok (.instanceof 10, 3) := by decide +kernel
theorem d11 : decode yB 11 = .ok (.ifCond (.eq) 43, 3) := by decide +kernel
theorem d14 : decode yB 14 = .ok (.aload_n 1, 1) := by decide +kernel
theorem d15 : decode yB 15 = .ok (.checkcast 10, 3) := by decide +kernel
theorem d18 : decode yB 18 = .ok (.astore_n 2, 1) := by decide +kernel
theorem d19 : decode yB 19 = .ok (.getstatic 38, 3) := by decide +kernel
theorem d22 : decode yB 22 = .ok (.ifCond (.eq) 14, 3) := by decide +kernel
theorem d25 : decode yB 25 = .ok (.aload_n 0, 1) := by decide +kernel
theorem d26 : decode yB 26 = .ok (.getfield 15, 3) := by decide +kernel
theorem d29 : decode yB 29 = .ok (.aload_n 2, 1) := by decide +kernel
theorem d30 : decode yB 30 = .ok (.getfield 15, 3) := by decide +kernel
theorem d33 : decode yB 33 = .ok (.if_icmp (.ne) 21, 3) := by decide +kernel
theorem d36 : decode yB 36 = .ok (.aload_n 0, 1) := by decide +kernel
theorem d37 : decode yB 37 = .ok (.getfield 9, 3) := by decide +kernel
theorem d40 : decode yB 40 = .ok (.aload_n 2, 1) := by decide +kernel
theorem d41 : decode yB 41 = .ok (.getfield 9, 3) := by decide +kernel
theorem d44 : decode yB 44 = .ok (.invokestatic 541, 3) := by decide +kernel
theorem d47 : decode yB 47 = .ok (.ifCond (.eq) 7, 3) := by decide +kernel
theorem d50 : decode yB 50 = .ok (.iconst 1, 1) := by decide +kernel
theorem d51 : decode yB 51 = .ok (.goto 4, 3) := by decide +kernel
theorem d54 : decode yB 54 = .ok (.iconst 0, 1) := by decide +kernel
theorem d55 : decode yB 55 = .ok (.ireturn, 1) := by decide +kernel
def site : List Cond := [.classLink "java/lang/String" 10 "java/lang/String", .fieldLink "java/lang/String" 38 "java/lang/String" "COMPACT_STRINGS" "Z", .fieldLink "java/lang/String" 15 "java/lang/String" "coder" "B", .fieldLink "java/lang/String" 9 "java/lang/String" "value" "[B", LEq.tab] ++ staticW "java/lang/String" 541 LEq.yN
def tab : Cond := tabOf yN yB 3 (some .boolean) site
def P (x t : Addr) (V : Cell) (cd : Int32) (n : Nat) (f : Nat → Int32) (y t' : Addr) (V' : Cell) (cd' : Int32) (k : Nat) (g : Nat → Int32) (z : Int32) (args : Array Value) (s : State) : Prop := args = #[.ref x, .ref y] ∧ Txt x t V cd n f s ∧ Txt y t' V' cd' k g s ∧ StaticIs s "java/lang/String" "COMPACT_STRINGS" "Z" (.int z) ∧ ¬ z = 0
/-- equals(Object) of two Strings: whether the texts are the same -/
theorem law (l : Launch) (x t : Addr) (V : Cell) (cd : Int32) (n : Nat) (f : Nat → Int32) (y t' : Addr) (V' : Cell) (cd' : Int32) (k : Nat) (g : Nat → Int32) (z : Int32) : Law l yN 2 1 1 14 yB 3 (some .boolean) site (P x t V cd n f y t' V' cd' k g z) (Says01 (SameT n f k g)) [] 0 0 := by
  refine Law.of_walk (plainFor_of_name (by decide +kernel)) (by decide +kernel) (by decide +kernel) (by decide) (fun _ _ h => by rw [h.1]; rfl) (fun _ U U' hal hh h => ⟨h.1, h.2.1.mv hal hh, h.2.2.1.mv hal hh, h.2.2.2.1.there hal hh, h.2.2.2.2⟩) (fun r U U' V V' h1 hal h2 h => Says01.mv r U U' V V' h1 hal h2 h) ?_
  intro p e s m args below meth c s₁ X0 hexec hbytes hml hret hlk hnm hown hh0 W hP
  obtain ⟨rfl, hx, hy, s1, hz⟩ := hP
  have c1 : Steps p.tables e below (s₁.setTop (entryFrame m #[.ref x, .ref y] 3)) (s₁.setTop (mkF m 2 #[.val (.ref x), .val (.ref y), .unset] [.ref y, .ref x])) := Steps.trans (entry rfl) (by
    show Steps p.tables e below (s₁.setTop (mkF m 0 #[.val (.ref x), .val (.ref y), .unset] [])) _
    refine XS.aloadN X0.here hexec rfl (hb hbytes d0) rfl rfl ?_
    refine XS.aloadN X0.here hexec rfl (hb hbytes d1) rfl rfl ?_
    exact Steps.refl _)
  by_cases hxy : x = y
  · have c2 : Steps p.tables e below (s₁.setTop (entryFrame m #[.ref x, .ref y] 3)) (s₁.setTop (mkF m 6 #[.val (.ref x), .val (.ref y), .unset] [.int 1])) := c1.trans (by
      refine acmpNo X0.here hexec rfl (hb hbytes d2) rfl rfl rfl (by simp [acmp, hxy]) ?_
      refine iconstV X0.here hexec rfl 1 (hb hbytes d5) (by decide) ?_
      exact Steps.refl _)
    subst hxy
    have ec : cd = cd' := by
      obtain ⟨D, fd, a1, a2, a3⟩ := hx.2.2.1
      obtain ⟨D', fd', b1, b2, b3⟩ := hy.2.2.1
      cases a1.symm.trans b1
      obtain ⟨q1, q2, q3, q4⟩ := a2.1
      obtain ⟨r1, r2, r3, r4⟩ := b2.1
      cases q4.symm.trans r4
      cases a3.symm.trans b3; rfl
    have et : t = t' := by
      obtain ⟨D, fd, a1, a2, a3⟩ := hx.2.1
      obtain ⟨D', fd', b1, b2, b3⟩ := hy.2.1
      cases a1.symm.trans b1
      obtain ⟨q1, q2, q3, q4⟩ := a2.1
      obtain ⟨r1, r2, r3, r4⟩ := b2.1
      cases q4.symm.trans r4
      cases a3.symm.trans b3; rfl
    subst ec et
    have ev : V = V' := by cases hx.2.2.2.1.1.symm.trans hy.2.2.2.1.1; rfl
    subst ev
    have hs : SameT n f k g := (Cod.eqv hx.2.2.2.2.1 hy.2.2.2.2.1 hx.2.2.2.2.2 hy.2.2.2.2.2).mp ⟨rfl, fun _ _ => rfl⟩
    exact ⟨s₁, some (.int 1), _, _, _, X0, rfl, rfl, rfl, (fun h => by cases h), ⟨1, rfl, hh0, Or.inl ⟨rfl, hs⟩⟩, fun fs hl => c2.trans (X0.ireturnOut hexec hret rfl (Or.inr (Or.inl rfl)) (hb hbytes d6) hl)⟩
  · have c2 : Steps p.tables e below (s₁.setTop (entryFrame m #[.ref x, .ref y] 3)) (s₁.setTop (mkF m 8 #[.val (.ref x), .val (.ref y), .unset] [.ref y])) := c1.trans (by
      refine acmpYes X0.here hexec rfl (pc0 := 2) rfl (hb hbytes d2) rfl rfl rfl (by simp [acmp, hxy]) (by decide) rfl ?_
      refine XS.aloadN X0.here hexec rfl (hb hbytes d7) rfl rfl ?_
      exact Steps.refl _)
    obtain ⟨T3, X3, q3, st3⟩ := cinst X0 hexec hown (wk W (.classLink "java/lang/String" 10 "java/lang/String")) (hy.mv X0.warmed.alike hh0).1 (g := (mkF m 8 #[.val (.ref x), .val (.ref y), .unset] [.ref y])) rfl (rest := []) rfl (hb hbytes d8)
    have hh3 := q3.trans hh0
    have c4 : Steps p.tables e below (s₁.setTop (entryFrame m #[.ref x, .ref y] 3)) (T3.setTop (mkF m 15 #[.val (.ref x), .val (.ref y), .unset] [.ref y])) := (c2.trans (st3 _ (Steps.refl _))).trans (by
      refine XS.ifNo X3.here hexec rfl (hb hbytes d11) rfl (i0_eq_f (by decide)) ?_
      refine XS.aloadN X3.here hexec rfl (hb hbytes d14) rfl rfl ?_
      exact Steps.refl _)
    obtain ⟨T5, X5, q5, st5⟩ := cself X3 hexec hown (wk W (.classLink "java/lang/String" 10 "java/lang/String")) (hy.mv X3.warmed.alike hh3).1 (g := (mkF m 15 #[.val (.ref x), .val (.ref y), .unset] [.ref y])) rfl (rest := []) rfl (hb hbytes d15)
    have hh5 := q5.trans hh3
    have c6 : Steps p.tables e below (s₁.setTop (entryFrame m #[.ref x, .ref y] 3)) (T5.setTop (mkF m 19 #[.val (.ref x), .val (.ref y), .val (.ref y)] [])) := (c4.trans (st5 _ (Steps.refl _))).trans (by
      refine XS.astoreN X5.here hexec rfl (hb hbytes d18) rfl rfl rfl ?_
      exact Steps.refl _)
    obtain ⟨T7, X7, q7, st7⟩ := X5.sget hexec hown (wk W (.fieldLink "java/lang/String" 38 "java/lang/String" "COMPACT_STRINGS" "Z")) s1 (fun _ _ h => by rw [hh5]; exact h) (g := (mkF m 19 #[.val (.ref x), .val (.ref y), .val (.ref y)] [])) rfl (hb hbytes d19)
    have hh7 := q7.trans hh5
    have c8 : Steps p.tables e below (s₁.setTop (entryFrame m #[.ref x, .ref y] 3)) (T7.setTop (mkF m 26 #[.val (.ref x), .val (.ref y), .val (.ref y)] [.ref x])) := (c6.trans (st7 _ (Steps.refl _))).trans (by
      refine XS.ifNo X7.here hexec rfl (hb hbytes d22) rfl (i0_eq_f hz) ?_
      refine XS.aloadN X7.here hexec rfl (hb hbytes d25) rfl rfl ?_
      exact Steps.refl _)
    obtain ⟨T9, X9, q9, st9⟩ := X7.hget hexec hown (wk W (.fieldLink "java/lang/String" 15 "java/lang/String" "coder" "B")) (hx.mv X7.warmed.alike hh7).2.2.1 (g := (mkF m 26 #[.val (.ref x), .val (.ref y), .val (.ref y)] [.ref x])) rfl (rest := []) rfl (hb hbytes d26)
    have hh9 := q9.trans hh7
    have c10 : Steps p.tables e below (s₁.setTop (entryFrame m #[.ref x, .ref y] 3)) (T9.setTop (mkF m 30 #[.val (.ref x), .val (.ref y), .val (.ref y)] [.ref y, .int cd])) := (c8.trans (st9 _ (Steps.refl _))).trans (by
      refine XS.aloadN X9.here hexec rfl (hb hbytes d29) rfl rfl ?_
      exact Steps.refl _)
    obtain ⟨T11, X11, q11, st11⟩ := X9.hget hexec hown (wk W (.fieldLink "java/lang/String" 15 "java/lang/String" "coder" "B")) (hy.mv X9.warmed.alike hh9).2.2.1 (g := (mkF m 30 #[.val (.ref x), .val (.ref y), .val (.ref y)] [.ref y, .int cd])) rfl (rest := [.int cd]) rfl (hb hbytes d30)
    have hh11 := q11.trans hh9
    have c12 : Steps p.tables e below (s₁.setTop (entryFrame m #[.ref x, .ref y] 3)) (T11.setTop (mkF m 33 #[.val (.ref x), .val (.ref y), .val (.ref y)] [.int cd', .int cd])) := c10.trans (st11 _ (Steps.refl _))
    by_cases hcd : cd = cd'
    · subst hcd
      have c13 : Steps p.tables e below (s₁.setTop (entryFrame m #[.ref x, .ref y] 3)) (T11.setTop (mkF m 37 #[.val (.ref x), .val (.ref y), .val (.ref y)] [.ref x])) := c12.trans (by
        refine XS.icmpNo X11.here hexec rfl (hb hbytes d33) rfl (ii_ne_f rfl) ?_
        refine XS.aloadN X11.here hexec rfl (hb hbytes d36) rfl rfl ?_
        exact Steps.refl _)
      obtain ⟨T14, X14, q14, st14⟩ := X11.hget hexec hown (wk W (.fieldLink "java/lang/String" 9 "java/lang/String" "value" "[B")) (hx.mv X11.warmed.alike hh11).2.1 (g := (mkF m 37 #[.val (.ref x), .val (.ref y), .val (.ref y)] [.ref x])) rfl (rest := []) rfl (hb hbytes d37)
      have hh14 := q14.trans hh11
      have c15 : Steps p.tables e below (s₁.setTop (entryFrame m #[.ref x, .ref y] 3)) (T14.setTop (mkF m 41 #[.val (.ref x), .val (.ref y), .val (.ref y)] [.ref y, .ref t])) := (c13.trans (st14 _ (Steps.refl _))).trans (by
        refine XS.aloadN X14.here hexec rfl (hb hbytes d40) rfl rfl ?_
        exact Steps.refl _)
      obtain ⟨T16, X16, q16, st16⟩ := X14.hget hexec hown (wk W (.fieldLink "java/lang/String" 9 "java/lang/String" "value" "[B")) (hy.mv X14.warmed.alike hh14).2.1 (g := (mkF m 41 #[.val (.ref x), .val (.ref y), .val (.ref y)] [.ref y, .ref t])) rfl (rest := [.ref t]) rfl (hb hbytes d41)
      have hh16 := q16.trans hh14
      have c17 : Steps p.tables e below (s₁.setTop (entryFrame m #[.ref x, .ref y] 3)) (T16.setTop (mkF m 44 #[.val (.ref x), .val (.ref y), .val (.ref y)] [.ref t', .ref t])) := c15.trans (st16 _ (Steps.refl _))
      obtain ⟨v18, T18, X18, E18, g18⟩ := X16.callS hexec (LEq.law l t V t' V') hown (wks W (staticW "java/lang/String" 541 LEq.yN)) (wk W LEq.tab) (W := 0) (Nat.le_of_ble_eq_true rfl) (Nat.le_of_ble_eq_true rfl) (Nat.le_refl _) (Nat.le_refl _) (g := (mkF m 44 #[.val (.ref x), .val (.ref y), .val (.ref y)] [.ref t', .ref t])) rfl (by rw [hml]; rfl) c17 (argsL := [.ref t, .ref t']) (rest := []) rfl rfl (by show 2 * 0 + 0 ≤ _; decide) (hb hbytes d44) (⟨rfl, hx.2.2.2.1.mv X16.warmed.alike hh16, hx.2.2.2.2.1.ty, hy.2.2.2.1.mv X16.warmed.alike hh16, hy.2.2.2.2.1.ty⟩)
      obtain ⟨v, rfl, q18, hv⟩ := E18
      have iff := Cod.eqv hx.2.2.2.2.1 hy.2.2.2.2.1 hx.2.2.2.2.2 hy.2.2.2.2.2
      rcases hv with ⟨rfl, he⟩ | ⟨rfl, he⟩
      · have c19 : Steps p.tables e below (s₁.setTop (entryFrame m #[.ref x, .ref y] 3)) (T18.setTop (mkF m 55 #[.val (.ref x), .val (.ref y), .val (.ref y)] [.int 1])) := Steps.trans g18 (by
          refine XS.ifNo X18.here hexec rfl (hb hbytes d47) rfl (i0_eq_f (by decide)) ?_
          refine iconstV X18.here hexec rfl 1 (hb hbytes d50) (by decide) ?_
          refine XS.goto X18.here hexec rfl (pc0 := 51) rfl (hb hbytes d51) (by decide) rfl ?_
          exact Steps.refl _)
        exact ⟨T18, some (.int 1), _, _, _, X18, rfl, rfl, rfl, (fun h => by cases h), ⟨1, rfl, q18.trans hh16, Or.inl ⟨rfl, iff.mp he⟩⟩, fun fs hl => c19.trans (X18.ireturnOut hexec hret rfl (Or.inr (Or.inl rfl)) (hb hbytes d55) hl)⟩
      · have c19 : Steps p.tables e below (s₁.setTop (entryFrame m #[.ref x, .ref y] 3)) (T18.setTop (mkF m 55 #[.val (.ref x), .val (.ref y), .val (.ref y)] [.int 0])) := Steps.trans g18 (by
          refine XS.ifYes X18.here hexec rfl (pc0 := 47) rfl (hb hbytes d47) rfl (i0_eq_t rfl) (by decide) rfl ?_
          refine iconstV X18.here hexec rfl 0 (hb hbytes d54) (by decide) ?_
          exact Steps.refl _)
        exact ⟨T18, some (.int 0), _, _, _, X18, rfl, rfl, rfl, (fun h => by cases h), ⟨0, rfl, q18.trans hh16, Or.inr ⟨rfl, fun q => he (iff.mpr q)⟩⟩, fun fs hl => c19.trans (X18.ireturnOut hexec hret rfl (Or.inr (Or.inl rfl)) (hb hbytes d55) hl)⟩
    · have c13 : Steps p.tables e below (s₁.setTop (entryFrame m #[.ref x, .ref y] 3)) (T11.setTop (mkF m 55 #[.val (.ref x), .val (.ref y), .val (.ref y)] [.int 0])) := c12.trans (by
        refine XS.icmpYes X11.here hexec rfl (pc0 := 33) rfl (hb hbytes d33) rfl (ii_ne_t hcd) (by decide) rfl ?_
        refine iconstV X11.here hexec rfl 0 (hb hbytes d54) (by decide) ?_
        exact Steps.refl _)
      exact ⟨T11, some (.int 0), _, _, _, X11, rfl, rfl, rfl, (fun h => by cases h), ⟨0, rfl, hh11, Or.inr ⟨rfl, Cod.dif hx.2.2.2.2.1 hy.2.2.2.2.1 hcd⟩⟩, fun fs hl => c13.trans (X11.ireturnOut hexec hret rfl (Or.inr (Or.inl rfl)) (hb hbytes d55) hl)⟩
theorem pays {l : Launch} {R : Room} {p : Program} {e : Env} {below : List Frame} {s : State} {sargs : Array Value} {len W : Nat} (x t : Addr) (V : Cell) (cd : Int32) (n : Nat) (f : Nat → Int32) (y t' : Addr) (V' : Cell) (cd' : Int32) (k : Nat) (g : Nat → Int32) (z : Int32) (htab : tab.before sargs s = true) (hfr : 2 ≤ R.frames) (hlo : W + 28 ≤ R.locals) :
    Back l R p e below s sargs yN len W (fun A₁ a₁ => A₁.cells + 0 ≤ R.cells ∧ A₁.slots + 0 ≤ R.slots ∧ P x t V cd n f y t' V' cd' k g z a₁ A₁.U) (fun A₁ _ v₁ B₁ => Says01 (SameT n f k g) v₁ A₁.U B₁.U ∧ B₁.locs = A₁.locs ++ [] ∧ B₁.cells = A₁.cells + 0 ∧ B₁.slots = A₁.slots + 0) :=
  (law l x t V cd n f y t' V' cd' k g z).pays htab hfr (by omega)
end SEq
end StrChars
namespace StrChars.Road
open Jvm Sem ClassFile Op Lib Jvm.Stand Jvm.Free Jvm.Free.XT
open Jvm.Lib.Cold (StaticIs)
/-- the words of String.equals(Object) -/
abbrev wordsEq : List Jvm.Cond := [.code SEq.yN SEq.yB 3 (some .boolean), .initialized ST, .classLink ST 10 ST, .fieldLink ST 38 ST "COMPACT_STRINGS" "Z", .fieldLink ST 15 ST "coder" "B", .fieldLink ST 9 ST "value" "[B", .methodLink ST 541 LEq.yN, .static LEq.yN, .code LEq.yN LEq.yB 3 (some .boolean), .initialized "java/lang/StringLatin1"]
theorem tabEq_of {a : Array Value} {s : State} (h : ∀ w ∈ wordsEq, w.before a s = true) : SEq.tab.before a s = true := by
  have hl : LEq.tab.before a s = true := unparts (wk h (.code LEq.yN LEq.yB 3 (some .boolean))) (wks h (.initialized LEq.yN.cls :: LEq.site))
  have q := consq hl h
  exact unparts (wk q (.code SEq.yN SEq.yB 3 (some .boolean))) (wks q (.initialized SEq.yN.cls :: SEq.site))
theorem movedEq {Z s : State} {a0 args : Array Value} (hZ : Z.Warmed39 s.vm) (hw : ∀ d ∈ wordsEq, d.before a0 Z = true) : ∀ d ∈ wordsEq, d.before args s = true := fun d hd => by
  have t : ∀ d ∈ wordsEq, (d.onTables && d.keepsFace) = true := by decide +kernel
  exact RoadKit.mv hZ (hw d hd) (t d hd)
/-- the road's facts of a String, as the laws ask it -/
theorem txt_of {Z U : State} {a0 : Array Value} {kI : Nat} (wi : (Jvm.Cond.instantiable ST kI).before a0 Z = true) (al : Z.vm.Alike U.vm) {x t : Addr} {kb : ClassId} {cs : List Int32} {cd N2 : Int32} {vs : List Value} (E : RoadKit.Exa Z U.heap x ST) (V : RoadKit.Fld Z U.heap x ST "value" "[B" (.ref t)) (C : RoadKit.Fld Z U.heap x ST "coder" "B" (.int cd)) (K : RoadKit.Arv Z U.heap t kb .byte N2 vs (.int 0)) (hc : CodA cs cd N2 vs) (hb : ∀ c ∈ cs, ¬ c < 0 ∧ ¬ (65535 : Int32) < c) (l2 : cs.length ≤ 4000) :
    ∃ A, Txt x t A cd cs.length (fun j => cs.getD j 0) U := by
  obtain ⟨A, K1, K2, K3, K4, K5, K6⟩ := K
  have hcod := hc.cod (by omega) K3 K5
  obtain ⟨D, fV, fC, hB, F1, F2, g1, g2, -, -⟩ := strObj wi al E V C
  exact ⟨A, ⟨_, hB.2.2.1, D, hB.1, rfl, by cases q : D.vm <;> first | rfl | exact absurd q (hB.2.1.2 _)⟩, Has.of hB F1 g1, Has.of hB F2 g2, ⟨K1.1, State.isArrayOf_alike al K1.2.1, K1.2.2, by rcases hcod with ⟨-, q, -⟩ | ⟨-, q, -⟩ <;> omega⟩, hcod, fun j hj => by
    have e : cs.getD j 0 = cs[j] := by simp [List.getD_eq_getElem?_getD, hj]
    show ¬ cs.getD j 0 < 0 ∧ ¬ 65535 < cs.getD j 0
    rw [e]; exact hb _ (List.getElem_mem _)⟩
theorem same_list (cs ds : List Int32) : SameT cs.length (fun j => cs.getD j 0) ds.length (fun j => ds.getD j 0) ↔ cs = ds := by
  constructor
  · rintro ⟨e, q⟩
    refine List.ext_getElem e fun j h1 h2 => ?_
    have := q j h1
    simpa [List.getD_eq_getElem?_getD, h1, h2] using this
  · rintro rfl
    exact ⟨rfl, fun _ _ => rfl⟩
/-- **equals(Object) OF TWO SUCH STRINGS**: 1 just where the chars are the same -/
theorem eqW {p : Program} {l : Launch} {e : Env} {R : Room} {s : State} {args : Array Value} {below : List Frame} {len W : Nat} {Z : State} {a0 : Array Value} {h : Heap} (hZ : Z.Warmed39 s.vm) (hw : ∀ d ∈ wordsEq, d.before a0 Z = true) {kI : Nat} (wi : (Jvm.Cond.instantiable ST kI).before a0 Z = true)
    {x t : Addr} {kb : ClassId} {cs : List Int32} {cd N2 : Int32} {vs : List Value} (E : RoadKit.Exa Z h x ST) (V : RoadKit.Fld Z h x ST "value" "[B" (.ref t)) (C : RoadKit.Fld Z h x ST "coder" "B" (.int cd)) (K : RoadKit.Arv Z h t kb .byte N2 vs (.int 0)) (hc : CodA cs cd N2 vs) (hb : ∀ c ∈ cs, ¬ c < 0 ∧ ¬ (65535 : Int32) < c) (l2 : cs.length ≤ 4000)
    {y t' : Addr} {kb' : ClassId} {ds : List Int32} {cd' N2' : Int32} {vs' : List Value} (E' : RoadKit.Exa Z h y ST) (V' : RoadKit.Fld Z h y ST "value" "[B" (.ref t')) (C' : RoadKit.Fld Z h y ST "coder" "B" (.int cd')) (K' : RoadKit.Arv Z h t' kb' .byte N2' vs' (.int 0)) (hc' : CodA ds cd' N2' vs') (hb' : ∀ c ∈ ds, ¬ c < 0 ∧ ¬ (65535 : Int32) < c) (l2' : ds.length ≤ 4000)
    {z : Int32} (S : RoadKit.Sta Z h ST "COMPACT_STRINGS" "Z" (.int z)) (hz : ¬ z = 0) (hfr : 2 ≤ R.frames) (hlo : W + 28 ≤ R.locals) :
    Back l R p e below s args (⟨"java/lang/String", "equals", "(Ljava/lang/Object;)Z"⟩ : MethodName) len W (fun P a => a = #[.ref x, .ref y] ∧ P.U.heap = h ∧ P.cells + 0 ≤ R.cells ∧ P.slots + 0 ≤ R.slots)
      (fun P _ v B => ∃ L, (((v = some (.int 1) ∧ cs = ds) ∨ (v = some (.int 0) ∧ ¬ cs = ds)) ∧ L = [] ∧ B.U.heap = h) ∧ B.locs = P.locs ++ L ∧ B.cells = P.cells + 0 ∧ B.slots = P.slots + 0) := by
  intro m meth c P g ig mk a X hg hsize hdg hW hn hp'
  obtain ⟨rfl, rfl, r1, r2⟩ := hp'
  have al : Z.vm.Alike P.U.vm := hZ.alike.trans X.warmed.alike
  obtain ⟨A, hx⟩ := txt_of wi al E V C K hc hb l2
  obtain ⟨A', hy⟩ := txt_of wi al E' V' C' K' hc' hb' l2'
  obtain ⟨v, B, X', ⟨⟨w, hv, hh, hq⟩, hl, hk, hs⟩, st⟩ := SEq.pays x t A cd cs.length (fun j => cs.getD j 0) y t' A' cd' ds.length (fun j => ds.getD j 0) z (tabEq_of (movedEq hZ hw)) hfr hlo m meth c P g ig mk _ X hg hsize hdg hW hn ⟨r1, r2, rfl, hx, hy, sta_is al S, hz⟩
  refine ⟨v, B, X', ⟨[], ⟨?_, rfl, hh⟩, hl, hk, hs⟩, st⟩
  rcases hq with ⟨rfl, q⟩ | ⟨rfl, q⟩
  · exact Or.inl ⟨hv, (same_list cs ds).mp q⟩
  · exact Or.inr ⟨hv, fun e => q ((same_list cs ds).mpr e)⟩
end StrChars.Road
namespace StrChars.Road
open Jvm Sem ClassFile Op Lib Jvm.Stand Jvm.Free Jvm.Free.XT
open Jvm.Lib.Cold (StaticIs)
/-- what backV says of its String, as the contracts of this text ask it: cs's low bytes, coder 0 -/
theorem codOf {cs : List Int32} {n : Nat} (hn : cs.length = n) (hb : ∀ c ∈ cs, ¬ 255 < c) : CodA cs 0 (Int32.ofNat n) ((cs.map lo8).map Value.int) := Or.inl ⟨rfl, by rw [hn], by simp [List.map_map, Function.comp_def], hb⟩
end StrChars.Road
end Jvm.Pilot.@@N@@
namespace Jvm.OwnKit
open Sem ClassFile Op Lib Bundle Jvm.Stand Jvm.Free Jvm.LawKit Jvm.RoadKit
section K
variable {p : Program} {l : Launch} {e : Env} {R : Room} {s : State} {m : MethodId} {args : Array Value} {below : List Frame} {meth : Method} {c : Code} {Z : State} {a0 : Array Value} {EL : List (String × Nat)} {n0 : Nat} {own : String} {vm0 vm1 : Vm} {T T' : State} {h h' : Heap} {L L' : List Loc} {k n k' n' : Nat} {ss : List Addr} {P : Outcome → State → Prop} {U V : State} {pc : Nat} {Ls : Array Slot} {rest : List Value}
/-- what is left of a walk that stands at U: it ends, and P holds of its end -/
def Go (p : Program) (e : Env) (below : List Frame) (P : Outcome → State → Prop) (U : State) : Prop := ∃ s₂ o, Steps p.tables e below U s₂ ∧ s₂.status = .running ∧ Ended s₂ below o ∧ P o s₂
theorem Go.st (st : ∀ target, Steps p.tables e below V target → Steps p.tables e below U target) (G : Go p e below P V) : Go p e below P U := by
  obtain ⟨s₂, o, h1, r⟩ := G
  exact ⟨s₂, o, st _ h1, r⟩
theorem Go.tr (st : Steps p.tables e below U V) (G : Go p e below P V) : Go p e below P U := by
  obtain ⟨s₂, o, h1, r⟩ := G
  exact ⟨s₂, o, st.trans h1, r⟩
/-- none of these cells is a booked literal's -/
def Saf (Z : State) (EL : List (String × Nat)) (vm : Vm) (h : Heap) (ss : List Addr) : Prop := ∀ x ∈ ss, Safe Z EL vm h x ∧ x < h.size
theorem Saf.chr (S : Saf Z EL vm0 h ss) (A : CHr Z EL vm0 h vm1 h') : Saf Z EL vm1 h' ss := fun x hx => ⟨A.safe (S x hx).2 (S x hx).1, Nat.lt_of_lt_of_le (S x hx).2 A.2.1⟩
/-- where a walk stands that may load literals: the tables vm0, the state T, its heap h, what it has written and made -/
def Wk (p : Program) (l : Launch) (e : Env) (R : Room) (s : State) (m : MethodId) (args : Array Value) (below : List Frame) (meth : Method) (c : Code) (Z : State) (a0 : Array Value) (EL : List (String × Nat)) (n0 : Nat) (own : String) (vm0 : Vm) (T : State) (h : Heap) (L : List Loc) (k n : Nat) (ss : List Addr) : Prop :=
  Stand p l e R (s.setVm vm0) m args below meth c T L k n ∧ T.heap = h ∧ (∃ j, s.Since vm0 j ∧ j ≤ h.size) ∧ Z.Warmed39 vm0 ∧ vm0.findClass own = some m.cls ∧ CHr Z EL s.vm s.heap vm0 h ∧ Fr n0 L ∧ Old Z n0 h ∧ Saf Z EL vm0 h ss ∧ p.tables.exec = Jvm.exec ∧ EW Z a0 EL ∧ meth.locks = false
theorem Wk.X (W : Wk p l e R s m args below meth c Z a0 EL n0 own vm0 T h L k n ss) : Stand p l e R (s.setVm vm0) m args below meth c T L k n := W.1
theorem Wk.hp (W : Wk p l e R s m args below meth c Z a0 EL n0 own vm0 T h L k n ss) : T.heap = h := W.2.1
theorem Wk.sc (W : Wk p l e R s m args below meth c Z a0 EL n0 own vm0 T h L k n ss) : ∃ j, s.Since vm0 j ∧ j ≤ h.size := W.2.2.1
theorem Wk.hZ (W : Wk p l e R s m args below meth c Z a0 EL n0 own vm0 T h L k n ss) : Z.Warmed39 (s.setVm vm0).vm := W.2.2.2.1
theorem Wk.ho (W : Wk p l e R s m args below meth c Z a0 EL n0 own vm0 T h L k n ss) : (s.setVm vm0).vm.findClass own = some m.cls := W.2.2.2.2.1
theorem Wk.cr (W : Wk p l e R s m args below meth c Z a0 EL n0 own vm0 T h L k n ss) : CHr Z EL s.vm s.heap vm0 h := W.2.2.2.2.2.1
theorem Wk.cv (W : Wk p l e R s m args below meth c Z a0 EL n0 own vm0 T h L k n ss) : CHv Z EL vm0 h := W.cr.1
theorem Wk.fr (W : Wk p l e R s m args below meth c Z a0 EL n0 own vm0 T h L k n ss) : Fr n0 L := W.2.2.2.2.2.2.1
theorem Wk.old (W : Wk p l e R s m args below meth c Z a0 EL n0 own vm0 T h L k n ss) : Old Z n0 h := W.2.2.2.2.2.2.2.1
theorem Wk.sf (W : Wk p l e R s m args below meth c Z a0 EL n0 own vm0 T h L k n ss) : Saf Z EL vm0 h ss := W.2.2.2.2.2.2.2.2.1
theorem Wk.ex (W : Wk p l e R s m args below meth c Z a0 EL n0 own vm0 T h L k n ss) : p.tables.exec = Jvm.exec := W.2.2.2.2.2.2.2.2.2.1
theorem Wk.ew (W : Wk p l e R s m args below meth c Z a0 EL n0 own vm0 T h L k n ss) : EW Z a0 EL := W.2.2.2.2.2.2.2.2.2.2.1
theorem Wk.nl (W : Wk p l e R s m args below meth c Z a0 EL n0 own vm0 T h L k n ss) : meth.locks = false := W.2.2.2.2.2.2.2.2.2.2.2
theorem Wk.here (W : Wk p l e R s m args below meth c Z a0 EL n0 own vm0 T h L k n ss) : At T m c below := W.1.here
theorem Wk.n0le (W : Wk p l e R s m args below meth c Z a0 EL n0 own vm0 T h L k n ss) : n0 ≤ h.size := by have := W.old.2.1; rw [W.old.1] at this; exact this
/-- the case's start's heap stands in the heap at hand -/
theorem Wk.e0 (W : Wk p l e R s m args below meth c Z a0 EL n0 own vm0 T h L k n ss) : Ext Z.heap h := W.old.2
theorem Wk.same (W : Wk p l e R s m args below meth c Z a0 EL n0 own vm0 T h L k n ss) (X : Stand p l e R (s.setVm vm0) m args below meth c T' L k' n') (q : T'.heap = h) : Wk p l e R s m args below meth c Z a0 EL n0 own vm0 T' h L k' n' ss :=
  ⟨X, q, W.2.2⟩
theorem Wk.step (W : Wk p l e R s m args below meth c Z a0 EL n0 own vm0 T h L k n ss) (X : Stand p l e R (s.setVm vm1) m args below meth c T' L' k' n') (q : T'.heap = h') (S : ∃ j, s.Since vm1 j ∧ j ≤ h'.size) (hZ : Z.Warmed39 vm1) (ho : vm1.findClass own = some m.cls) (A : CHr Z EL vm0 h vm1 h') (F : Fr n0 L') (O : Old Z n0 h') : Wk p l e R s m args below meth c Z a0 EL n0 own vm1 T' h' L' k' n' ss :=
  ⟨X, q, S, hZ, ho, W.cr.trans A, F, O, W.sf.chr A, W.ex, W.ew, W.nl⟩
theorem Wk.stepE (W : Wk p l e R s m args below meth c Z a0 EL n0 own vm0 T h L k n ss) (X : Stand p l e R (s.setVm vm0) m args below meth c T' L k' n') (q : T'.heap = h') (E : Ext h h') : Wk p l e R s m args below meth c Z a0 EL n0 own vm0 T' h' L k' n' ss := by
  obtain ⟨j, S, hj⟩ := W.sc
  exact W.step X q ⟨j, S, Nat.le_trans hj E.1⟩ W.hZ W.ho (CHr.ext E W.cv) W.fr (W.old.ext E)
theorem Wk.stepK (W : Wk p l e R s m args below meth c Z a0 EL n0 own vm0 T h L k n ss) (X : Stand p l e R (s.setVm vm0) m args below meth c T' L' k' n') (q : T'.heap = h') {ws : List Addr} (K : Keep h h' ws) (hs : ∀ x ∈ ws, x ∈ ss) (hn : ∀ x ∈ ws, n0 ≤ x) (F : Fr n0 L') : Wk p l e R s m args below meth c Z a0 EL n0 own vm0 T' h' L' k' n' ss := by
  obtain ⟨j, S, hj⟩ := W.sc
  exact W.step X q ⟨j, S, Nat.le_trans hj K.1⟩ W.hZ W.ho (CHr.keep K (fun x hx => (W.sf x (hs x hx)).1) W.cv) F (W.old.keep K hn)
theorem Wk.stepW (W : Wk p l e R s m args below meth c Z a0 EL n0 own vm0 T h L k n ss) {a : Addr} {sl : Nat} {v : Value} (X : Stand p l e R (s.setVm vm0) m args below meth c T' (L ++ [⟨a, sl⟩]) k' n') (q : T'.heap = h') (Wr : Wr h h' a sl v) (hs : a ∈ ss) (hn : n0 ≤ a) : Wk p l e R s m args below meth c Z a0 EL n0 own vm0 T' h' (L ++ [⟨a, sl⟩]) k' n' ss :=
  W.stepK X q (Keep.of_wr Wr) (allS hs all0) (allS hn all0) (Fr.snoc X W.fr hn)
theorem Wk.cons (W : Wk p l e R s m args below meth c Z a0 EL n0 own vm0 T h L k n ss) {x : Addr} (S : Safe Z EL vm0 h x) (hx : x < h.size) : Wk p l e R s m args below meth c Z a0 EL n0 own vm0 T h L k n (x :: ss) :=
  ⟨W.X, W.hp, W.sc, W.hZ, W.ho, W.cr, W.fr, W.old, allS (P := fun x => Safe Z EL vm0 h x ∧ x < h.size) ⟨S, hx⟩ W.sf, W.ex, W.ew, W.nl⟩
theorem Wk.more (W : Wk p l e R s m args below meth c Z a0 EL n0 own vm0 T h L k n ss) (hk : k ≤ k') (hn : n ≤ n') : Wk p l e R s m args below meth c Z a0 EL n0 own vm0 T h L k' n' ss := ⟨W.1.more hk hn, W.2⟩
theorem Wk.sub {ss' : List Addr} (W : Wk p l e R s m args below meth c Z a0 EL n0 own vm0 T h L k n ss) (q : ∀ x ∈ ss', x ∈ ss) : Wk p l e R s m args below meth c Z a0 EL n0 own vm0 T h L k n ss' :=
  ⟨W.X, W.hp, W.sc, W.hZ, W.ho, W.cr, W.fr, W.old, fun x hx => W.sf x (q x hx), W.ex, W.ew, W.nl⟩
/-- where roads meet -/
theorem Wk.meet (W : Wk p l e R s m args below meth c Z a0 EL n0 own vm0 T h L k n ss) (hk : k ≤ k') (hn : n ≤ n') : Wk p l e R s m args below meth c Z a0 EL n0 own vm0 T h L k' n' [] := (W.more hk hn).sub all0
theorem Wk.consA (W : Wk p l e R s m args below meth c Z a0 EL n0 own vm0 T h L k n ss) {a : Addr} {kA : ClassId} {ty : FieldType} {z : Int32} {vs : List Value} {dv : Value} (F : Arv Z h a kA ty z vs dv) (ht : ty ≠ .byte) : Wk p l e R s m args below meth c Z a0 EL n0 own vm0 T h L k n (a :: ss) := by
  obtain ⟨cl, A, -⟩ := F
  exact W.cons (Safe.arr W.hZ.alike A ht) A.lt
theorem Wk.consE (W : Wk p l e R s m args below meth c Z a0 EL n0 own vm0 T h L k n ss) {a : Addr} {C : String} (E : Exa Z h a C) (h1 : C ≠ "java/lang/String") (h2 : C ≠ "[B") : Wk p l e R s m args below meth c Z a0 EL n0 own vm0 T h L k n (a :: ss) := W.cons (Safe.exa W.hZ.alike E h1 h2) E.lt
/-! one step each -/
theorem Wk.getF (W : Wk p l e R s m args below meth c Z a0 EL n0 own vm0 T h L k n ss) {R0 O nm d : String} {index : Nat} (w : (Cond.fieldLink own index R0 nm d).before a0 Z = true) (via : Via Z R0 O nm d) {a : Addr} {v : Value} (F : Fld Z h a O nm d v) (hd : decode c.code pc = .ok (.getfield index, 3))
    (K : ∀ T', Wk p l e R s m args below meth c Z a0 EL n0 own vm0 T' h L k n ss → Go p e below P (T'.setTop (mkF m (pc + 3) Ls (v :: rest)))) : Go p e below P (T.setTop (mkF m pc Ls (.ref a :: rest))) := by
  obtain ⟨T', X', e', st⟩ := RoadKit.getF W.X W.ex W.hZ W.ho (host := "") (Or.inl w) via W.hp F (g := mkF m pc Ls (.ref a :: rest)) rfl rfl hd
  exact Go.st st (K T' (W.same X' e'))
theorem Wk.getFN (W : Wk p l e R s m args below meth c Z a0 EL n0 own vm0 T h L k n ss) {R0 O nm d host : String} {index : Nat} (w : (Cond.fieldLinkNest own index R0 nm d host).before a0 Z = true) (via : Via Z R0 O nm d) {a : Addr} {v : Value} (F : Fld Z h a O nm d v) (hd : decode c.code pc = .ok (.getfield index, 3))
    (K : ∀ T', Wk p l e R s m args below meth c Z a0 EL n0 own vm0 T' h L k n ss → Go p e below P (T'.setTop (mkF m (pc + 3) Ls (v :: rest)))) : Go p e below P (T.setTop (mkF m pc Ls (.ref a :: rest))) := by
  obtain ⟨T', X', e', st⟩ := RoadKit.getF W.X W.ex W.hZ W.ho (Or.inr w) via W.hp F (g := mkF m pc Ls (.ref a :: rest)) rfl rfl hd
  exact Go.st st (K T' (W.same X' e'))
theorem Wk.getS (W : Wk p l e R s m args below meth c Z a0 EL n0 own vm0 T h L k n ss) {R0 O nm d : String} {index : Nat} (w : (Cond.fieldLink own index R0 nm d).before a0 Z = true) (via : Via Z R0 O nm d) {v : Value} (F : Sta Z h O nm d v) (hd : decode c.code pc = .ok (.getstatic index, 3))
    (K : ∀ T', Wk p l e R s m args below meth c Z a0 EL n0 own vm0 T' h L k n ss → Go p e below P (T'.setTop (mkF m (pc + 3) Ls (v :: rest)))) : Go p e below P (T.setTop (mkF m pc Ls rest)) := by
  obtain ⟨T', X', e', st⟩ := RoadKit.getS2 W.X W.ex W.hZ W.ho (host := "") (Or.inl w) via W.hp F (g := mkF m pc Ls rest) rfl hd
  exact Go.st st (K T' (W.same X' e'))
theorem Wk.putF (W : Wk p l e R s m args below meth c Z a0 EL n0 own vm0 T h L k n ss) {R0 O nm d C : String} {index kk : Nat} {ty : FieldType} (w : (Cond.fieldLink own index R0 nm d).before a0 Z = true) (via : Via Z R0 O nm d) {a : Addr} {v old : Value} (F : Fld Z h a O nm d old) (E : Exa Z h a C) (La : (Cond.lays C O nm d).before a0 Z = true ∨ ((Cond.laysFinal C O nm d).before a0 Z = true ∧ own = O ∧ meth.name = "<init>")) (wi : (Cond.instantiable C kk).before a0 Z = true)
    (hty : parseFieldDescriptor d = some ty) (hn : narrow ty v = v) (hf : fits ty v = true) (hs : a ∈ ss) (ha : n0 ≤ a) (hd : decode c.code pc = .ok (.putfield index, 3))
    (K : ∀ T' h' L', Wk p l e R s m args below meth c Z a0 EL n0 own vm0 T' h' L' k n ss → Wr h h' a (RoadKit.slotOf Z O nm d) v → Go p e below P (T'.setTop (mkF m (pc + 3) Ls rest))) : Go p e below P (T.setTop (mkF m pc Ls (v :: .ref a :: rest))) := by
  obtain ⟨T', h', X', e', w', st⟩ := RoadKit.putF W.X W.ex W.hZ W.ho (host := "") (Or.inl w) via W.hp F E La wi hty hn hf (g := mkF m pc Ls (v :: .ref a :: rest)) rfl rfl hd
  exact Go.st st (K T' h' _ (W.stepW X' e' w' hs ha) w')
theorem Wk.putFN (W : Wk p l e R s m args below meth c Z a0 EL n0 own vm0 T h L k n ss) {R0 O nm d C : String} {index kk : Nat} {ty : FieldType} (w : (Cond.fieldLink own index R0 nm d).before a0 Z = true) (via : Via Z R0 O nm d) {a : Addr} {v v' old : Value} (F : Fld Z h a O nm d old) (E : Exa Z h a C) (La : (Cond.lays C O nm d).before a0 Z = true ∨ ((Cond.laysFinal C O nm d).before a0 Z = true ∧ own = O ∧ meth.name = "<init>")) (wi : (Cond.instantiable C kk).before a0 Z = true)
    (hty : parseFieldDescriptor d = some ty) (hn : narrow ty v = v') (hf : fits ty v' = true) (hs : a ∈ ss) (ha : n0 ≤ a) (hd : decode c.code pc = .ok (.putfield index, 3))
    (K : ∀ T' h' L', Wk p l e R s m args below meth c Z a0 EL n0 own vm0 T' h' L' k n ss → Wr h h' a (RoadKit.slotOf Z O nm d) v' → Go p e below P (T'.setTop (mkF m (pc + 3) Ls rest))) : Go p e below P (T.setTop (mkF m pc Ls (v :: .ref a :: rest))) := by
  obtain ⟨T', h', X', e', w', st⟩ := RoadKit.putFN W.X W.ex W.hZ W.ho w via W.hp F E La wi hty hn hf (g := mkF m pc Ls (v :: .ref a :: rest)) rfl rfl hd
  exact Go.st st (K T' h' _ (W.stepW X' e' w' hs ha) w')
theorem Wk.newO (W : Wk p l e R s m args below meth c Z a0 EL n0 own vm0 T h L k n ss) {C : String} {index j : Nat} (w : (Cond.classLink own index C).before a0 Z = true) (wi : (Cond.instantiable C j).before a0 Z = true) (wz : (Cond.initialized C).before a0 Z = true) (hd : decode c.code pc = .ok (.new index, 3)) (hk : k + 1 = k') (hn : n + j = n') (hc : k' ≤ R.cells) (hl : n' ≤ R.slots)
    (K : ∀ T' h' b, b = h.size → n0 ≤ b → Wk p l e R s m args below meth c Z a0 EL n0 own vm0 T' h' L k' n' (b :: ss) → Ext h h' → Exa Z h' b C → (∀ {O nm d : String} {ty : FieldType}, Laid Z a0 C O nm d → parseFieldDescriptor d = some ty → Fld Z h' b O nm d (defaultValue ty)) → Go p e below P (T'.setTop (mkF m (pc + 3) Ls (.ref b :: rest)))) : Go p e below P (T.setTop (mkF m pc Ls rest)) := by
  subst hk hn
  obtain ⟨T', h', X', e', E, A, D, -, st⟩ := RoadKit.newO W.X W.ex W.hZ W.ho w wi wz W.hp (g := mkF m pc Ls rest) rfl hd hc hl
  have W' := W.stepE X' e' E
  exact Go.st st (K T' h' _ rfl W.n0le (W'.cons ((Safe.new (Nat.le_refl _)).ext E W.cv) A.lt) E A D)
theorem Wk.newP (W : Wk p l e R s m args below meth c Z a0 EL n0 own vm0 T h L k n ss) {aty : ArrayType} {ty : FieldType} {dv : Value} (hty : newarray.typeOf aty = ty) (hdv : defaultValue ty = dv) (w : (Cond.arrayClass ty).before a0 Z = true) (hd : decode c.code pc = .ok (.newarray aty, 2)) {z : Int32} (hz : ¬ z < 0) {cap : Nat} (hcap : z.toNatClampNeg ≤ cap) (hb : cap * 8 ≤ 536870912) (hk : k + 1 = k') (hn : n + cap = n') (hc : k' ≤ R.cells) (hl : n' ≤ R.slots)
    (K : ∀ T' h' b kA, b = h.size → n0 ≤ b → Wk p l e R s m args below meth c Z a0 EL n0 own vm0 T' h' L k' n' (b :: ss) → Ext h h' → Arv Z h' b kA ty z (List.replicate cap dv) dv → Go p e below P (T'.setTop (mkF m (pc + 2) Ls (.ref b :: rest)))) : Go p e below P (T.setTop (mkF m pc Ls (.int z :: rest))) := by
  subst hk hn hty hdv
  obtain ⟨T', h', cA, X', e', E, A, st⟩ := RoadKit.newP W.X W.ex W.hZ w W.hp (g := mkF m pc Ls (.int z :: rest)) rfl hd rfl hz hcap hb hc hl
  have W' := W.stepE X' e' E
  exact Go.st st (K T' h' _ cA rfl W.n0le (W'.cons ((Safe.new (Nat.le_refl _)).ext E W.cv) A.lt) E ((Arv.new A hz).pad (pad_rep [] _ cap)))
theorem Wk.alen (W : Wk p l e R s m args below meth c Z a0 EL n0 own vm0 T h L k n ss) {a : Addr} {kA : ClassId} {ty : FieldType} {z : Int32} {vs : List Value} {dv : Value} (F : Arv Z h a kA ty z vs dv) (hd : decode c.code pc = .ok (.arraylength, 1)) (G : Go p e below P (T.setTop (mkF m (pc + 1) Ls (.int z :: rest)))) : Go p e below P (T.setTop (mkF m pc Ls (.ref a :: rest))) := by
  obtain ⟨cl, A, q1, S, N, H, Gs⟩ := F
  rw [← len_of S N] at G
  exact Go.st (fun t => W.X.arraylength W.ex (by rw [W.hp]; exact A.1) (State.isArrayOf_alike W.hZ.alike A.2.1) (g := mkF m pc Ls (.ref a :: rest)) rfl rfl hd t) G
theorem inb {cl : Cell} {z j : Int32} (S : cl.slots.size = z.toNatClampNeg) (q : ¬ j < 0 ∧ j < z) : ¬ (j < 0 ∨ cl.slots.size ≤ j.toNatClampNeg) := inb_of S q
theorem Wk.ldC (W : Wk p l e R s m args below meth c Z a0 EL n0 own vm0 T h L k n ss) {a : Addr} {kA : ClassId} {z j : Int32} {vs : List Value} {dv v : Value} (F : Arv Z h a kA .char z vs dv) (q : ¬ j < 0 ∧ j < z) (hv : vs.getD j.toNatClampNeg dv = v) (hd : decode c.code pc = .ok (.caload, 1)) (G : Go p e below P (T.setTop (mkF m (pc + 1) Ls (v :: rest)))) : Go p e below P (T.setTop (mkF m pc Ls (.int j :: .ref a :: rest))) := by
  obtain ⟨cl, A, q1, S, N, H, Gs⟩ := F
  exact Go.st (fun t => W.X.caload W.ex (by rw [W.hp]; exact A.1) (State.isArrayOf_alike W.hZ.alike A.2.1) A.2.2 (inb S q) (H.at (inb S q) hv) (g := mkF m pc Ls (.int j :: .ref a :: rest)) rfl rfl hd t) G
theorem Wk.ldB (W : Wk p l e R s m args below meth c Z a0 EL n0 own vm0 T h L k n ss) {a : Addr} {kA : ClassId} {z j : Int32} {vs : List Value} {dv v : Value} (F : Arv Z h a kA .byte z vs dv) (q : ¬ j < 0 ∧ j < z) (hv : vs.getD j.toNatClampNeg dv = v) (hd : decode c.code pc = .ok (.baload, 1)) (G : Go p e below P (T.setTop (mkF m (pc + 1) Ls (v :: rest)))) : Go p e below P (T.setTop (mkF m pc Ls (.int j :: .ref a :: rest))) := by
  obtain ⟨cl, A, q1, S, N, H, Gs⟩ := F
  exact Go.st (fun t => W.X.baloadBytes W.ex (by rw [W.hp]; exact A.1) (State.isArrayOf_alike W.hZ.alike A.2.1) A.2.2 (inb S q) (H.at (inb S q) hv) (g := mkF m pc Ls (.int j :: .ref a :: rest)) rfl rfl hd t) G
theorem Wk.ldA (W : Wk p l e R s m args below meth c Z a0 EL n0 own vm0 T h L k n ss) {a : Addr} {kA : ClassId} {ty : FieldType} {z j : Int32} {vs : List Value} {dv v : Value} (F : Arv Z h a kA ty z vs dv) (hty : ty.isReference = true) (q : ¬ j < 0 ∧ j < z) (hv : vs.getD j.toNatClampNeg dv = v) (hd : decode c.code pc = .ok (.aaload, 1)) (G : Go p e below P (T.setTop (mkF m (pc + 1) Ls (v :: rest)))) : Go p e below P (T.setTop (mkF m pc Ls (.int j :: .ref a :: rest))) := by
  obtain ⟨cl, A, q1, S, N, H, Gs⟩ := F
  exact Go.st (fun t => W.X.aaload W.ex (by rw [W.hp]; exact A.1) (State.isArrayOf_alike W.hZ.alike A.2.1) hty A.2.2 (inb S q) (H.at (inb S q) hv) (g := mkF m pc Ls (.int j :: .ref a :: rest)) rfl rfl hd t) G
theorem Wk.stC (W : Wk p l e R s m args below meth c Z a0 EL n0 own vm0 T h L k n ss) {a : Addr} {kA : ClassId} {z j x : Int32} {vs : List Value} {dv : Value} (F : Arv Z h a kA .char z vs dv) (q : ¬ j < 0 ∧ j < z) (i : Nat) (hi : j.toNatClampNeg = i) (hl : i < vs.length) (hs : a ∈ ss) (ha : n0 ≤ a) (hd : decode c.code pc = .ok (.castore, 1))
    (K : ∀ T' h' L', Wk p l e R s m args below meth c Z a0 EL n0 own vm0 T' h' L' k n ss → Wr h h' a j.toNatClampNeg (.int (nar .char x)) → Arv Z h' a kA .char z (vs.set i (.int (nar .char x))) dv → Go p e below P (T'.setTop (mkF m (pc + 1) Ls rest))) : Go p e below P (T.setTop (mkF m pc Ls (.int x :: .int j :: .ref a :: rest))) := by
  obtain ⟨cl, A, q1, S, N, H, Gs⟩ := F
  obtain ⟨T', h', X', e', w', st⟩ := RoadKit.stC W.X W.ex W.hZ W.hp A (inb S q) (g := mkF m pc Ls (.int x :: .int j :: .ref a :: rest)) rfl rfl hd
  exact Go.st st (K T' h' _ (W.stepW X' e' w' hs ha) w' (Arv.set A q1 S N H Gs (fits_nar_char _) w' i hi hl))
theorem Wk.stB (W : Wk p l e R s m args below meth c Z a0 EL n0 own vm0 T h L k n ss) {a : Addr} {kA : ClassId} {z j x : Int32} {vs : List Value} {dv : Value} (F : Arv Z h a kA .byte z vs dv) (q : ¬ j < 0 ∧ j < z) (i : Nat) (hi : j.toNatClampNeg = i) (hl : i < vs.length) (hs : a ∈ ss) (ha : n0 ≤ a) (hd : decode c.code pc = .ok (.bastore, 1))
    (K : ∀ T' h' L', Wk p l e R s m args below meth c Z a0 EL n0 own vm0 T' h' L' k n ss → Wr h h' a j.toNatClampNeg (.int (nar .byte x)) → Arv Z h' a kA .byte z (vs.set i (.int (nar .byte x))) dv → Go p e below P (T'.setTop (mkF m (pc + 1) Ls rest))) : Go p e below P (T.setTop (mkF m pc Ls (.int x :: .int j :: .ref a :: rest))) := by
  obtain ⟨cl, A, q1, S, N, H, Gs⟩ := F
  obtain ⟨T', h', X', e', w', st⟩ := RoadKit.stB W.X W.ex W.hZ W.hp A (inb S q) (g := mkF m pc Ls (.int x :: .int j :: .ref a :: rest)) rfl rfl hd
  exact Go.st st (K T' h' _ (W.stepW X' e' w' hs ha) w' (Arv.set A q1 S N H Gs (fits_nar_byte _) w' i hi hl))
theorem Wk.castY (W : Wk p l e R s m args below meth c Z a0 EL n0 own vm0 T h L k n ss) {C : String} {index : Nat} (w : (Cond.classLink own index C).before a0 Z = true) {a : Addr} (F : Ins Z h a C true) (hd : decode c.code pc = .ok (.checkcast index, 3))
    (K : ∀ T', Wk p l e R s m args below meth c Z a0 EL n0 own vm0 T' h L k n ss → Go p e below P (T'.setTop (mkF m (pc + 3) Ls (.ref a :: rest)))) : Go p e below P (T.setTop (mkF m pc Ls (.ref a :: rest))) := by
  obtain ⟨T', X', e', st⟩ := RoadKit.castY W.X W.ex W.hZ W.ho w W.hp F (g := mkF m pc Ls (.ref a :: rest)) rfl rfl hd
  exact Go.st st (K T' (W.same X' e'))
theorem Wk.instY (W : Wk p l e R s m args below meth c Z a0 EL n0 own vm0 T h L k n ss) {C : String} {index : Nat} (w : (Cond.classLink own index C).before a0 Z = true) {a : Addr} (F : Ins Z h a C true) (hd : decode c.code pc = .ok (.instanceof index, 3))
    (K : ∀ T', Wk p l e R s m args below meth c Z a0 EL n0 own vm0 T' h L k n ss → Go p e below P (T'.setTop (mkF m (pc + 3) Ls (.int 1 :: rest)))) : Go p e below P (T.setTop (mkF m pc Ls (.ref a :: rest))) := by
  obtain ⟨T', X', e', st⟩ := RoadKit.instY W.X W.ex W.hZ W.ho w W.hp F (g := mkF m pc Ls (.ref a :: rest)) rfl rfl hd
  exact Go.st st (K T' (W.same X' e'))
theorem Wk.instN (W : Wk p l e R s m args below meth c Z a0 EL n0 own vm0 T h L k n ss) {C D : String} {index : Nat} (w : (Cond.classLink own index C).before a0 Z = true) {a : Addr} (E : Exa Z h a D) (F : ∃ c t, Z.vm.findClass D = some c ∧ Z.vm.findClass C = some t ∧ Z.vm.assignable c t = false) (hd : decode c.code pc = .ok (.instanceof index, 3))
    (K : ∀ T', Wk p l e R s m args below meth c Z a0 EL n0 own vm0 T' h L k n ss → Go p e below P (T'.setTop (mkF m (pc + 3) Ls (.int 0 :: rest)))) : Go p e below P (T.setTop (mkF m pc Ls (.ref a :: rest))) := by
  obtain ⟨T', X', e', st⟩ := RoadKit.instNo W.X W.ex W.hZ W.ho w W.hp E F (g := mkF m pc Ls (.ref a :: rest)) rfl rfl hd
  exact Go.st st (K T' (W.same X' e'))
theorem Wk.initO (W : Wk p l e R s m args below meth c Z a0 EL n0 own vm0 T h L k n ss) {index : Nat} (w1 : (Cond.methodLink own index Lib.objectInit).before a0 Z = true) (w2 : (Cond.instanceMethod Lib.objectInit).before a0 Z = true) (w3 : (Cond.code Lib.objectInit ⟨#[0xb1]⟩ 1 none).before a0 Z = true) (hsz : Ls.size = c.maxLocals) {a : Addr} (hd : decode c.code pc = .ok (.invokespecial index, 3)) (hf : 1 ≤ R.frames) {Wd : Nat} (hW : (rest.map fun v => v.category).sum ≤ Wd) (hl : Wd + 12 ≤ R.locals)
    (K : ∀ T', Wk p l e R s m args below meth c Z a0 EL n0 own vm0 T' h L k n ss → Go p e below P (T'.setTop (mkF m (pc + 3) Ls rest))) : Go p e below P (T.setTop (mkF m pc Ls (.ref a :: rest))) := by
  obtain ⟨T', X', e', st⟩ := RoadKit.initO W.X W.ex W.hZ W.ho w1 w2 w3 W.hp (g := mkF m pc Ls (.ref a :: rest)) rfl hsz rfl hd hf (W := Wd) (by show 2 * 0 + _ ≤ _; omega) hl
  exact Go.st st (K T' (W.same X' e'))
/-- an array's clone() -/
theorem Wk.clone (W : Wk p l e R s m args below meth c Z a0 EL n0 own vm0 T h L k n ss) {index : Nat} {ad : String} (w1 : (Cond.methodLink own index ⟨ad, "clone", "()Ljava/lang/Object;"⟩).before a0 Z = true) (w2 : (Cond.sameMethod ad "java/lang/Object" "clone" "()Ljava/lang/Object;").before a0 Z = true) (w3 : (Cond.native ⟨"java/lang/Object", "clone", "()Ljava/lang/Object;"⟩).before a0 Z = true)
    (w4 : (Cond.instanceMethod ⟨"java/lang/Object", "clone", "()Ljava/lang/Object;"⟩).before a0 Z = true) (w5 : (Cond.selects ad ⟨ad, "clone", "()Ljava/lang/Object;"⟩ ⟨"java/lang/Object", "clone", "()Ljava/lang/Object;"⟩).before a0 Z = true) (w6 : (Cond.castable ad "java/lang/Cloneable").before a0 Z = true)
    {a : Addr} {kA : ClassId} {ty : FieldType} {z : Int32} {vs : List Value} {dv : Value} (F : Arv Z h a kA ty z vs dv) (E : Exa Z h a ad) (hsz : Ls.size = c.maxLocals) (hd : decode c.code pc = .ok (.invokevirtual index, 3)) (hf : 1 ≤ R.frames) {Wd cap : Nat} (hW : (rest.map fun v => v.category).sum ≤ Wd) (hl : Wd + 14 ≤ R.locals) (hcap : z.toNatClampNeg ≤ cap) (hk : k + 1 = k') (hn : n + cap = n') (hc : k' ≤ R.cells) (hs : n' ≤ R.slots)
    (K : ∀ T' h' b, b = h.size → n0 ≤ b → Wk p l e R s m args below meth c Z a0 EL n0 own vm0 T' h' L k' n' (b :: ss) → Ext h h' → Arv Z h' b kA ty z vs dv → Exa Z h' b ad → Go p e below P (T'.setTop (mkF m (pc + 3) Ls (.ref b :: rest)))) : Go p e below P (T.setTop (mkF m pc Ls (.ref a :: rest))) := by
  subst hk hn
  obtain ⟨T', h', X', e', ex, A, E', st⟩ := RoadKit.cloneH W.X W.ex W.hZ W.ho w1 w2 w3 w4 w5 w6 W.hp F.arh E (g := mkF m pc Ls (.ref a :: rest)) rfl hsz rfl hd hf (W := Wd) (by show 2 * 0 + _ ≤ _; omega) hl hcap hc hs
  have W' := W.stepE X' e' ex
  exact Go.st st (K T' h' _ rfl W.n0le (W'.cons ((Safe.new (Nat.le_refl _)).ext ex W.cv) A.lt) ex A E')
/-- 'ldc' of a String constant of EL, read -/
theorem Wk.ldc (W : Wk p l e R s m args below meth c Z a0 EL n0 own vm0 T h L k n ss) {text : String} {index : Nat} (w : (Cond.stringLink own index text).before a0 Z = true) (wS : ∀ a ∈ Bundle.stringAtoms, a.before a0 Z = true) (hmem : (own, index) ∈ EL) {vs : List Value} {z : Int32} (ht : (∀ c ∈ text.toList, c.toNat < 256) ∧ text.toList.map (fun c => Value.int (Jvm.Lit.byteI c.toNat.toUInt16)) = vs) (hz : ¬ z < 0) (hlz : z.toNatClampNeg = vs.length)
    (hd : decode c.code pc = .ok (.ldc index, 2)) {j : Nat} (hj : 4 * text.toList.length ≤ j) (hbig : j ≤ 536870912) (hk : k + 2 = k') (hn : n + (j + 4) = n') (hc : k' ≤ R.cells) (hl : n' ≤ R.slots)
    (K : ∀ vm1 T' h' a b kA, Wk p l e R s m args below meth c Z a0 EL n0 own vm1 T' h' L k' n' ss → Ext h h' → Exa Z h' a "java/lang/String" → Fld Z h' a "java/lang/String" "coder" "B" (.int 0) → Fld Z h' a "java/lang/String" "value" "[B" (.ref b) → Arv Z h' b kA .byte z vs (.int 0) → (∀ x ∈ ss, x ≠ a ∧ x ≠ b) → Go p e below P (T'.setTop (mkF m (pc + 2) Ls (.ref a :: rest)))) : Go p e below P (T.setTop (mkF m pc Ls rest)) := by
  subst hk hn
  obtain ⟨j0, S, hj0⟩ := W.sc
  obtain ⟨a, T', h', k1, b, kA, X', e', E, S', hk1, hZ', ho', EA, FC, FV, AV, la, lb, A, -, ne, st⟩ := RoadKit.ldcCH W.X W.ex W.hZ W.ho w wS W.hp S hj0 W.ew hmem W.cv ht hz hlz (g := mkF m pc Ls rest) rfl hd hj hbig hc hl
  have W' := W.step X' e' ⟨k1, S', hk1⟩ hZ' ho' A W.fr (W.old.ext E)
  exact Go.st st (K T'.vm T' h' a b kA W' E EA FC FV AV fun x hx => ne x (W'.sf x hx).1)
end K
section C
variable {p : Program} {l : Launch} {e : Env} {R : Room} {s : State} {m : MethodId} {args : Array Value} {below : List Frame} {meth : Method} {c : Code} {Z : State} {a0 : Array Value} {EL : List (String × Nat)} {n0 : Nat} {own : String} {vm0 vm1 : Vm} {T T' : State} {h h' : Heap} {L L' : List Loc} {k n k' n' : Nat} {ss ss' : List Addr} {P : Outcome → State → Prop} {U V : State} {pc : Nat} {Ls : Array Slot} {rest : List Value}
/-- the end that a body owes -/
def Pst (Z : State) (EL : List (String × Nat)) (n0 : Nat) (s : State) (ck cn : Nat) (Q : Option Value → Vm → Heap → Prop) (o : Outcome) (U : State) : Prop :=
  ∃ v L, o = .returned v ∧ (Q v U.vm U.heap ∧ Fr n0 L ∧ Old Z n0 U.heap) ∧ CHr Z EL s.vm s.heap U.vm U.heap ∧ ReturnedEndW s o U L ck cn
/-- a body's contract: called with as' at the heap h, the cells ss no literal's, it returns with Q -/
def Ct (l : Launch) (Z : State) (EL : List (String × Nat)) (n0 : Nat) (ws : List Cond) (y : MethodName) (bytes : ByteArray) (maxL : Nat) (ret : Option FieldType) (rm : Room) (as' : Array Value) (ss : List Addr) (h : Heap) (Q : Option Value → Vm → Heap → Prop) : Prop :=
  MetFree l y (head1 (Cond.code y bytes maxL ret :: ws) rm) (fun a U => a = as' ∧ Z.Warmed39 U.vm ∧ U.heap = h ∧ CHv Z EL U.vm h ∧ Saf Z EL U.vm h ss) (fun _ _ _ _ _ => True) (fun _ U o U' => Pst Z EL n0 U rm.cells rm.slots Q o U')
theorem Ct.intro {ws : List Cond} {y : MethodName} {bytes : ByteArray} {maxL : Nat} {ret : Option FieldType} {rm : Room} {as' : Array Value} {Q : Option Value → Vm → Heap → Prop} (hx : plainFor y = true) (O : Old Z n0 h) (hew : EW Z a0 EL)
    (body : ∀ (p : Program) (e : Env) (s : State) (m : MethodId) (below : List Frame) (meth : Method) (c : Code) (s₁ : State), Wk p l e rm s m as' below meth c Z a0 EL n0 y.cls s.vm s₁ h [] 0 0 ss → c.code = bytes → c.maxLocals = maxL → meth.sig.returnType = ret → meth.name = y.name → Go p e below (Pst Z EL n0 s rm.cells rm.slots Q) (s₁.setTop (entryFrame m as' maxL))) :
    Ct l Z EL n0 ws y bytes maxL ret rm as' ss h Q := by
  refine MetFree.of_bodySF hx hisR ?_
  intro p e s m args below meth c s₁ Bd hml0 hP hK
  obtain ⟨rfl, hZ, hh, hcv, hsf⟩ := hP
  subst hh
  have X0 : Stand p l e rm s m args below meth c s₁ [] 0 0 := Stand.of_body Bd
  have e0 : s₁.heap = s.heap := by rw [Bd.state]; rfl
  exact body p e s m below meth c s₁ ⟨X0, e0, ⟨_, (State.WarmedH.refl s).since s.heap.size, Nat.le_refl _⟩, hZ, findClass_of_methodNamed Bd.named, CHr.refl hcv, Fr.nil n0, O, hsf, Bd.exec, hew, Bd.notSynchronized⟩ Bd.bytes hml0 Bd.returns (name_of_methodNamed Bd.named Bd.method).1
theorem Ct.mono {ws : List Cond} {y : MethodName} {bytes : ByteArray} {maxL : Nat} {ret : Option FieldType} {rm : Room} {as' : Array Value} {Q Q' : Option Value → Vm → Heap → Prop} (C : Ct l Z EL n0 ws y bytes maxL ret rm as' ss h Q) (q : ∀ v vm h', Q v vm h' → Q' v vm h') : Ct l Z EL n0 ws y bytes maxL ret rm as' ss h Q' := by
  intro p e ha hc hk s m args below hf happ hP hK
  obtain ⟨n, o, h1, h2, h3, v, L, h4, ⟨h5, h6⟩, h7⟩ := C p e ha hc hk s m args below hf happ hP hK
  exact ⟨n, o, h1, h2, h3, v, L, h4, ⟨q _ _ _ h5, h6⟩, h7⟩
theorem Wk.ret {v : Option Value} {ck cn : Nat} {Q : Option Value → Vm → Heap → Prop} {g : JFrame} (W : Wk p l e R s m args below meth c Z a0 EL n0 own vm0 T h L k n ss) (hv : meth.sig.returnType = none → v = none) (hk : k ≤ ck) (hn : n ≤ cn)
    (st : ∀ fs, (∀ (f : JFrame) (acts : List Action), f.method = m → f.locked = none → f.entered = [] → (doReturn e (T.setTop f) acts v).1 = T.setFrames fs) → Steps p.tables e below (T.setTop g) (T.setFrames fs)) (q : ∀ vm1, CHr Z EL vm0 h vm1 h → Q v vm1 h) : Go p e below (Pst Z EL n0 s ck cn Q) (T.setTop g) := by
  obtain ⟨j, S, hj⟩ := W.sc
  have hj' : j ≤ T.heap.size := by rw [W.hp]; exact hj
  obtain ⟨fs, hr, hrun, hend, r1, r2, r3, r4⟩ := W.X.leaveW S hj' (v := v) hv W.nl
  have A := CHv.at W.X W.hZ W.ew W.cv
  have e1 : (T.setFrames fs).heap = h := W.hp
  refine ⟨_, _, st fs hr, hrun, hend, v, L, rfl, ⟨?_, W.fr, ?_⟩, ?_, r1, r2, r3, r4.mono hk hn⟩
  · rw [e1]; exact q _ A
  · rw [e1]; exact W.old
  · rw [e1]; exact W.cr.trans A
theorem Wk.retV {ck cn : Nat} {Q : Option Value → Vm → Heap → Prop} (W : Wk p l e R s m args below meth c Z a0 EL n0 own vm0 T h L k n ss) (hret : meth.sig.returnType = none) (hd : decode c.code pc = .ok (.return_, 1)) (hk : k ≤ ck) (hn : n ≤ cn) (q : ∀ vm1, CHr Z EL vm0 h vm1 h → Q none vm1 h) : Go p e below (Pst Z EL n0 s ck cn Q) (T.setTop (mkF m pc Ls [])) :=
  W.ret (fun _ => rfl) hk hn (fun fs hr => W.X.returnOut W.ex hret hd hr) q
theorem Wk.retA {ck cn : Nat} {Q : Option Value → Vm → Heap → Prop} {v : Value} {t : FieldType} (W : Wk p l e R s m args below meth c Z a0 EL n0 own vm0 T h L k n ss) (hret : meth.sig.returnType = some t) (ht : t.isReference = true) (hv : v.isRef = true) (hd : decode c.code pc = .ok (.areturn, 1)) (hk : k ≤ ck) (hn : n ≤ cn) (q : ∀ vm1, CHr Z EL vm0 h vm1 h → Q (some v) vm1 h) : Go p e below (Pst Z EL n0 s ck cn Q) (T.setTop (mkF m pc Ls (v :: rest))) :=
  W.ret (fun h => by rw [hret] at h; cases h) hk hn (fun fs hr => retOut W.X W.ex hret (by rcases ref_cases hv with rfl | ⟨z, rfl⟩ <;> cases t <;> first | rfl | cases ht) (Or.inr (Or.inr (Or.inr (Or.inr ⟨rfl, ht, hv⟩)))) hd hr) q
theorem Wk.retI {ck cn : Nat} {Q : Option Value → Vm → Heap → Prop} {z : Int32} (W : Wk p l e R s m args below meth c Z a0 EL n0 own vm0 T h L k n ss) (hret : meth.sig.returnType = some .int) (hd : decode c.code pc = .ok (.ireturn, 1)) (hk : k ≤ ck) (hn : n ≤ cn) (q : ∀ vm1, CHr Z EL vm0 h vm1 h → Q (some (.int z)) vm1 h) : Go p e below (Pst Z EL n0 s ck cn Q) (T.setTop (mkF m pc Ls (.int z :: rest))) :=
  W.ret (fun h => by rw [hret] at h; cases h) hk hn (fun fs hr => retOut W.X W.ex hret rfl (Or.inl ⟨rfl, Or.inl rfl, z, rfl⟩) hd hr) q
theorem Wk.retN {ck cn : Nat} {Q : Option Value → Vm → Heap → Prop} {z : Int32} {t : FieldType} (W : Wk p l e R s m args below meth c Z a0 EL n0 own vm0 T h L k n ss) (hret : meth.sig.returnType = some t) (ht : t = .boolean ∨ t = .byte ∨ t = .char ∨ t = .short) (hd : decode c.code pc = .ok (.ireturn, 1)) (hk : k ≤ ck) (hn : n ≤ cn) (q : ∀ vm1, CHr Z EL vm0 h vm1 h → Q (some (.int (nar t z))) vm1 h) : Go p e below (Pst Z EL n0 s ck cn Q) (T.setTop (mkF m pc Ls (.int z :: rest))) :=
  W.ret (fun h => by rw [hret] at h; cases h) hk hn (fun fs hr => RoadKit.retN W.X W.ex hret ht hd hr) q
/-- a contract pays a call -/
theorem Ct.back {y : MethodName} {bytes : ByteArray} {maxL : Nat} {ret : Option FieldType} {rm : Room} {as' : Array Value} {Q : Option Value → Vm → Heap → Prop} {len Wd : Nat} (C : Ct l Z EL n0 [] y bytes maxL ret rm as' ss' h Q) (W : Wk p l e R s m args below meth c Z a0 EL n0 own vm0 T h L k n ss) (wc : (Cond.code y bytes maxL ret).before a0 Z = true) (wz : (Cond.initialized y.cls).before a0 Z = true) (hss : ∀ x ∈ ss', x ∈ ss) (hf : rm.frames + 1 ≤ R.frames) (hl : Wd + (maxL + 11) + rm.locals ≤ R.locals) :
    BackS l R p e below (s.setVm vm0) args y len Wd (fun A a => a = as' ∧ A.U.heap = h ∧ A.cells + rm.cells ≤ R.cells ∧ A.slots + rm.slots ≤ R.slots)
      (fun A _ v B => ∃ L', (Q v B.U.vm B.U.heap ∧ Fr n0 L' ∧ Old Z n0 B.U.heap) ∧ B.locs = A.locs ++ L' ∧ B.cells = A.cells + rm.cells ∧ B.slots = A.slots + rm.slots ∧ CHr Z EL vm0 h B.U.vm B.U.heap) :=
  BackS.of_freeW (bytes := bytes) (maxL := maxL) (ret := ret) (E := fun _ first o t L' k' n' => k' = rm.cells ∧ n' = rm.slots ∧ (∃ v, o = .returned v ∧ (Q v t.vm t.heap ∧ Fr n0 L' ∧ Old Z n0 t.heap)) ∧ CHr Z EL first.vm first.heap t.vm t.heap) C hf hl
    (fun m' meth' c' A a Y hp => by
      have hU : Z.Warmed39 A.U.vm := wtrans (s := s.setVm vm0) W.hZ Y.warmed
      exact ⟨by show (Cond.and _ .tt).before a A.U = true; rw [Cond.before_and, mv hU wc]; rfl, mv hU wc, mv hU wz, hp.2.2.1, hp.2.2.2⟩)
    (fun m' meth' c' A a g mk Y hp => by
      have A0 : CHr Z EL vm0 h A.U.vm h := CHv.at Y W.hZ W.ew W.cv
      have A1 : Saf Z EL vm0 h ss' := fun x hx => W.sf x (hss x hx)
      exact ⟨hp.1, wtrans (s := s.setVm vm0) W.hZ Y.warmed, hp.2.1, A0.1, A1.chr A0⟩) (fun _ _ _ _ _ _ _ _ _ => trivial)
    (fun _ _ _ _ ⟨v, L', h1, h2, h3, h4⟩ => ⟨L', _, _, h4, rfl, rfl, ⟨v, h1, h2⟩, h3⟩)
    (fun m' meth' c' A a g mk v t L' k' n' Y hp _ _ ⟨e1, e2, ⟨v', e3, e4⟩, e5⟩ => by
      cases e3; subst e1 e2
      refine ⟨L', e4, rfl, rfl, rfl, (CHv.at Y W.hZ W.ew W.cv).trans ?_⟩
      rw [← hp.2.1]; exact e5)
/-- behind a call that may have interned -/
theorem Wk.behind {B : Pt} {n1 : Nat} (W : Wk p l e R s m args below meth c Z a0 EL n0 own vm0 T h L k n ss) (X : Stand p l e R ((s.setVm vm0).setVm B.U.vm) m args below meth c B.U B.locs B.cells B.slots) (S : (s.setVm vm0).Since B.U.vm B.U.heap.size) (g : T.heap.size ≤ B.U.heap.size) (hl : B.locs = L ++ L') (F : Fr n0 L') (O : Old Z n0 B.U.heap) (A : CHr Z EL vm0 h B.U.vm B.U.heap) (hk : B.cells = k') (hn : B.slots = n') : Wk p l e R s m args below meth c Z a0 EL n0 own B.U.vm B.U B.U.heap (L ++ L') k' n' ss := by
  obtain ⟨j, S0, hj⟩ := W.sc
  obtain ⟨X', S', hZ', ho'⟩ := rebS (n1 := T.heap.size) S0 (by rw [W.hp]; exact hj) X S g W.hZ W.ho
  subst hk hn
  rw [← hl]
  exact W.step X' rfl ⟨_, S', Nat.le_refl _⟩ hZ' ho' A (by rw [hl]; exact W.fr.app F) O
theorem Wk.callS (W : Wk p l e R s m args below meth c Z a0 EL n0 own vm0 T h L k n ss) {index : Nat} {y : MethodName} {bytes : ByteArray} {maxL : Nat} {ret : Option FieldType} {rm : Room} {as' : Array Value} {Q : Option Value → Vm → Heap → Prop} {Wd : Nat} {st argsL : List Value} (w1 : (Cond.methodLink own index y).before a0 Z = true) (w2 : (Cond.static y).before a0 Z = true) (w3 : (Cond.initialized y.cls).before a0 Z = true) (w4 : (Cond.code y bytes maxL ret).before a0 Z = true) (hy : y.cls ≠ "java/lang/invoke/MethodHandle" ∧ y.cls ≠ "java/lang/invoke/VarHandle")
    (C : Ct l Z EL n0 [] y bytes maxL ret rm as' ss' h Q) (hss : ∀ x ∈ ss', x ∈ ss) (hf : rm.frames + 1 ≤ R.frames) (hl : Wd + (maxL + 11) + rm.locals ≤ R.locals) (hk : k + rm.cells = k') (hn : n + rm.slots = n') (hc : k' ≤ R.cells) (hs : n' ≤ R.slots) (hsz : Ls.size = c.maxLocals) (ha : argsL.toArray = as') (hlen : ∀ sig, parseMethodDescriptor y.desc = some sig → argsL.length = sig.parameters.length) (hst : st = argsL.reverse ++ rest) (hW : (rest.map fun v => v.category).sum ≤ Wd) (hd : decode c.code pc = .ok (.invokestatic index, 3))
    (K : ∀ v vm1 T' h' L', Wk p l e R s m args below meth c Z a0 EL n0 own vm1 T' h' L' k' n' ss → Q v vm1 h' → Go p e below P (T'.setTop (mkF m (pc + 3) Ls (v.toList ++ rest)))) : Go p e below P (T.setTop (mkF m pc Ls st)) := by
  subst hk hn ha hst
  obtain ⟨v, vm₁, B, -, X', S', g', ⟨L', ⟨q1, q2, q3⟩, q4, q5, q6, q7⟩, stp⟩ := RoadKit.callSS W.X W.ex W.ho (mvT W.hZ w1) (mvT W.hZ w2) (mvT W.hZ w3) (mvT W.hZ w4) hy (C.back (len := 3) (Wd := Wd) W w4 w3 hss hf hl) (g := mkF m pc Ls (argsL.reverse ++ rest)) rfl hsz (argsL := argsL) (rest := rest) hlen rfl (by show 2 * 0 + _ ≤ _; omega) hd (fun _ _ => ⟨rfl, W.hp, hc, hs⟩)
  exact Go.tr stp (K v _ _ _ _ (W.behind (n1 := 0) X' S' g' q4 q2 q3 q7 q5 q6) q1)
theorem Wk.callI (W : Wk p l e R s m args below meth c Z a0 EL n0 own vm0 T h L k n ss) {index : Nat} {y : MethodName} {bytes : ByteArray} {maxL : Nat} {rm : Room} {as' : Array Value} {Q : Option Value → Vm → Heap → Prop} {Wd : Nat} {st argsL : List Value} {a : Addr} (hy1 : y.name = "<init>") (w1 : (Cond.methodLink own index y).before a0 Z = true) (w2 : (Cond.instanceMethod y).before a0 Z = true) (w3 : (Cond.initialized y.cls).before a0 Z = true) (w4 : (Cond.code y bytes maxL none).before a0 Z = true) (hy : y.cls ≠ "java/lang/invoke/MethodHandle" ∧ y.cls ≠ "java/lang/invoke/VarHandle")
    (C : Ct l Z EL n0 [] y bytes maxL none rm as' ss' h Q) (hss : ∀ x ∈ ss', x ∈ ss) (hf : rm.frames + 1 ≤ R.frames) (hl : Wd + (maxL + 11) + rm.locals ≤ R.locals) (hk : k + rm.cells = k') (hn : n + rm.slots = n') (hc : k' ≤ R.cells) (hs : n' ≤ R.slots) (hsz : Ls.size = c.maxLocals) (ha : (Value.ref a :: argsL).toArray = as') (hlen : ∀ sig, parseMethodDescriptor y.desc = some sig → argsL.length = sig.parameters.length) (hst : st = argsL.reverse ++ .ref a :: rest) (hW : (rest.map fun v => v.category).sum ≤ Wd) (hd : decode c.code pc = .ok (.invokespecial index, 3))
    (K : ∀ v vm1 T' h' L', Wk p l e R s m args below meth c Z a0 EL n0 own vm1 T' h' L' k' n' ss → Q v vm1 h' → Go p e below P (T'.setTop (mkF m (pc + 3) Ls (v.toList ++ rest)))) : Go p e below P (T.setTop (mkF m pc Ls st)) := by
  subst hk hn ha hst
  obtain ⟨v, vm₁, B, -, X', S', g', ⟨L', ⟨q1, q2, q3⟩, q4, q5, q6, q7⟩, stp⟩ := W.X.specialBackS W.ex hy1 W.ho (mvT W.hZ w1) (mvT W.hZ w2) (mvT W.hZ w4) hy (C.back (len := 3) (Wd := Wd) W w4 w3 hss hf hl) (g := mkF m pc Ls (argsL.reverse ++ .ref a :: rest)) rfl hsz (Steps.refl _) (argsL := argsL) (rest := rest) hlen rfl (by show 2 * 0 + _ ≤ _; omega) hd (fun _ _ => ⟨rfl, W.hp, hc, hs⟩)
  exact Go.tr stp (K v _ _ _ _ (W.behind (n1 := 0) X' S' g' q4 q2 q3 q7 q5 q6) q1)
theorem Wk.callV (W : Wk p l e R s m args below meth c Z a0 EL n0 own vm0 T h L k n ss) {D : String} {index : Nat} {y z : MethodName} {bytes : ByteArray} {maxL : Nat} {ret : Option FieldType} {rm : Room} {as' : Array Value} {Q : Option Value → Vm → Heap → Prop} {Wd : Nat} {st argsL : List Value} {a : Addr} (w1 : (Cond.methodLink own index y).before a0 Z = true) (w2 : (Cond.declares y).before a0 Z = true) (w5 : (Cond.selects D y z).before a0 Z = true) (w6 : (Cond.instanceMethod z).before a0 Z = true) (w3 : (Cond.initialized z.cls).before a0 Z = true) (w4 : (Cond.code z bytes maxL ret).before a0 Z = true) (nf : NotFace (s.setVm vm0) y) (hy : y.cls ≠ "java/lang/invoke/MethodHandle" ∧ y.cls ≠ "java/lang/invoke/VarHandle")
    (E : Exa Z h a D) (C : Ct l Z EL n0 [] z bytes maxL ret rm as' ss' h Q) (hss : ∀ x ∈ ss', x ∈ ss) (hf : rm.frames + 1 ≤ R.frames) (hl : Wd + (maxL + 11) + rm.locals ≤ R.locals) (hk : k + rm.cells = k') (hn : n + rm.slots = n') (hc : k' ≤ R.cells) (hs : n' ≤ R.slots) (hsz : Ls.size = c.maxLocals) (ha : (Value.ref a :: argsL).toArray = as') (hlen : ∀ sig, parseMethodDescriptor y.desc = some sig → argsL.length = sig.parameters.length) (hst : st = argsL.reverse ++ .ref a :: rest) (hW : (rest.map fun v => v.category).sum ≤ Wd) (hd : decode c.code pc = .ok (.invokevirtual index, 3))
    (K : ∀ v vm1 T' h' L', Wk p l e R s m args below meth c Z a0 EL n0 own vm1 T' h' L' k' n' ss → Q v vm1 h' → Go p e below P (T'.setTop (mkF m (pc + 3) Ls (v.toList ++ rest)))) : Go p e below P (T.setTop (mkF m pc Ls st)) := by
  subst hk hn ha hst
  obtain ⟨cB, kB, i1, i2, i3⟩ := isOf W.hZ W.hp E
  obtain ⟨v, vm₁, B, -, X', S', g', ⟨L', ⟨q1, q2, q3⟩, q4, q5, q6, q7⟩, stp⟩ := W.X.virtualBackS W.ex W.ho (mvT W.hZ w1) (mvT W.hZ w2) nf (mvT W.hZ w5) (mvT W.hZ w6) hy (C.back (len := 3) (Wd := Wd) W w4 w3 hss hf hl) i1 i3 (g := mkF m pc Ls (argsL.reverse ++ .ref a :: rest)) rfl hsz (Steps.refl _) (argsL := argsL) (rest := rest) hlen rfl (by show 2 * 0 + _ ≤ _; omega) hd (fun _ _ => ⟨rfl, W.hp, hc, hs⟩)
  exact Go.tr stp (K v _ _ _ _ (W.behind (n1 := 0) X' S' g' q4 q2 q3 q7 q5 q6) q1)
theorem Wk.nf (W : Wk p l e R s m args below meth c Z a0 EL n0 own vm0 T h L k n ss) {D : String} {y : MethodName} (w5 : (Cond.selects D y y).before a0 Z = true) : NotFace (s.setVm vm0) y := notFace_of_selects (args := #[]) (mvT W.hZ w5)
/-- a law of the library's pays a call -/
theorem Wk.libI (W : Wk p l e R s m args below meth c Z a0 EL n0 own vm0 T h L k n ss) {index : Nat} {y : MethodName} {bytes : ByteArray} {maxL : Nat} {as' : Array Value} {Q : Option Value → Heap → List Loc → Prop} {ws : List Addr} {Wd ck cn : Nat} {st argsL : List Value} {a : Addr} (hy1 : y.name = "<init>") (w1 : (Cond.methodLink own index y).before a0 Z = true) (w2 : (Cond.instanceMethod y).before a0 Z = true) (w4 : (Cond.code y bytes maxL none).before a0 Z = true) (hy : y.cls ≠ "java/lang/invoke/MethodHandle" ∧ y.cls ≠ "java/lang/invoke/VarHandle")
    (hB : Back l R p e below (s.setVm vm0) args y 3 Wd (fun A a => a = as' ∧ A.U.heap = h ∧ A.cells + ck ≤ R.cells ∧ A.slots + cn ≤ R.slots) (fun A _ v B => ∃ L', Q v B.U.heap L' ∧ B.locs = A.locs ++ L' ∧ B.cells = A.cells + ck ∧ B.slots = A.slots + cn)) (hQ : ∀ v h' L', Q v h' L' → Fr n0 L' ∧ Keep h h' ws) (hws : ∀ x ∈ ws, x ∈ ss) (hwn : ∀ x ∈ ws, n0 ≤ x)
    (hk : k + ck = k') (hn : n + cn = n') (hc : k' ≤ R.cells) (hs : n' ≤ R.slots) (hsz : Ls.size = c.maxLocals) (ha : (Value.ref a :: argsL).toArray = as') (hlen : ∀ sig, parseMethodDescriptor y.desc = some sig → argsL.length = sig.parameters.length) (hst : st = argsL.reverse ++ .ref a :: rest) (hW : (rest.map fun v => v.category).sum ≤ Wd) (hd : decode c.code pc = .ok (.invokespecial index, 3))
    (K : ∀ v T' h' L0 L', Wk p l e R s m args below meth c Z a0 EL n0 own vm0 T' h' L' k' n' ss → Q v h' L0 → Go p e below P (T'.setTop (mkF m (pc + 3) Ls (v.toList ++ rest)))) : Go p e below P (T.setTop (mkF m pc Ls st)) := by
  subst hk hn ha hst
  obtain ⟨v, vm₁, B, -, X', ⟨L', q1, q4, q5, q6⟩, stp⟩ := W.X.specialBack W.ex hy1 W.ho (mvT W.hZ w1) (mvT W.hZ w2) (mvT W.hZ w4) hy hB (g := mkF m pc Ls (argsL.reverse ++ .ref a :: rest)) rfl hsz (Steps.refl _) (argsL := argsL) (rest := rest) hlen rfl (by show 2 * 0 + _ ≤ _; omega) hd (fun _ _ => ⟨rfl, W.hp, hc, hs⟩)
  obtain ⟨r1, r2⟩ := hQ _ _ _ q1
  have e4 : B.locs = L ++ L' := q4
  have e5 : B.cells = k + ck := q5
  have e6 : B.slots = n + cn := q6
  rw [e5, e6] at X'
  exact Go.tr stp (K v _ _ _ _ (W.stepK X' rfl r2 hws hwn (by rw [e4]; exact W.fr.app r1)) q1)
theorem Wk.libV (W : Wk p l e R s m args below meth c Z a0 EL n0 own vm0 T h L k n ss) {D : String} {index : Nat} {y z : MethodName} {as' : Array Value} {Q : Option Value → Heap → List Loc → Prop} {ws : List Addr} {Wd ck cn : Nat} {st argsL : List Value} {a : Addr} (w1 : (Cond.methodLink own index y).before a0 Z = true) (w2 : (Cond.declares y).before a0 Z = true) (w5 : (Cond.selects D y z).before a0 Z = true) (w6 : (Cond.instanceMethod z).before a0 Z = true) (nf : NotFace (s.setVm vm0) y) (hy : y.cls ≠ "java/lang/invoke/MethodHandle" ∧ y.cls ≠ "java/lang/invoke/VarHandle") (E : Exa Z h a D)
    (hB : Back l R p e below (s.setVm vm0) args z 3 Wd (fun A a => a = as' ∧ A.U.heap = h ∧ A.cells + ck ≤ R.cells ∧ A.slots + cn ≤ R.slots) (fun A _ v B => ∃ L', Q v B.U.heap L' ∧ B.locs = A.locs ++ L' ∧ B.cells = A.cells + ck ∧ B.slots = A.slots + cn)) (hQ : ∀ v h' L', Q v h' L' → Fr n0 L' ∧ Keep h h' ws) (hws : ∀ x ∈ ws, x ∈ ss) (hwn : ∀ x ∈ ws, n0 ≤ x)
    (hk : k + ck = k') (hn : n + cn = n') (hc : k' ≤ R.cells) (hs : n' ≤ R.slots) (hsz : Ls.size = c.maxLocals) (ha : (Value.ref a :: argsL).toArray = as') (hlen : ∀ sig, parseMethodDescriptor y.desc = some sig → argsL.length = sig.parameters.length) (hst : st = argsL.reverse ++ .ref a :: rest) (hW : (rest.map fun v => v.category).sum ≤ Wd) (hd : decode c.code pc = .ok (.invokevirtual index, 3))
    (K : ∀ v T' h' L0 L', Wk p l e R s m args below meth c Z a0 EL n0 own vm0 T' h' L' k' n' ss → Q v h' L0 → Go p e below P (T'.setTop (mkF m (pc + 3) Ls (v.toList ++ rest)))) : Go p e below P (T.setTop (mkF m pc Ls st)) := by
  subst hk hn ha hst
  obtain ⟨cB, kB, i1, i2, i3⟩ := isOf W.hZ W.hp E
  obtain ⟨v, vm₁, B, -, X', ⟨L', q1, q4, q5, q6⟩, stp⟩ := W.X.virtualBack W.ex W.ho (mvT W.hZ w1) (mvT W.hZ w2) nf (mvT W.hZ w5) (mvT W.hZ w6) hy hB i1 i3 (g := mkF m pc Ls (argsL.reverse ++ .ref a :: rest)) rfl hsz (Steps.refl _) (argsL := argsL) (rest := rest) hlen rfl (by show 2 * 0 + _ ≤ _; omega) hd (fun _ _ => ⟨rfl, W.hp, hc, hs⟩)
  obtain ⟨r1, r2⟩ := hQ _ _ _ q1
  have e4 : B.locs = L ++ L' := q4
  have e5 : B.cells = k + ck := q5
  have e6 : B.slots = n + cn := q6
  rw [e5, e6] at X'
  exact Go.tr stp (K v _ _ _ _ (W.stepK X' rfl r2 hws hwn (by rw [e4]; exact W.fr.app r1)) q1)
end C
end Jvm.OwnKit
namespace Jvm.OwnKit
open Sem ClassFile Op Lib Bundle Jvm.Stand Jvm.Free Jvm.LawKit Jvm.RoadKit
section St
variable {Z : State} {h h' : Heap} {a t : Addr} {cs : List Int32}
abbrev bsOf (cs : List Int32) : List Value := (cs.map fun c => c.toInt8.toInt32).map Value.int
def Ch8 (cs : List Int32) : Prop := ∀ c ∈ cs, ¬ c < 0 ∧ ¬ (255 : Int32) < c
/-- the object at a is a String whose bytes lie at t and spell cs -/
def StrAt (Z : State) (h : Heap) (a t : Addr) (cs : List Int32) : Prop := Exa Z h a "java/lang/String" ∧ Fld Z h a "java/lang/String" "coder" "B" (.int 0) ∧ Fld Z h a "java/lang/String" "value" "[B" (.ref t) ∧ (∃ kb, Arv Z h t kb .byte (Int32.ofNat cs.length) (bsOf cs) (.int 0)) ∧ Ch8 cs ∧ cs.length ≤ 4000
theorem StrAt.E (S : StrAt Z h a t cs) : Exa Z h a "java/lang/String" := S.1
theorem StrAt.ext (S : StrAt Z h a t cs) (E : Ext h h') : StrAt Z h' a t cs := by
  obtain ⟨s1, s2, s3, ⟨kb, s4⟩, s5⟩ := S
  exact ⟨s1.ext E, s2.ext E, s3.ext E, ⟨kb, s4.ext E⟩, s5⟩
theorem StrAt.keep {ws : List Addr} (S : StrAt Z h a t cs) (K : Keep h h' ws) (q1 : a ∉ ws) (q2 : t ∉ ws) : StrAt Z h' a t cs := by
  obtain ⟨s1, s2, s3, ⟨kb, s4⟩, s5⟩ := S
  exact ⟨s1.keep K, s2.keep K q1, s3.keep K q1, ⟨kb, s4.keep K q2⟩, s5⟩
theorem StrAt.wr {b : Addr} {sl : Nat} {v : Value} (S : StrAt Z h a t cs) (W : Wr h h' b sl v) (q1 : a ≠ b) (q2 : t ≠ b) : StrAt Z h' a t cs := S.keep (Keep.of_wr W) (ninS q1 nin0) (ninS q2 nin0)
theorem StrAt.lt (S : StrAt Z h a t cs) : a < h.size := S.1.lt
theorem StrAt.ltt (S : StrAt Z h a t cs) : t < h.size := by obtain ⟨s1, s2, s3, ⟨kb, s4⟩, s5⟩ := S; exact s4.lt
theorem StrAt.neC {x : Addr} {C : String} (S : StrAt Z h a t cs) (E : Exa Z h x C) (hn : C ≠ "java/lang/String") : a ≠ x := fun q => (Exa.ne E S.1 hn) q.symm
theorem StrAt.neT {x : Addr} {C : String} {n : Nat} {a0 : Array Value} (S : StrAt Z h a t cs) (E : Exa Z h x C) (w : (Cond.instantiable C n).before a0 Z = true) : t ≠ x := by
  obtain ⟨s1, s2, s3, ⟨kb, s4⟩, s5⟩ := S
  exact fun q => (Exa.neArv E s4 w) q.symm
theorem StrAt.kb (S : StrAt Z h a t cs) : ∃ kb, Arv Z h t kb .byte (Int32.ofNat cs.length) (bsOf cs) (.int 0) := S.2.2.2.1
theorem StrAt.ch (S : StrAt Z h a t cs) : Ch8 cs := S.2.2.2.2.1
theorem StrAt.le (S : StrAt Z h a t cs) : cs.length ≤ 4000 := S.2.2.2.2.2
theorem Ch8.nil : Ch8 [] := fun _ q => nomatch q
theorem Ch8.cons {c : Int32} (h1 : ¬ c < 0 ∧ ¬ (255 : Int32) < c) (h2 : Ch8 cs) : Ch8 (c :: cs) := fun x hx => by
  rcases List.mem_cons.mp hx with rfl | hx
  · exact h1
  · exact h2 x hx
theorem Ch8.up (C : Ch8 cs) : ∀ c ∈ cs, ¬ c < 0 ∧ ¬ (65535 : Int32) < c := fun c hc => ⟨(C c hc).1, fun q => (C c hc).2 (by rw [Int32.lt_iff_toInt_lt] at q ⊢; have e1 : (65535 : Int32).toInt = 65535 := rfl; have e2 : (255 : Int32).toInt = 255 := rfl; omega)⟩
theorem Ch8.getD (C : Ch8 cs) (i : Nat) : ¬ cs.getD i 0 < 0 ∧ ¬ (255 : Int32) < cs.getD i 0 := by
  rw [List.getD_eq_getElem?_getD]
  cases h : cs[i]? with
  | none => exact ⟨by decide, by decide⟩
  | some x => exact C x (List.mem_of_getElem? h)
theorem Ch8.set {x : Int32} (C : Ch8 cs) (hx : ¬ x < 0 ∧ ¬ (255 : Int32) < x) (i : Nat) : Ch8 (cs.set i x) := fun c hc => by
  rcases List.mem_or_eq_of_mem_set hc with h | rfl
  · exact C c h
  · exact hx
theorem and255 (x : Int32) : ¬ (x &&& (255 : Int32)) < 0 ∧ ¬ (255 : Int32) < (x &&& (255 : Int32)) := by
  have q := c_and x 255 (by decide)
  have e1 : (255 : Int32).toInt = 255 := rfl
  have e0 : (0 : Int32).toInt = 0 := rfl
  rw [Int32.lt_iff_toInt_lt, Int32.lt_iff_toInt_lt, e0]
  omega
theorem nar_char {c : Int32} (h : ¬ c < 0 ∧ ¬ (255 : Int32) < c) : nar .char c = c := by
  have h1 := h.1
  have h2 := h.2
  rw [Int32.lt_iff_toInt_lt] at h1 h2
  have e1 : (255 : Int32).toInt = 255 := rfl
  have e0 : (0 : Int32).toInt = 0 := rfl
  have q := c_i2c c
  apply Int32.toInt_inj.mp
  show c.toUInt32.toUInt16.toUInt32.toInt32.toInt = c.toInt
  omega
theorem i2c_id {c : Int32} (h : ¬ c < 0 ∧ ¬ (255 : Int32) < c) : c.toUInt32.toUInt16.toUInt32.toInt32 = c := nar_char h
theorem nar_byte (c : Int32) : nar .byte c.toInt8.toInt32 = c.toInt8.toInt32 := by
  show c.toInt8.toInt32.toInt8.toInt32 = c.toInt8.toInt32
  simp
end St
end Jvm.OwnKit
namespace Jvm.Pilot.@@N@@
open Jvm Jvm.ClassFile Sem Op Lib Jvm.Free Jvm.Stand Jvm.LawKit Jvm.RoadKit Jvm.OwnKit Bundle Jvm.Pilot.@@N@@.Jvm.D
def Ctx (Z : State) (a0 : Array Value) (n0 : Nat) (g1 : Int32) : Prop := (∀ d ∈ tables_1, d.before a0 Z = true) ∧ EW Z a0 consts_1 ∧ Sta Z Z.heap "java/lang/String" "COMPACT_STRINGS" "Z" (.int g1) ∧ ¬ g1 = 0 ∧ True
theorem Ctx.words {Z : State} {a0 : Array Value} {n0 : Nat} {g1 : Int32} (cx : Ctx Z a0 n0 g1) : (∀ d ∈ tables_1, d.before a0 Z = true) := cx.1
theorem Ctx.ew {Z : State} {a0 : Array Value} {n0 : Nat} {g1 : Int32} (cx : Ctx Z a0 n0 g1) : EW Z a0 consts_1 := cx.2.1
theorem Ctx.cmp {Z : State} {a0 : Array Value} {n0 : Nat} {g1 : Int32} (cx : Ctx Z a0 n0 g1) : Sta Z Z.heap "java/lang/String" "COMPACT_STRINGS" "Z" (.int g1) := cx.2.2.1
theorem Ctx.g1 {Z : State} {a0 : Array Value} {n0 : Nat} {g1 : Int32} (cx : Ctx Z a0 n0 g1) : ¬ g1 = 0 := cx.2.2.2.1
theorem Ctx.w {Z : State} {a0 : Array Value} {n0 : Nat} {g1 : Int32} (cx : Ctx Z a0 n0 g1) (k : Nat) {d : Jvm.Cond} (hd : tables_1[k]? = some d) : d.before a0 Z = true := cx.1 _ (List.mem_of_getElem? hd)
theorem Ctx.str {Z : State} {a0 : Array Value} {n0 : Nat} {g1 : Int32} (cx : Ctx Z a0 n0 g1) : ∀ a ∈ Bundle.stringAtoms, a.before a0 Z = true := fun d hd => cx.1 d ((by decide +kernel : ∀ d ∈ Bundle.stringAtoms, d ∈ tables_1) d hd)
theorem Ctx.vw {Z : State} {a0 : Array Value} {n0 : Nat} {g1 : Int32} (cx : Ctx Z a0 n0 g1) : ∀ d ∈ StrChars.Road.words, d.before a0 Z = true := fun d hd => cx.1 d ((by decide +kernel : ∀ d ∈ StrChars.Road.words, d ∈ tables_1) d hd)
theorem Ctx.qw {Z : State} {a0 : Array Value} {n0 : Nat} {g1 : Int32} (cx : Ctx Z a0 n0 g1) : ∀ d ∈ StrChars.Road.wordsEq, d.before a0 Z = true := fun d hd => cx.1 d ((by decide +kernel : ∀ d ∈ StrChars.Road.wordsEq, d ∈ tables_1) d hd)
def litV (k : Nat) : List Value := match tables_1[k]? with | some (.stringLink _ _ t) => t.toList.map (fun c => Value.int (Jvm.Lit.byteI c.toNat.toUInt16)) | _ => []
def litC (k : Nat) : List Int32 := match tables_1[k]? with | some (.stringLink _ _ t) => t.toList.map (fun c => Int32.ofNat c.toNat) | _ => []
def ush8 (x : Int32) : Int32 := ((x.toUInt32 >>> ((8 : Int32) &&& 31).toUInt32).toInt32)
def mkL (x n : Int32) : List Int32 := if n = 0 then [] else if n = 1 then [x &&& 255] else [x &&& 255, ush8 x &&& 255]
def L3 (n : Int32) : Prop := n = 0 ∨ n = 1 ∨ n = 2
theorem l3_of (x : Int32) : L3 ((x &&& 3) % 3) := by
  have q := c_and x 3 (by decide)
  have e3 : (3 : Int32).toInt = 3 := rfl
  rw [e3] at q
  have r := (c_irem (x &&& 3) 3 3 rfl).1 q.1
  have e : (x &&& 3).toInt % 3 = 0 ∨ (x &&& 3).toInt % 3 = 1 ∨ (x &&& 3).toInt % 3 = 2 := by omega
  rcases e with e | e | e
  · exact Or.inl (Int32.toInt_inj.mp (by rw [r, e]; rfl))
  · exact Or.inr (Or.inl (Int32.toInt_inj.mp (by rw [r, e]; rfl)))
  · exact Or.inr (Or.inr (Int32.toInt_inj.mp (by rw [r, e]; rfl)))
theorem mkL_ne {x1 x2 l1 l2 : Int32} (h1 : L3 l1) (h2 : L3 l2) (h : ¬ l1 = l2) : ¬ mkL x1 l1 = mkL x2 l2 := by
  rcases h1 with rfl | rfl | rfl <;> rcases h2 with rfl | rfl | rfl <;> first | exact absurd rfl h | simp [mkL]
theorem own_no {Z : State} {a0 : Array Value} {C K O : String} {n : Nat} (wC : (Jvm.Cond.superclass C O).before a0 Z = true) (wO : (Jvm.Cond.noSuperclass O).before a0 Z = true) (wK : (Jvm.Cond.instantiable K n).before a0 Z = true) (h1 : C ≠ K) (h2 : O ≠ K) : ∃ c t, Z.vm.findClass C = some c ∧ Z.vm.findClass K = some t ∧ Z.vm.assignable c t = false := by
  obtain ⟨t, kt, g1, g2, g3, g4, -⟩ := Cond.instantiable_spec wK
  obtain ⟨co, ko, o1, o2, o3, -, -⟩ := Cond.noSuperclass_spec wO
  obtain ⟨c, h0⟩ := found_sup wC
  obtain ⟨p, k, kp, s1, s2, s3, s4, s5, -, s7⟩ := Cond.superclass_spec h0 wC
  cases o1.symm.trans s1
  have ne1 := ids_ne h0 g1 h1
  have ne2 := ids_ne o1 g1 h2
  have gi : kt.isInterface = false := by
    simp only [Bool.or_eq_false_iff] at g4; exact g4.1
  have r : ∀ fuel, Z.vm.isSubclassAux fuel co t = false := fun fuel => by
    cases fuel with
    | zero => rfl
    | succ f => simp [Vm.isSubclassAux, ne2, o2, o3]
  have r2 : ∀ fuel, Z.vm.isSubclassAux fuel c t = false := fun fuel => by
    cases fuel with
    | zero => rfl
    | succ f => simp [Vm.isSubclassAux, ne1, s2, s4, r]
  refine ⟨c, t, h0, g1, ?_⟩
  show Z.vm.assignableAux (255 + 1) c t = false
  simp [Vm.assignableAux, ne1, s2, g2, s5, g3, gi, Vm.isSubclass, r2]
theorem str_no {Z : State} {a0 : Array Value} {n0 : Nat} {g1 : Int32} (cx : Ctx Z a0 n0 g1) : ∃ c t, Z.vm.findClass "java/lang/String" = some c ∧ Z.vm.findClass "com/example/rudia/rudia/ScopedKey" = some t ∧ Z.vm.assignable c t = false := own_no (cx.w 67 rfl) (cx.w 68 rfl) (cx.w 27 rfl) (by decide) (by decide)
theorem d1_0 : decode method_2_code 0 = .ok (.iload_n 1, 1) := by decide +kernel
theorem d1_1 : decode method_2_code 1 = .ok (.ifCond .ne 14, 3) := by decide +kernel
theorem d1_4 : decode method_2_code 4 = .ok (.new 7, 3) := by decide +kernel
theorem d1_7 : decode method_2_code 7 = .ok (.dup, 1) := by decide +kernel
theorem d1_8 : decode method_2_code 8 = .ok (.iconst 0, 1) := by decide +kernel
theorem d1_9 : decode method_2_code 9 = .ok (.newarray .char, 2) := by decide +kernel
theorem d1_11 : decode method_2_code 11 = .ok (.invokespecial 9, 3) := by decide +kernel
theorem d1_14 : decode method_2_code 14 = .ok (.areturn, 1) := by decide +kernel
theorem d1_15 : decode method_2_code 15 = .ok (.iload_n 0, 1) := by decide +kernel
theorem d1_16 : decode method_2_code 16 = .ok (.sipush 255, 3) := by decide +kernel
theorem d1_19 : decode method_2_code 19 = .ok (.iand, 1) := by decide +kernel
theorem d1_20 : decode method_2_code 20 = .ok (.i2c, 1) := by decide +kernel
theorem d1_21 : decode method_2_code 21 = .ok (.istore_n 2, 1) := by decide +kernel
theorem d1_22 : decode method_2_code 22 = .ok (.iload_n 1, 1) := by decide +kernel
theorem d1_23 : decode method_2_code 23 = .ok (.iconst 1, 1) := by decide +kernel
theorem d1_24 : decode method_2_code 24 = .ok (.if_icmp .ne 8, 3) := by decide +kernel
theorem d1_27 : decode method_2_code 27 = .ok (.iload_n 2, 1) := by decide +kernel
theorem d1_28 : decode method_2_code 28 = .ok (.invokestatic 12, 3) := by decide +kernel
theorem d1_31 : decode method_2_code 31 = .ok (.areturn, 1) := by decide +kernel
theorem d1_32 : decode method_2_code 32 = .ok (.iload_n 0, 1) := by decide +kernel
theorem d1_33 : decode method_2_code 33 = .ok (.bipush 8, 2) := by decide +kernel
theorem d1_35 : decode method_2_code 35 = .ok (.iushr, 1) := by decide +kernel
theorem d1_36 : decode method_2_code 36 = .ok (.sipush 255, 3) := by decide +kernel
theorem d1_39 : decode method_2_code 39 = .ok (.iand, 1) := by decide +kernel
theorem d1_40 : decode method_2_code 40 = .ok (.i2c, 1) := by decide +kernel
theorem d1_41 : decode method_2_code 41 = .ok (.istore_n 3, 1) := by decide +kernel
theorem d1_42 : decode method_2_code 42 = .ok (.new 7, 3) := by decide +kernel
theorem d1_45 : decode method_2_code 45 = .ok (.dup, 1) := by decide +kernel
theorem d1_46 : decode method_2_code 46 = .ok (.iconst 2, 1) := by decide +kernel
theorem d1_47 : decode method_2_code 47 = .ok (.newarray .char, 2) := by decide +kernel
theorem d1_49 : decode method_2_code 49 = .ok (.dup, 1) := by decide +kernel
theorem d1_50 : decode method_2_code 50 = .ok (.iconst 0, 1) := by decide +kernel
theorem d1_51 : decode method_2_code 51 = .ok (.iload_n 2, 1) := by decide +kernel
theorem d1_52 : decode method_2_code 52 = .ok (.castore, 1) := by decide +kernel
theorem d1_53 : decode method_2_code 53 = .ok (.dup, 1) := by decide +kernel
theorem d1_54 : decode method_2_code 54 = .ok (.iconst 1, 1) := by decide +kernel
theorem d1_55 : decode method_2_code 55 = .ok (.iload_n 3, 1) := by decide +kernel
theorem d1_56 : decode method_2_code 56 = .ok (.castore, 1) := by decide +kernel
theorem d1_57 : decode method_2_code 57 = .ok (.invokespecial 9, 3) := by decide +kernel
theorem d1_60 : decode method_2_code 60 = .ok (.areturn, 1) := by decide +kernel
theorem d2_0 : decode jdk_42_method_3_code 0 = .ok (.aload_n 0, 1) := by decide +kernel
theorem d2_1 : decode jdk_42_method_3_code 1 = .ok (.aload_n 1, 1) := by decide +kernel
theorem d2_2 : decode jdk_42_method_3_code 2 = .ok (.iconst 0, 1) := by decide +kernel
theorem d2_3 : decode jdk_42_method_3_code 3 = .ok (.aload_n 1, 1) := by decide +kernel
theorem d2_4 : decode jdk_42_method_3_code 4 = .ok (.arraylength, 1) := by decide +kernel
theorem d2_5 : decode jdk_42_method_3_code 5 = .ok (.aconst_null, 1) := by decide +kernel
theorem d2_6 : decode jdk_42_method_3_code 6 = .ok (.invokespecial 27, 3) := by decide +kernel
theorem d2_9 : decode jdk_42_method_3_code 9 = .ok (.return_, 1) := by decide +kernel
theorem d3_0 : decode jdk_42_method_149_code 0 = .ok (.aload_n 0, 1) := by decide +kernel
theorem d3_1 : decode jdk_42_method_149_code 1 = .ok (.invokespecial 1, 3) := by decide +kernel
theorem d3_4 : decode jdk_42_method_149_code 4 = .ok (.iload_n 3, 1) := by decide +kernel
theorem d3_5 : decode jdk_42_method_149_code 5 = .ok (.ifCond .ne 22, 3) := by decide +kernel
theorem d3_8 : decode jdk_42_method_149_code 8 = .ok (.aload_n 0, 1) := by decide +kernel
theorem d3_9 : decode jdk_42_method_149_code 9 = .ok (.ldc 7, 2) := by decide +kernel
theorem d3_11 : decode jdk_42_method_149_code 11 = .ok (.getfield 9, 3) := by decide +kernel
theorem d3_14 : decode jdk_42_method_149_code 14 = .ok (.putfield 9, 3) := by decide +kernel
theorem d3_17 : decode jdk_42_method_149_code 17 = .ok (.aload_n 0, 1) := by decide +kernel
theorem d3_18 : decode jdk_42_method_149_code 18 = .ok (.ldc 7, 2) := by decide +kernel
theorem d3_20 : decode jdk_42_method_149_code 20 = .ok (.getfield 15, 3) := by decide +kernel
theorem d3_23 : decode jdk_42_method_149_code 23 = .ok (.putfield 15, 3) := by decide +kernel
theorem d3_26 : decode jdk_42_method_149_code 26 = .ok (.return_, 1) := by decide +kernel
theorem d5_0 : decode prog_32_method_1_code 0 = .ok (.aload_n 0, 1) := by decide +kernel
theorem d5_1 : decode prog_32_method_1_code 1 = .ok (.invokespecial 1, 3) := by decide +kernel
theorem d5_4 : decode prog_32_method_1_code 4 = .ok (.aload_n 0, 1) := by decide +kernel
theorem d5_5 : decode prog_32_method_1_code 5 = .ok (.aload_n 1, 1) := by decide +kernel
theorem d5_6 : decode prog_32_method_1_code 6 = .ok (.ldc 7, 2) := by decide +kernel
theorem d5_8 : decode prog_32_method_1_code 8 = .ok (.invokestatic 9, 3) := by decide +kernel
theorem d5_11 : decode prog_32_method_1_code 11 = .ok (.checkcast 15, 3) := by decide +kernel
theorem d5_14 : decode prog_32_method_1_code 14 = .ok (.putfield 17, 3) := by decide +kernel
theorem d5_17 : decode prog_32_method_1_code 17 = .ok (.aload_n 0, 1) := by decide +kernel
theorem d5_18 : decode prog_32_method_1_code 18 = .ok (.aload_n 2, 1) := by decide +kernel
theorem d5_19 : decode prog_32_method_1_code 19 = .ok (.ldc 22, 2) := by decide +kernel
theorem d5_21 : decode prog_32_method_1_code 21 = .ok (.invokestatic 9, 3) := by decide +kernel
theorem d5_24 : decode prog_32_method_1_code 24 = .ok (.checkcast 15, 3) := by decide +kernel
theorem d5_27 : decode prog_32_method_1_code 27 = .ok (.putfield 24, 3) := by decide +kernel
theorem d5_30 : decode prog_32_method_1_code 30 = .ok (.return_, 1) := by decide +kernel
theorem d6_0 : decode jdk_31_method_11_code 0 = .ok (.aload_n 0, 1) := by decide +kernel
theorem d6_1 : decode jdk_31_method_11_code 1 = .ok (.ifnonnull 12, 3) := by decide +kernel
theorem d6_13 : decode jdk_31_method_11_code 13 = .ok (.aload_n 0, 1) := by decide +kernel
theorem d6_14 : decode jdk_31_method_11_code 14 = .ok (.areturn, 1) := by decide +kernel
theorem d7_0 : decode prog_32_method_4_code 0 = .ok (.aload_n 1, 1) := by decide +kernel
theorem d7_1 : decode prog_32_method_4_code 1 = .ok (.instanceof 18, 3) := by decide +kernel
theorem d7_4 : decode prog_32_method_4_code 4 = .ok (.ifCond .ne 5, 3) := by decide +kernel
theorem d7_7 : decode prog_32_method_4_code 7 = .ok (.iconst 0, 1) := by decide +kernel
theorem d7_8 : decode prog_32_method_4_code 8 = .ok (.ireturn, 1) := by decide +kernel
theorem d7_9 : decode prog_32_method_4_code 9 = .ok (.aload_n 1, 1) := by decide +kernel
theorem d7_10 : decode prog_32_method_4_code 10 = .ok (.checkcast 18, 3) := by decide +kernel
theorem d7_13 : decode prog_32_method_4_code 13 = .ok (.astore_n 2, 1) := by decide +kernel
theorem d7_14 : decode prog_32_method_4_code 14 = .ok (.aload_n 0, 1) := by decide +kernel
theorem d7_15 : decode prog_32_method_4_code 15 = .ok (.getfield 17, 3) := by decide +kernel
theorem d7_18 : decode prog_32_method_4_code 18 = .ok (.aload_n 2, 1) := by decide +kernel
theorem d7_19 : decode prog_32_method_4_code 19 = .ok (.getfield 17, 3) := by decide +kernel
theorem d7_22 : decode prog_32_method_4_code 22 = .ok (.invokevirtual 26, 3) := by decide +kernel
theorem d7_25 : decode prog_32_method_4_code 25 = .ok (.ifCond .eq 21, 3) := by decide +kernel
theorem d7_28 : decode prog_32_method_4_code 28 = .ok (.aload_n 0, 1) := by decide +kernel
theorem d7_29 : decode prog_32_method_4_code 29 = .ok (.getfield 24, 3) := by decide +kernel
theorem d7_32 : decode prog_32_method_4_code 32 = .ok (.aload_n 2, 1) := by decide +kernel
theorem d7_33 : decode prog_32_method_4_code 33 = .ok (.getfield 24, 3) := by decide +kernel
theorem d7_36 : decode prog_32_method_4_code 36 = .ok (.invokevirtual 26, 3) := by decide +kernel
theorem d7_39 : decode prog_32_method_4_code 39 = .ok (.ifCond .eq 7, 3) := by decide +kernel
theorem d7_42 : decode prog_32_method_4_code 42 = .ok (.iconst 1, 1) := by decide +kernel
theorem d7_43 : decode prog_32_method_4_code 43 = .ok (.goto 4, 3) := by decide +kernel
theorem d7_46 : decode prog_32_method_4_code 46 = .ok (.iconst 0, 1) := by decide +kernel
theorem d7_47 : decode prog_32_method_4_code 47 = .ok (.ireturn, 1) := by decide +kernel
theorem d12_0 : decode jdk_42_method_139_code 0 = .ok (.getstatic 38, 3) := by decide +kernel
theorem d12_3 : decode jdk_42_method_139_code 3 = .ok (.ifCond .eq 23, 3) := by decide +kernel
theorem d12_6 : decode jdk_42_method_139_code 6 = .ok (.iload_n 0, 1) := by decide +kernel
theorem d12_7 : decode jdk_42_method_139_code 7 = .ok (.invokestatic 1015, 3) := by decide +kernel
theorem d12_10 : decode jdk_42_method_139_code 10 = .ok (.ifCond .eq 16, 3) := by decide +kernel
theorem d12_13 : decode jdk_42_method_139_code 13 = .ok (.new 10, 3) := by decide +kernel
theorem d12_16 : decode jdk_42_method_139_code 16 = .ok (.dup, 1) := by decide +kernel
theorem d12_17 : decode jdk_42_method_139_code 17 = .ok (.iload_n 0, 1) := by decide +kernel
theorem d12_18 : decode jdk_42_method_139_code 18 = .ok (.invokestatic 1018, 3) := by decide +kernel
theorem d12_21 : decode jdk_42_method_139_code 21 = .ok (.iconst 0, 1) := by decide +kernel
theorem d12_22 : decode jdk_42_method_139_code 22 = .ok (.invokespecial 209, 3) := by decide +kernel
theorem d12_25 : decode jdk_42_method_139_code 25 = .ok (.areturn, 1) := by decide +kernel
theorem d13_0 : decode jdk_43_method_3_code 0 = .ok (.iload_n 0, 1) := by decide +kernel
theorem d13_1 : decode jdk_43_method_3_code 1 = .ok (.sipush 255, 3) := by decide +kernel
theorem d13_4 : decode jdk_43_method_3_code 4 = .ok (.if_icmp .gt 7, 3) := by decide +kernel
theorem d13_7 : decode jdk_43_method_3_code 7 = .ok (.iconst 1, 1) := by decide +kernel
theorem d13_8 : decode jdk_43_method_3_code 8 = .ok (.goto 4, 3) := by decide +kernel
theorem d13_12 : decode jdk_43_method_3_code 12 = .ok (.ireturn, 1) := by decide +kernel
theorem d14_0 : decode jdk_43_method_46_code 0 = .ok (.iconst 1, 1) := by decide +kernel
theorem d14_1 : decode jdk_43_method_46_code 1 = .ok (.newarray .byte, 2) := by decide +kernel
theorem d14_3 : decode jdk_43_method_46_code 3 = .ok (.dup, 1) := by decide +kernel
theorem d14_4 : decode jdk_43_method_46_code 4 = .ok (.iconst 0, 1) := by decide +kernel
theorem d14_5 : decode jdk_43_method_46_code 5 = .ok (.iload_n 0, 1) := by decide +kernel
theorem d14_6 : decode jdk_43_method_46_code 6 = .ok (.i2b, 1) := by decide +kernel
theorem d14_7 : decode jdk_43_method_46_code 7 = .ok (.bastore, 1) := by decide +kernel
theorem d14_8 : decode jdk_43_method_46_code 8 = .ok (.areturn, 1) := by decide +kernel
theorem d15_0 : decode jdk_42_method_151_code 0 = .ok (.aload_n 0, 1) := by decide +kernel
theorem d15_1 : decode jdk_42_method_151_code 1 = .ok (.invokespecial 1, 3) := by decide +kernel
theorem d15_4 : decode jdk_42_method_151_code 4 = .ok (.aload_n 0, 1) := by decide +kernel
theorem d15_5 : decode jdk_42_method_151_code 5 = .ok (.aload_n 1, 1) := by decide +kernel
theorem d15_6 : decode jdk_42_method_151_code 6 = .ok (.putfield 9, 3) := by decide +kernel
theorem d15_9 : decode jdk_42_method_151_code 9 = .ok (.aload_n 0, 1) := by decide +kernel
theorem d15_10 : decode jdk_42_method_151_code 10 = .ok (.iload_n 2, 1) := by decide +kernel
theorem d15_11 : decode jdk_42_method_151_code 11 = .ok (.putfield 15, 3) := by decide +kernel
theorem d15_14 : decode jdk_42_method_151_code 14 = .ok (.return_, 1) := by decide +kernel
theorem d16_0 : decode method_3_code 0 = .ok (.iload_n 1, 1) := by decide +kernel
theorem d16_1 : decode method_3_code 1 = .ok (.iload_n 3, 1) := by decide +kernel
theorem d16_2 : decode method_3_code 2 = .ok (.if_icmp .eq 5, 3) := by decide +kernel
theorem d16_5 : decode method_3_code 5 = .ok (.iconst 0, 1) := by decide +kernel
theorem d16_6 : decode method_3_code 6 = .ok (.ireturn, 1) := by decide +kernel
theorem d16_7 : decode method_3_code 7 = .ok (.iload_n 1, 1) := by decide +kernel
theorem d16_8 : decode method_3_code 8 = .ok (.iconst 1, 1) := by decide +kernel
theorem d16_9 : decode method_3_code 9 = .ok (.if_icmp .lt 18, 3) := by decide +kernel
theorem d16_12 : decode method_3_code 12 = .ok (.iload_n 0, 1) := by decide +kernel
theorem d16_13 : decode method_3_code 13 = .ok (.sipush 255, 3) := by decide +kernel
theorem d16_16 : decode method_3_code 16 = .ok (.iand, 1) := by decide +kernel
theorem d16_17 : decode method_3_code 17 = .ok (.iload_n 2, 1) := by decide +kernel
theorem d16_18 : decode method_3_code 18 = .ok (.sipush 255, 3) := by decide +kernel
theorem d16_21 : decode method_3_code 21 = .ok (.iand, 1) := by decide +kernel
theorem d16_22 : decode method_3_code 22 = .ok (.if_icmp .eq 5, 3) := by decide +kernel
theorem d16_25 : decode method_3_code 25 = .ok (.iconst 0, 1) := by decide +kernel
theorem d16_26 : decode method_3_code 26 = .ok (.ireturn, 1) := by decide +kernel
theorem d16_27 : decode method_3_code 27 = .ok (.iload_n 1, 1) := by decide +kernel
theorem d16_28 : decode method_3_code 28 = .ok (.iconst 2, 1) := by decide +kernel
theorem d16_29 : decode method_3_code 29 = .ok (.if_icmp .lt 24, 3) := by decide +kernel
theorem d16_32 : decode method_3_code 32 = .ok (.iload_n 0, 1) := by decide +kernel
theorem d16_33 : decode method_3_code 33 = .ok (.bipush 8, 2) := by decide +kernel
theorem d16_35 : decode method_3_code 35 = .ok (.iushr, 1) := by decide +kernel
theorem d16_36 : decode method_3_code 36 = .ok (.sipush 255, 3) := by decide +kernel
theorem d16_39 : decode method_3_code 39 = .ok (.iand, 1) := by decide +kernel
theorem d16_40 : decode method_3_code 40 = .ok (.iload_n 2, 1) := by decide +kernel
theorem d16_41 : decode method_3_code 41 = .ok (.bipush 8, 2) := by decide +kernel
theorem d16_43 : decode method_3_code 43 = .ok (.iushr, 1) := by decide +kernel
theorem d16_44 : decode method_3_code 44 = .ok (.sipush 255, 3) := by decide +kernel
theorem d16_47 : decode method_3_code 47 = .ok (.iand, 1) := by decide +kernel
theorem d16_48 : decode method_3_code 48 = .ok (.if_icmp .eq 5, 3) := by decide +kernel
theorem d16_51 : decode method_3_code 51 = .ok (.iconst 0, 1) := by decide +kernel
theorem d16_52 : decode method_3_code 52 = .ok (.ireturn, 1) := by decide +kernel
theorem d16_53 : decode method_3_code 53 = .ok (.iconst 1, 1) := by decide +kernel
theorem d16_54 : decode method_3_code 54 = .ok (.ireturn, 1) := by decide +kernel
theorem pn0 : plainName "java/lang/String" = true := by first | (simp [plainName, overriddenIn]; done) | decide +kernel
theorem pn1 : plainName "java/lang/StringLatin1" = true := by first | (simp [plainName, overriddenIn]; done) | decide +kernel
theorem pn2 : plainName "com/example/rudia/rudia/ScopedKeyEqualsPinLaw" = true := by first | (simp [plainName, overriddenIn]; done) | decide +kernel
theorem pn3 : plainName "java/util/Objects" = true := by first | (simp [plainName, overriddenIn]; done) | decide +kernel
theorem pn4 : plainName "com/example/rudia/rudia/ScopedKey" = true := by first | (simp [plainName, overriddenIn]; done) | decide +kernel
theorem pd0 : parseMethodDescriptor "([CIILjava/lang/Void;)V" = some ⟨[(.array .char), .int, .int, (.object "java/lang/Void")], none⟩ := by decide +kernel
theorem pd1 : parseMethodDescriptor "(C)Z" = some ⟨[.char], some .boolean⟩ := by decide +kernel
theorem pd2 : parseMethodDescriptor "(C)[B" = some ⟨[.char], some (.array .byte)⟩ := by decide +kernel
theorem pd3 : parseMethodDescriptor "([BB)V" = some ⟨[(.array .byte), .byte], none⟩ := by decide +kernel
theorem pd4 : parseMethodDescriptor "([C)V" = some ⟨[(.array .char)], none⟩ := by decide +kernel
theorem pd5 : parseMethodDescriptor "(C)Ljava/lang/String;" = some ⟨[.char], some (.object "java/lang/String")⟩ := by decide +kernel
theorem pd6 : parseMethodDescriptor "(Ljava/lang/Object;Ljava/lang/String;)Ljava/lang/Object;" = some ⟨[(.object "java/lang/Object"), (.object "java/lang/String")], some (.object "java/lang/Object")⟩ := by decide +kernel
theorem pd7 : parseMethodDescriptor "(Ljava/lang/Object;)Z" = some ⟨[(.object "java/lang/Object")], some .boolean⟩ := by decide +kernel
theorem pd8 : parseMethodDescriptor "(II)Ljava/lang/String;" = some ⟨[.int, .int], some (.object "java/lang/String")⟩ := by decide +kernel
theorem pd9 : parseMethodDescriptor "(Ljava/lang/String;Ljava/lang/String;)V" = some ⟨[(.object "java/lang/String"), (.object "java/lang/String")], none⟩ := by decide +kernel
theorem pd10 : parseMethodDescriptor "(IIII)Z" = some ⟨[.int, .int, .int, .int], some .boolean⟩ := by decide +kernel
set_option maxRecDepth 65536 in
set_option maxHeartbeats 40000000 in
theorem ct_i4e {l : Launch} {Z : State} {a0 : Array Value} {n0 : Nat} {g1 : Int32} (cx : Ctx Z a0 n0 g1) {h : Heap} (O : Old Z n0 h) (a b : Addr) (E_a : Exa Z h a "java/lang/String") (F_value_a : Fld Z h a "java/lang/String" "value" "[B" .null) (F_coder_a : Fld Z h a "java/lang/String" "coder" "B" (.int 0)) (g_a : n0 ≤ a) :
    Ct l Z consts_1 n0 [] (⟨"java/lang/String", "<init>", "([CIILjava/lang/Void;)V"⟩ : MethodName) jdk_42_method_149_code 6 none ({ frames := 1, cells := 4, slots := 8, locals := 12 } : Room) #[(.ref a), (.ref b), (.int (0 : Int32)), (.int (0 : Int32)), .null] [a] h (fun v _ h' => v = none ∧ Keep h h' [a] ∧ ∃ t, StrAt Z h' a t []) := by
  refine Ct.intro (plainFor_of_name pn0) O cx.ew ?_
  intro p_ e_ s_ m_ bl_ mt_ c_ T0 W0 hby hml hret hnm
  refine Go.st (fun t_ k_ => castTop (g' := mkF m_ 0 #[.val (.ref a), .val (.ref b), .val (.int (0 : Int32)), .val (.int (0 : Int32)), .val .null, .unset] []) (by first | (simp [entryFrame, mkF, argsToLocals, Value.category]; done) | rfl) k_) ?_
  show Go p_ e_ bl_ _ (T0.setTop (mkF m_ 0 #[.val (.ref a), .val (.ref b), .val (.int (0 : Int32)), .val (.int (0 : Int32)), .val .null, .unset] []))
  have K0 : Keep h h [a] := Keep.refl _ _
  refine Go.st (fun _ => XS.aloadN W0.here W0.ex rfl (hb hby d3_0) rfl rfl) ?_
  show Go p_ e_ bl_ _ (T0.setTop (mkF m_ 1 #[.val (.ref a), .val (.ref b), .val (.int (0 : Int32)), .val (.int (0 : Int32)), .val .null, .unset] [(.ref a)]))
  refine W0.initO (cx.w 15 rfl) (cx.w 16 rfl) (cx.w 17 rfl) (by rw [hml]; rfl) (hb hby d3_1) (by decide) (Wd := 0) (Nat.le_of_eq rfl) (by decide) ?_
  intro T1 W1
  show Go p_ e_ bl_ _ (T1.setTop (mkF m_ 4 #[.val (.ref a), .val (.ref b), .val (.int (0 : Int32)), .val (.int (0 : Int32)), .val .null, .unset] []))
  refine Go.st (fun _ => XS.iloadN W1.here W1.ex rfl (hb hby d3_4) rfl) ?_
  show Go p_ e_ bl_ _ (T1.setTop (mkF m_ 5 #[.val (.ref a), .val (.ref b), .val (.int (0 : Int32)), .val (.int (0 : Int32)), .val .null, .unset] [(.int (0 : Int32))]))
  refine Go.st (fun _ => XS.ifNo W1.here W1.ex rfl (hb hby d3_5) rfl ((if0 _ _).trans (teq (rfl : (0 : Int32) = (0 : Int32))).2)) ?_
  show Go p_ e_ bl_ _ (T1.setTop (mkF m_ 8 #[.val (.ref a), .val (.ref b), .val (.int (0 : Int32)), .val (.int (0 : Int32)), .val .null, .unset] []))
  refine Go.st (fun _ => XS.aloadN W1.here W1.ex rfl (hb hby d3_8) rfl rfl) ?_
  show Go p_ e_ bl_ _ (T1.setTop (mkF m_ 9 #[.val (.ref a), .val (.ref b), .val (.int (0 : Int32)), .val (.int (0 : Int32)), .val .null, .unset] [(.ref a)]))
  refine W1.ldc (cx.w 18 rfl) cx.str (EL := consts_1) (by decide) (vs := []) (z := 0) ⟨by decide, rfl⟩ (by decide) rfl (hb hby d3_9) (j := 0) (by decide) (by decide) (k' := 2) (n' := 4) rfl rfl (by decide) (by decide) ?_
  intro vm2 T2 h2 a2 d2 kA_d2 W2 E2 E_a2 F_coder_a2 F_value_a2 V_d2 nl2
  replace E_a := E_a.ext E2
  replace F_value_a := F_value_a.ext E2
  replace F_coder_a := F_coder_a.ext E2
  replace K0 := K0.ext E2
  show Go p_ e_ bl_ _ (T2.setTop (mkF m_ 11 #[.val (.ref a), .val (.ref b), .val (.int (0 : Int32)), .val (.int (0 : Int32)), .val .null, .unset] [(.ref a2), (.ref a)]))
  refine W2.getF (cx.w 24 rfl) Via.refl F_value_a2 (hb hby d3_11) ?_
  intro T3 W3
  show Go p_ e_ bl_ _ (T3.setTop (mkF m_ 14 #[.val (.ref a), .val (.ref b), .val (.int (0 : Int32)), .val (.int (0 : Int32)), .val .null, .unset] [(.ref d2), (.ref a)]))
  refine W3.putF (cx.w 24 rfl) Via.refl F_value_a E_a (Or.inr ⟨(cx.w 20 rfl), rfl, hnm⟩) (cx.w 5 rfl) (ty := (.array .byte)) (by decide) rfl rfl (List.mem_of_getElem? (i := 0) rfl) g_a (hb hby d3_14) ?_
  intro T4 h4 L4 W4 w4
  replace E_a := E_a.wr w4
  replace F_value_a := F_value_a.same w4
  replace F_coder_a := F_coder_a.other w4 (Or.inr (slot_ne (Or.inr (cx.w 21 rfl)) (Or.inr (cx.w 20 rfl)) (by decide) (t := .byte) (t' := (.array .byte)) (by decide) (by decide)))
  replace E_a2 := E_a2.wr w4
  replace F_coder_a2 := F_coder_a2.other w4 (Or.inl (Ne.symm (nl2 a (List.mem_of_getElem? (i := 0) rfl)).1))
  replace F_value_a2 := F_value_a2.other w4 (Or.inl (Ne.symm (nl2 a (List.mem_of_getElem? (i := 0) rfl)).1))
  replace V_d2 := V_d2.other w4 (Ne.symm (nl2 a (List.mem_of_getElem? (i := 0) rfl)).2)
  replace K0 := K0.wr w4 (Or.inl (List.mem_of_getElem? (i := 0) rfl))
  show Go p_ e_ bl_ _ (T4.setTop (mkF m_ 17 #[.val (.ref a), .val (.ref b), .val (.int (0 : Int32)), .val (.int (0 : Int32)), .val .null, .unset] []))
  refine Go.st (fun _ => XS.aloadN W4.here W4.ex rfl (hb hby d3_17) rfl rfl) ?_
  show Go p_ e_ bl_ _ (T4.setTop (mkF m_ 18 #[.val (.ref a), .val (.ref b), .val (.int (0 : Int32)), .val (.int (0 : Int32)), .val .null, .unset] [(.ref a)]))
  refine W4.ldc (cx.w 18 rfl) cx.str (EL := consts_1) (by decide) (vs := []) (z := 0) ⟨by decide, rfl⟩ (by decide) rfl (hb hby d3_18) (j := 0) (by decide) (by decide) (k' := 4) (n' := 8) rfl rfl (by decide) (by decide) ?_
  intro vm5 T5 h5 a5 d5 kA_d5 W5 E5 E_a5 F_coder_a5 F_value_a5 V_d5 nl5
  replace E_a := E_a.ext E5
  replace F_value_a := F_value_a.ext E5
  replace F_coder_a := F_coder_a.ext E5
  replace E_a2 := E_a2.ext E5
  replace F_coder_a2 := F_coder_a2.ext E5
  replace F_value_a2 := F_value_a2.ext E5
  replace V_d2 := V_d2.ext E5
  replace K0 := K0.ext E5
  show Go p_ e_ bl_ _ (T5.setTop (mkF m_ 20 #[.val (.ref a), .val (.ref b), .val (.int (0 : Int32)), .val (.int (0 : Int32)), .val .null, .unset] [(.ref a5), (.ref a)]))
  refine W5.getF (cx.w 25 rfl) Via.refl F_coder_a5 (hb hby d3_20) ?_
  intro T6 W6
  show Go p_ e_ bl_ _ (T6.setTop (mkF m_ 23 #[.val (.ref a), .val (.ref b), .val (.int (0 : Int32)), .val (.int (0 : Int32)), .val .null, .unset] [(.int (0 : Int32)), (.ref a)]))
  refine W6.putF (cx.w 25 rfl) Via.refl F_coder_a E_a (Or.inr ⟨(cx.w 21 rfl), rfl, hnm⟩) (cx.w 5 rfl) (ty := .byte) (by decide) rfl rfl (List.mem_of_getElem? (i := 0) rfl) g_a (hb hby d3_23) ?_
  intro T7 h7 L7 W7 w7
  replace E_a := E_a.wr w7
  replace F_value_a := F_value_a.other w7 (Or.inr (slot_ne (Or.inr (cx.w 20 rfl)) (Or.inr (cx.w 21 rfl)) (by decide) (t := (.array .byte)) (t' := .byte) (by decide) (by decide)))
  replace F_coder_a := F_coder_a.same w7
  replace E_a2 := E_a2.wr w7
  replace F_coder_a2 := F_coder_a2.other w7 (Or.inl (Ne.symm (nl2 a (List.mem_of_getElem? (i := 0) rfl)).1))
  replace F_value_a2 := F_value_a2.other w7 (Or.inl (Ne.symm (nl2 a (List.mem_of_getElem? (i := 0) rfl)).1))
  replace V_d2 := V_d2.other w7 (Ne.symm (nl2 a (List.mem_of_getElem? (i := 0) rfl)).2)
  replace E_a5 := E_a5.wr w7
  replace F_coder_a5 := F_coder_a5.other w7 (Or.inl (Ne.symm (nl5 a (List.mem_of_getElem? (i := 0) rfl)).1))
  replace F_value_a5 := F_value_a5.other w7 (Or.inl (Ne.symm (nl5 a (List.mem_of_getElem? (i := 0) rfl)).1))
  replace V_d5 := V_d5.other w7 (Ne.symm (nl5 a (List.mem_of_getElem? (i := 0) rfl)).2)
  replace K0 := K0.wr w7 (Or.inl (List.mem_of_getElem? (i := 0) rfl))
  show Go p_ e_ bl_ _ (T7.setTop (mkF m_ 26 #[.val (.ref a), .val (.ref b), .val (.int (0 : Int32)), .val (.int (0 : Int32)), .val .null, .unset] []))
  exact W7.retV hret (hb hby d3_26) (by decide) (by decide) fun _ _ => ⟨rfl, K0, _, E_a, F_coder_a, F_value_a, ⟨_, V_d2⟩, Ch8.nil, Nat.zero_le _⟩
set_option maxRecDepth 65536 in
set_option maxHeartbeats 40000000 in
theorem ct_i1e {l : Launch} {Z : State} {a0 : Array Value} {n0 : Nat} {g1 : Int32} (cx : Ctx Z a0 n0 g1) {h : Heap} (O : Old Z n0 h) (a b : Addr) {kb : ClassId} (E_a : Exa Z h a "java/lang/String") (F_value_a : Fld Z h a "java/lang/String" "value" "[B" .null) (F_coder_a : Fld Z h a "java/lang/String" "coder" "B" (.int 0)) (g_a : n0 ≤ a) (V_b : Arv Z h b kb .char 0 [] (.int 0)) :
    Ct l Z consts_1 n0 [] (⟨"java/lang/String", "<init>", "([C)V"⟩ : MethodName) jdk_42_method_3_code 2 none ({ frames := 2, cells := 4, slots := 8, locals := 29 } : Room) #[(.ref a), (.ref b)] [a] h (fun v _ h' => v = none ∧ Keep h h' [a] ∧ ∃ t, StrAt Z h' a t []) := by
  refine Ct.intro (plainFor_of_name pn0) O cx.ew ?_
  intro p_ e_ s_ m_ bl_ mt_ c_ T0 W0 hby hml hret hnm
  refine Go.st (fun t_ k_ => castTop (g' := mkF m_ 0 #[.val (.ref a), .val (.ref b)] []) (by first | (simp [entryFrame, mkF, argsToLocals, Value.category]; done) | rfl) k_) ?_
  show Go p_ e_ bl_ _ (T0.setTop (mkF m_ 0 #[.val (.ref a), .val (.ref b)] []))
  refine Go.st (fun _ => XS.aloadN W0.here W0.ex rfl (hb hby d2_0) rfl rfl) ?_
  show Go p_ e_ bl_ _ (T0.setTop (mkF m_ 1 #[.val (.ref a), .val (.ref b)] [(.ref a)]))
  refine Go.st (fun _ => XS.aloadN W0.here W0.ex rfl (hb hby d2_1) rfl rfl) ?_
  show Go p_ e_ bl_ _ (T0.setTop (mkF m_ 2 #[.val (.ref a), .val (.ref b)] [(.ref b), (.ref a)]))
  refine Go.st (fun _ => XS.iconst W0.here W0.ex rfl (hb hby d2_2)) ?_
  show Go p_ e_ bl_ _ (T0.setTop (mkF m_ 3 #[.val (.ref a), .val (.ref b)] [(.int (0 : Int32)), (.ref b), (.ref a)]))
  refine Go.st (fun _ => XS.aloadN W0.here W0.ex rfl (hb hby d2_3) rfl rfl) ?_
  show Go p_ e_ bl_ _ (T0.setTop (mkF m_ 4 #[.val (.ref a), .val (.ref b)] [(.ref b), (.int (0 : Int32)), (.ref b), (.ref a)]))
  refine W0.alen V_b (hb hby d2_4) ?_
  show Go p_ e_ bl_ _ (T0.setTop (mkF m_ 5 #[.val (.ref a), .val (.ref b)] [(.int (0 : Int32)), (.int (0 : Int32)), (.ref b), (.ref a)]))
  refine Go.st (fun _ => XS.aconstNull W0.here W0.ex rfl (hb hby d2_5)) ?_
  show Go p_ e_ bl_ _ (T0.setTop (mkF m_ 6 #[.val (.ref a), .val (.ref b)] [.null, (.int (0 : Int32)), (.int (0 : Int32)), (.ref b), (.ref a)]))
  refine W0.callI (y := (⟨"java/lang/String", "<init>", "([CIILjava/lang/Void;)V"⟩ : MethodName)) rfl (cx.w 11 rfl) (cx.w 12 rfl) (cx.w 6 rfl) (cx.w 14 rfl) (by decide) (ct_i4e cx W0.old a b E_a F_value_a F_coder_a g_a) (allS (List.mem_of_getElem? (i := 0) rfl) all0) (by decide) (Wd := 0) (by decide) (k' := 4) (n' := 8) rfl rfl (by decide) (by decide) (by rw [hml]; rfl) (a := a) (argsL := [(.ref b), (.int (0 : Int32)), (.int (0 : Int32)), .null]) (rest := []) rfl (lenOf pd0 rfl) rfl (Nat.le_of_eq rfl) (hb hby d2_6) ?_
  intro v1 vm1 T1 h1 L1 W1 q1
  obtain ⟨rfl, K1, t1, S1⟩ := q1
  show Go p_ e_ bl_ _ (T1.setTop (mkF m_ 9 #[.val (.ref a), .val (.ref b)] []))
  exact W1.retV hret (hb hby d2_9) (by decide) (by decide) fun _ _ => ⟨rfl, K1, t1, S1⟩
set_option maxRecDepth 65536 in
set_option maxHeartbeats 40000000 in
theorem ct_canEnc {l : Launch} {Z : State} {a0 : Array Value} {n0 : Nat} {g1 : Int32} (cx : Ctx Z a0 n0 g1) {h : Heap} (O : Old Z n0 h) (c : Int32) (hc : ¬ c < 0 ∧ ¬ (255 : Int32) < c) :
    Ct l Z consts_1 n0 [] (⟨"java/lang/StringLatin1", "canEncode", "(C)Z"⟩ : MethodName) jdk_43_method_3_code 1 (some .boolean) ({ frames := 0, cells := 0, slots := 0, locals := 0 } : Room) #[(.int c)] [] h (fun v _ h' => v = some (.int 1) ∧ h' = h) := by
  refine Ct.intro (plainFor_of_name pn1) O cx.ew ?_
  intro p_ e_ s_ m_ bl_ mt_ c_ T0 W0 hby hml hret hnm
  refine Go.st (fun t_ k_ => castTop (g' := mkF m_ 0 #[.val (.int c)] []) (by first | (simp [entryFrame, mkF, argsToLocals, Value.category]; done) | rfl) k_) ?_
  show Go p_ e_ bl_ _ (T0.setTop (mkF m_ 0 #[.val (.int c)] []))
  refine Go.st (fun _ => XS.iloadN W0.here W0.ex rfl (hb hby d13_0) rfl) ?_
  show Go p_ e_ bl_ _ (T0.setTop (mkF m_ 1 #[.val (.int c)] [(.int c)]))
  refine Go.st (fun _ => XS.sipush W0.here W0.ex rfl (hb hby d13_1)) ?_
  show Go p_ e_ bl_ _ (T0.setTop (mkF m_ 4 #[.val (.int c)] [(.int (255 : Int32)), (.int c)]))
  refine Go.st (fun _ => XS.icmpNo W0.here W0.ex rfl (hb hby d13_4) rfl (flt (hc.2 : ¬ ((255 : Int32) < c))).2.2.1) ?_
  show Go p_ e_ bl_ _ (T0.setTop (mkF m_ 7 #[.val (.int c)] []))
  refine Go.st (fun _ => XS.iconst W0.here W0.ex rfl (hb hby d13_7)) ?_
  show Go p_ e_ bl_ _ (T0.setTop (mkF m_ 8 #[.val (.int c)] [(.int (1 : Int32))]))
  refine Go.st (fun _ => XS.goto W0.here W0.ex rfl (pc0 := 8) (pc' := 12) rfl (hb hby d13_8) (by decide) (by decide)) ?_
  show Go p_ e_ bl_ _ (T0.setTop (mkF m_ 12 #[.val (.int c)] [(.int (1 : Int32))]))
  exact W0.retN hret (by simp) (hb hby d13_12) (by decide) (by decide) fun _ _ => ⟨rfl, rfl⟩
set_option maxRecDepth 65536 in
set_option maxHeartbeats 40000000 in
theorem ct_toBytes {l : Launch} {Z : State} {a0 : Array Value} {n0 : Nat} {g1 : Int32} (cx : Ctx Z a0 n0 g1) {h : Heap} (O : Old Z n0 h) (c : Int32)  :
    Ct l Z consts_1 n0 [] (⟨"java/lang/StringLatin1", "toBytes", "(C)[B"⟩ : MethodName) jdk_43_method_46_code 1 (some (.array .byte)) ({ frames := 0, cells := 1, slots := 1, locals := 0 } : Room) #[(.int c)] [] h (fun v _ h' => ∃ (t : Addr) (kb : ClassId), v = some (.ref t) ∧ h.size ≤ t ∧ n0 ≤ t ∧ Keep h h' [] ∧ Arv Z h' t kb .byte 1 [.int c.toInt8.toInt32] (.int 0)) := by
  refine Ct.intro (plainFor_of_name pn1) O cx.ew ?_
  intro p_ e_ s_ m_ bl_ mt_ c_ T0 W0 hby hml hret hnm
  refine Go.st (fun t_ k_ => castTop (g' := mkF m_ 0 #[.val (.int c)] []) (by first | (simp [entryFrame, mkF, argsToLocals, Value.category]; done) | rfl) k_) ?_
  show Go p_ e_ bl_ _ (T0.setTop (mkF m_ 0 #[.val (.int c)] []))
  have K0 : Keep h h [] := Keep.refl _ _
  refine Go.st (fun _ => XS.iconst W0.here W0.ex rfl (hb hby d14_0)) ?_
  show Go p_ e_ bl_ _ (T0.setTop (mkF m_ 1 #[.val (.int c)] [(.int (1 : Int32))]))
  refine W0.newP (ty := .byte) (dv := .int 0) rfl rfl (cx.w 19 rfl) (hb hby d14_1) (z := (1 : Int32)) (by decide) (cap := 1) (by decide) (by decide) (k' := 1) (n' := 1) rfl rfl (by decide) (by decide) ?_
  intro T1 h1 b1 kA_b1 hb1 g_b1 W1 E1 V_b1
  have sz_b1 : h.size ≤ b1 := Nat.le_trans K0.1 (Nat.le_of_eq hb1.symm)
  replace K0 := K0.ext E1
  replace V_b1 : Arv Z h1 b1 kA_b1 .byte (1 : Int32) [(.int 0)] (.int 0) := V_b1
  show Go p_ e_ bl_ _ (T1.setTop (mkF m_ 3 #[.val (.int c)] [(.ref b1)]))
  refine Go.st (fun _ => XS.dup W1.here W1.ex rfl (hb hby d14_3) rfl rfl) ?_
  show Go p_ e_ bl_ _ (T1.setTop (mkF m_ 4 #[.val (.int c)] [(.ref b1), (.ref b1)]))
  refine Go.st (fun _ => XS.iconst W1.here W1.ex rfl (hb hby d14_4)) ?_
  show Go p_ e_ bl_ _ (T1.setTop (mkF m_ 5 #[.val (.int c)] [(.int (0 : Int32)), (.ref b1), (.ref b1)]))
  refine Go.st (fun _ => XS.iloadN W1.here W1.ex rfl (hb hby d14_5) rfl) ?_
  show Go p_ e_ bl_ _ (T1.setTop (mkF m_ 6 #[.val (.int c)] [(.int c), (.int (0 : Int32)), (.ref b1), (.ref b1)]))
  refine Go.st (fun _ => XS.i2b W1.here W1.ex rfl (hb hby d14_6) rfl) ?_
  show Go p_ e_ bl_ _ (T1.setTop (mkF m_ 7 #[.val (.int c)] [(.int (c.toInt8.toInt32)), (.int (0 : Int32)), (.ref b1), (.ref b1)]))
  refine W1.stB V_b1 (j := (0 : Int32)) (x := (c.toInt8.toInt32)) ⟨by decide, by decide⟩ 0 rfl (Nat.le_of_ble_eq_true rfl) (List.mem_of_getElem? (i := 0) rfl) g_b1 (hb hby d14_7) ?_
  intro T2 h2 L2 W2 w2 V_new
  replace K0 := K0.wr w2 (Or.inr sz_b1)
  replace V_b1 : Arv Z h2 b1 kA_b1 .byte (1 : Int32) [(.int (nar .byte (c.toInt8.toInt32)))] (.int 0) := V_new
  clear V_new
  show Go p_ e_ bl_ _ (T2.setTop (mkF m_ 8 #[.val (.int c)] [(.ref b1)]))
  rw [nar_byte] at V_b1
  exact W2.retA hret rfl rfl (hb hby d14_8) (by decide) (by decide) fun _ _ => ⟨b1, kA_b1, rfl, sz_b1, g_b1, K0, V_b1⟩
set_option maxRecDepth 65536 in
set_option maxHeartbeats 40000000 in
theorem ct_iBB {l : Launch} {Z : State} {a0 : Array Value} {n0 : Nat} {g1 : Int32} (cx : Ctx Z a0 n0 g1) {h : Heap} (O : Old Z n0 h) (a t : Addr) (E_a : Exa Z h a "java/lang/String") (F_value_a : Fld Z h a "java/lang/String" "value" "[B" .null) (F_coder_a : Fld Z h a "java/lang/String" "coder" "B" (.int 0)) (g_a : n0 ≤ a) :
    Ct l Z consts_1 n0 [] (⟨"java/lang/String", "<init>", "([BB)V"⟩ : MethodName) jdk_42_method_151_code 3 none ({ frames := 1, cells := 0, slots := 0, locals := 12 } : Room) #[(.ref a), (.ref t), (.int (0 : Int32))] [a] h (fun v _ h' => v = none ∧ Keep h h' [a] ∧ Exa Z h' a "java/lang/String" ∧ Fld Z h' a "java/lang/String" "coder" "B" (.int 0) ∧ Fld Z h' a "java/lang/String" "value" "[B" (.ref t)) := by
  refine Ct.intro (plainFor_of_name pn0) O cx.ew ?_
  intro p_ e_ s_ m_ bl_ mt_ c_ T0 W0 hby hml hret hnm
  refine Go.st (fun t_ k_ => castTop (g' := mkF m_ 0 #[.val (.ref a), .val (.ref t), .val (.int (0 : Int32))] []) (by first | (simp [entryFrame, mkF, argsToLocals, Value.category]; done) | rfl) k_) ?_
  show Go p_ e_ bl_ _ (T0.setTop (mkF m_ 0 #[.val (.ref a), .val (.ref t), .val (.int (0 : Int32))] []))
  have K0 : Keep h h [a] := Keep.refl _ _
  refine Go.st (fun _ => XS.aloadN W0.here W0.ex rfl (hb hby d15_0) rfl rfl) ?_
  show Go p_ e_ bl_ _ (T0.setTop (mkF m_ 1 #[.val (.ref a), .val (.ref t), .val (.int (0 : Int32))] [(.ref a)]))
  refine W0.initO (cx.w 15 rfl) (cx.w 16 rfl) (cx.w 17 rfl) (by rw [hml]; rfl) (hb hby d15_1) (by decide) (Wd := 0) (Nat.le_of_eq rfl) (by decide) ?_
  intro T1 W1
  show Go p_ e_ bl_ _ (T1.setTop (mkF m_ 4 #[.val (.ref a), .val (.ref t), .val (.int (0 : Int32))] []))
  refine Go.st (fun _ => XS.aloadN W1.here W1.ex rfl (hb hby d15_4) rfl rfl) ?_
  show Go p_ e_ bl_ _ (T1.setTop (mkF m_ 5 #[.val (.ref a), .val (.ref t), .val (.int (0 : Int32))] [(.ref a)]))
  refine Go.st (fun _ => XS.aloadN W1.here W1.ex rfl (hb hby d15_5) rfl rfl) ?_
  show Go p_ e_ bl_ _ (T1.setTop (mkF m_ 6 #[.val (.ref a), .val (.ref t), .val (.int (0 : Int32))] [(.ref t), (.ref a)]))
  refine W1.putF (cx.w 24 rfl) Via.refl F_value_a E_a (Or.inr ⟨(cx.w 20 rfl), rfl, hnm⟩) (cx.w 5 rfl) (ty := (.array .byte)) (by decide) rfl rfl (List.mem_of_getElem? (i := 0) rfl) g_a (hb hby d15_6) ?_
  intro T2 h2 L2 W2 w2
  replace E_a := E_a.wr w2
  replace F_value_a := F_value_a.same w2
  replace F_coder_a := F_coder_a.other w2 (Or.inr (slot_ne (Or.inr (cx.w 21 rfl)) (Or.inr (cx.w 20 rfl)) (by decide) (t := .byte) (t' := (.array .byte)) (by decide) (by decide)))
  replace K0 := K0.wr w2 (Or.inl (List.mem_of_getElem? (i := 0) rfl))
  show Go p_ e_ bl_ _ (T2.setTop (mkF m_ 9 #[.val (.ref a), .val (.ref t), .val (.int (0 : Int32))] []))
  refine Go.st (fun _ => XS.aloadN W2.here W2.ex rfl (hb hby d15_9) rfl rfl) ?_
  show Go p_ e_ bl_ _ (T2.setTop (mkF m_ 10 #[.val (.ref a), .val (.ref t), .val (.int (0 : Int32))] [(.ref a)]))
  refine Go.st (fun _ => XS.iloadN W2.here W2.ex rfl (hb hby d15_10) rfl) ?_
  show Go p_ e_ bl_ _ (T2.setTop (mkF m_ 11 #[.val (.ref a), .val (.ref t), .val (.int (0 : Int32))] [(.int (0 : Int32)), (.ref a)]))
  refine W2.putF (cx.w 25 rfl) Via.refl F_coder_a E_a (Or.inr ⟨(cx.w 21 rfl), rfl, hnm⟩) (cx.w 5 rfl) (ty := .byte) (by decide) rfl rfl (List.mem_of_getElem? (i := 0) rfl) g_a (hb hby d15_11) ?_
  intro T3 h3 L3 W3 w3
  replace E_a := E_a.wr w3
  replace F_value_a := F_value_a.other w3 (Or.inr (slot_ne (Or.inr (cx.w 20 rfl)) (Or.inr (cx.w 21 rfl)) (by decide) (t := (.array .byte)) (t' := .byte) (by decide) (by decide)))
  replace F_coder_a := F_coder_a.same w3
  replace K0 := K0.wr w3 (Or.inl (List.mem_of_getElem? (i := 0) rfl))
  show Go p_ e_ bl_ _ (T3.setTop (mkF m_ 14 #[.val (.ref a), .val (.ref t), .val (.int (0 : Int32))] []))
  exact W3.retV hret (hb hby d15_14) (by decide) (by decide) fun _ _ => ⟨rfl, K0, E_a, F_coder_a, F_value_a⟩
set_option maxRecDepth 65536 in
set_option maxHeartbeats 40000000 in
theorem ct_valueOf {l : Launch} {Z : State} {a0 : Array Value} {n0 : Nat} {g1 : Int32} (cx : Ctx Z a0 n0 g1) {h : Heap} (O : Old Z n0 h) (c : Int32) (hc : ¬ c < 0 ∧ ¬ (255 : Int32) < c) :
    Ct l Z consts_1 n0 [] (⟨"java/lang/String", "valueOf", "(C)Ljava/lang/String;"⟩ : MethodName) jdk_42_method_139_code 1 (some (.object "java/lang/String")) ({ frames := 2, cells := 2, slots := 5, locals := 27 } : Room) #[(.int c)] [] h (fun v _ h' => ∃ (a t : Addr), v = some (.ref a) ∧ h.size ≤ a ∧ n0 ≤ a ∧ Keep h h' [] ∧ StrAt Z h' a t [c]) := by
  refine Ct.intro (plainFor_of_name pn0) O cx.ew ?_
  intro p_ e_ s_ m_ bl_ mt_ c_ T0 W0 hby hml hret hnm
  refine Go.st (fun t_ k_ => castTop (g' := mkF m_ 0 #[.val (.int c)] []) (by first | (simp [entryFrame, mkF, argsToLocals, Value.category]; done) | rfl) k_) ?_
  show Go p_ e_ bl_ _ (T0.setTop (mkF m_ 0 #[.val (.int c)] []))
  have K0 : Keep h h [] := Keep.refl _ _
  refine W0.getS (cx.w 56 rfl) Via.refl (cx.cmp.ext W0.e0) (hb hby d12_0) ?_
  intro T1 W1
  show Go p_ e_ bl_ _ (T1.setTop (mkF m_ 3 #[.val (.int c)] [(.int g1)]))
  refine Go.st (fun _ => XS.ifNo W1.here W1.ex rfl (hb hby d12_3) rfl ((if0 _ _).trans (feq (cx.g1 : ¬ (g1 = (0 : Int32)))).1)) ?_
  show Go p_ e_ bl_ _ (T1.setTop (mkF m_ 6 #[.val (.int c)] []))
  refine Go.st (fun _ => XS.iloadN W1.here W1.ex rfl (hb hby d12_6) rfl) ?_
  show Go p_ e_ bl_ _ (T1.setTop (mkF m_ 7 #[.val (.int c)] [(.int c)]))
  refine W1.callS (y := (⟨"java/lang/StringLatin1", "canEncode", "(C)Z"⟩ : MethodName)) (cx.w 72 rfl) (cx.w 73 rfl) (cx.w 74 rfl) (cx.w 75 rfl) (by decide) (ct_canEnc cx W1.old c hc) all0 (by decide) (Wd := 0) (by decide) (k' := 0) (n' := 0) rfl rfl (by decide) (by decide) (by rw [hml]; rfl) (argsL := [(.int c)]) (rest := []) rfl (lenOf pd1 rfl) rfl (Nat.le_of_eq rfl) (hb hby d12_7) ?_
  intro v2 vm2 T2 h2 L2 W2 q2
  obtain ⟨rfl, eh_⟩ := q2
  subst h2
  show Go p_ e_ bl_ _ (T2.setTop (mkF m_ 10 #[.val (.int c)] [(.int (1 : Int32))]))
  refine Go.st (fun _ => XS.ifNo W2.here W2.ex rfl (hb hby d12_10) rfl ((if0 _ _).trans (feq ((by decide) : ¬ ((1 : Int32) = (0 : Int32)))).1)) ?_
  show Go p_ e_ bl_ _ (T2.setTop (mkF m_ 13 #[.val (.int c)] []))
  refine W2.newO (cx.w 76 rfl) (cx.w 5 rfl) (cx.w 6 rfl) (hb hby d12_13) (k' := 1) (n' := 4) rfl rfl (by decide) (by decide) ?_
  intro T3 h3 b3 hb3 g_b3 W3 E3 E_b3 D3
  have sz_b3 : h.size ≤ b3 := Nat.le_trans K0.1 (Nat.le_of_eq hb3.symm)
  replace K0 := K0.ext E3
  have F_value_b3 : Fld Z h3 b3 "java/lang/String" "value" "[B" .null := D3 (Or.inr (cx.w 20 rfl)) (ty := (.array .byte)) (by decide)
  have F_coder_b3 : Fld Z h3 b3 "java/lang/String" "coder" "B" (.int (0 : Int32)) := D3 (Or.inr (cx.w 21 rfl)) (ty := .byte) (by decide)
  show Go p_ e_ bl_ _ (T3.setTop (mkF m_ 16 #[.val (.int c)] [(.ref b3)]))
  refine Go.st (fun _ => XS.dup W3.here W3.ex rfl (hb hby d12_16) rfl rfl) ?_
  show Go p_ e_ bl_ _ (T3.setTop (mkF m_ 17 #[.val (.int c)] [(.ref b3), (.ref b3)]))
  refine Go.st (fun _ => XS.iloadN W3.here W3.ex rfl (hb hby d12_17) rfl) ?_
  show Go p_ e_ bl_ _ (T3.setTop (mkF m_ 18 #[.val (.int c)] [(.int c), (.ref b3), (.ref b3)]))
  refine W3.callS (y := (⟨"java/lang/StringLatin1", "toBytes", "(C)[B"⟩ : MethodName)) (cx.w 77 rfl) (cx.w 78 rfl) (cx.w 74 rfl) (cx.w 79 rfl) (by decide) (ct_toBytes cx W3.old c) all0 (by decide) (Wd := 2) (by decide) (k' := 2) (n' := 5) rfl rfl (by decide) (by decide) (by rw [hml]; rfl) (argsL := [(.int c)]) (rest := [(.ref b3), (.ref b3)]) rfl (lenOf pd2 rfl) rfl (Nat.le_of_eq rfl) (hb hby d12_18) ?_
  intro v4 vm4 T4 h4 L4 W4 q4
  obtain ⟨t, kt, rfl, hz1, gt, K1, V_t⟩ := q4
  have ne_b3_t : b3 ≠ t := Nat.ne_of_lt (Nat.lt_of_lt_of_le E_b3.lt hz1)
  have sz_t : h.size ≤ t := Nat.le_trans K0.1 hz1
  replace E_b3 := E_b3.keep K1
  replace F_value_b3 := F_value_b3.keep K1 nin0
  replace F_coder_b3 := F_coder_b3.keep K1 nin0
  replace K0 := K0.trans K1 all0
  show Go p_ e_ bl_ _ (T4.setTop (mkF m_ 21 #[.val (.int c)] [(.ref t), (.ref b3), (.ref b3)]))
  refine Go.st (fun _ => XS.iconst W4.here W4.ex rfl (hb hby d12_21)) ?_
  show Go p_ e_ bl_ _ (T4.setTop (mkF m_ 22 #[.val (.int c)] [(.int (0 : Int32)), (.ref t), (.ref b3), (.ref b3)]))
  refine W4.callI (y := (⟨"java/lang/String", "<init>", "([BB)V"⟩ : MethodName)) rfl (cx.w 80 rfl) (cx.w 81 rfl) (cx.w 6 rfl) (cx.w 82 rfl) (by decide) (ct_iBB cx W4.old b3 t E_b3 F_value_b3 F_coder_b3 g_b3) (allS (List.mem_of_getElem? (i := 0) rfl) all0) (by decide) (Wd := 1) (by decide) (k' := 2) (n' := 5) rfl rfl (by decide) (by decide) (by rw [hml]; rfl) (a := b3) (argsL := [(.ref t), (.int (0 : Int32))]) (rest := [(.ref b3)]) rfl (lenOf pd3 rfl) rfl (Nat.le_of_eq rfl) (hb hby d12_22) ?_
  intro v5 vm5 T5 h5 L5 W5 q5
  obtain ⟨rfl, K2, E_n, F_cn, F_vn⟩ := q5
  replace E_b3 := E_b3.keep K2
  replace V_t := V_t.keep K2 (ninS (Ne.symm ne_b3_t) nin0)
  replace K0 := K0.trans K2 (allS (Or.inr sz_b3) all0)
  show Go p_ e_ bl_ _ (T5.setTop (mkF m_ 25 #[.val (.int c)] [(.ref b3)]))
  exact W5.retA hret rfl rfl (hb hby d12_25) (by decide) (by decide) fun _ _ => ⟨b3, t, rfl, sz_b3, g_b3, K0, E_n, F_cn, F_vn, ⟨_, V_t⟩, Ch8.cons hc Ch8.nil, by show 1 ≤ 4000; decide⟩
set_option maxRecDepth 65536 in
set_option maxHeartbeats 40000000 in
theorem ct_mk {l : Launch} {Z : State} {a0 : Array Value} {n0 : Nat} {g1 : Int32} (cx : Ctx Z a0 n0 g1) {h : Heap} (O : Old Z n0 h) (x n : Int32)  :
    Ct l Z consts_1 n0 [] (⟨"com/example/rudia/rudia/ScopedKeyEqualsPinLaw", "mk", "(II)Ljava/lang/String;"⟩ : MethodName) method_2_code 4 (some (.object "java/lang/String")) ({ frames := 4, cells := 6, slots := 12, locals := 66 } : Room) #[(.int x), (.int n)] [] h (fun v _ h' => ∃ (a t : Addr), v = some (.ref a) ∧ h.size ≤ a ∧ n0 ≤ a ∧ Keep h h' [] ∧ StrAt Z h' a t (mkL x n)) := by
  refine Ct.intro (plainFor_of_name pn2) O cx.ew ?_
  intro p_ e_ s_ m_ bl_ mt_ c_ T0 W0 hby hml hret hnm
  refine Go.st (fun t_ k_ => castTop (g' := mkF m_ 0 #[.val (.int x), .val (.int n), .unset, .unset] []) (by first | (simp [entryFrame, mkF, argsToLocals, Value.category]; done) | rfl) k_) ?_
  show Go p_ e_ bl_ _ (T0.setTop (mkF m_ 0 #[.val (.int x), .val (.int n), .unset, .unset] []))
  have K0 : Keep h h [] := Keep.refl _ _
  refine Go.st (fun _ => XS.iloadN W0.here W0.ex rfl (hb hby d1_0) rfl) ?_
  show Go p_ e_ bl_ _ (T0.setTop (mkF m_ 1 #[.val (.int x), .val (.int n), .unset, .unset] [(.int n)]))
  by_cases hk0 : n = (0 : Int32)
  · refine Go.st (fun _ => XS.ifNo W0.here W0.ex rfl (hb hby d1_1) rfl ((if0 _ _).trans (teq (hk0 : n = (0 : Int32))).2)) ?_
    show Go p_ e_ bl_ _ (T0.setTop (mkF m_ 4 #[.val (.int x), .val (.int n), .unset, .unset] []))
    refine W0.newO (cx.w 4 rfl) (cx.w 5 rfl) (cx.w 6 rfl) (hb hby d1_4) (k' := 1) (n' := 4) rfl rfl (by decide) (by decide) ?_
    intro T1 h1 b1 hb1 g_b1 W1 E1 E_b1 D1
    have sz_b1 : h.size ≤ b1 := Nat.le_trans K0.1 (Nat.le_of_eq hb1.symm)
    replace K0 := K0.ext E1
    have F_value_b1 : Fld Z h1 b1 "java/lang/String" "value" "[B" .null := D1 (Or.inr (cx.w 20 rfl)) (ty := (.array .byte)) (by decide)
    have F_coder_b1 : Fld Z h1 b1 "java/lang/String" "coder" "B" (.int (0 : Int32)) := D1 (Or.inr (cx.w 21 rfl)) (ty := .byte) (by decide)
    show Go p_ e_ bl_ _ (T1.setTop (mkF m_ 7 #[.val (.int x), .val (.int n), .unset, .unset] [(.ref b1)]))
    refine Go.st (fun _ => XS.dup W1.here W1.ex rfl (hb hby d1_7) rfl rfl) ?_
    show Go p_ e_ bl_ _ (T1.setTop (mkF m_ 8 #[.val (.int x), .val (.int n), .unset, .unset] [(.ref b1), (.ref b1)]))
    refine Go.st (fun _ => XS.iconst W1.here W1.ex rfl (hb hby d1_8)) ?_
    show Go p_ e_ bl_ _ (T1.setTop (mkF m_ 9 #[.val (.int x), .val (.int n), .unset, .unset] [(.int (0 : Int32)), (.ref b1), (.ref b1)]))
    refine W1.newP (ty := .char) (dv := .int 0) rfl rfl (cx.w 7 rfl) (hb hby d1_9) (z := (0 : Int32)) (by decide) (cap := 0) (by decide) (by decide) (k' := 2) (n' := 4) rfl rfl (by decide) (by decide) ?_
    intro T2 h2 b2 kA_b2 hb2 g_b2 W2 E2 V_b2
    have ne_b1_b2 : b1 ≠ b2 := Nat.ne_of_lt (Nat.lt_of_lt_of_le E_b1.lt (Nat.le_of_eq hb2.symm))
    have sz_b2 : h.size ≤ b2 := Nat.le_trans K0.1 (Nat.le_of_eq hb2.symm)
    replace E_b1 := E_b1.ext E2
    replace F_value_b1 := F_value_b1.ext E2
    replace F_coder_b1 := F_coder_b1.ext E2
    replace K0 := K0.ext E2
    replace V_b2 : Arv Z h2 b2 kA_b2 .char (0 : Int32) [] (.int 0) := V_b2
    show Go p_ e_ bl_ _ (T2.setTop (mkF m_ 11 #[.val (.int x), .val (.int n), .unset, .unset] [(.ref b2), (.ref b1), (.ref b1)]))
    refine W2.callI (y := (⟨"java/lang/String", "<init>", "([C)V"⟩ : MethodName)) rfl (cx.w 8 rfl) (cx.w 9 rfl) (cx.w 6 rfl) (cx.w 10 rfl) (by decide) (ct_i1e cx W2.old b1 b2 E_b1 F_value_b1 F_coder_b1 g_b1 V_b2) (allS (List.mem_of_getElem? (i := 1) rfl) all0) (by decide) (Wd := 1) (by decide) (k' := 6) (n' := 12) rfl rfl (by decide) (by decide) (by rw [hml]; rfl) (a := b1) (argsL := [(.ref b2)]) (rest := [(.ref b1)]) rfl (lenOf pd4 rfl) rfl (Nat.le_of_eq rfl) (hb hby d1_11) ?_
    intro v4 vm4 T4 h4 L4 W4 q4
    obtain ⟨rfl, Ke3, t, S_n⟩ := q4
    replace E_b1 := E_b1.keep Ke3
    replace V_b2 := V_b2.keep Ke3 (ninS (Ne.symm ne_b1_b2) nin0)
    replace K0 := K0.trans Ke3 (allS (Or.inr sz_b1) all0)
    show Go p_ e_ bl_ _ (T4.setTop (mkF m_ 14 #[.val (.int x), .val (.int n), .unset, .unset] [(.ref b1)]))
    have S_b1 : StrAt Z h4 b1 t [] := S_n
    have em := (by simp [mkL, hk0] : mkL x n = [])
    exact W4.retA hret rfl rfl (hb hby d1_14) (by decide) (by decide) fun _ _ => ⟨b1, _, rfl, sz_b1, g_b1, K0, by rw [em]; exact S_b1⟩
  · refine Go.st (fun _ => XS.ifYes W0.here W0.ex rfl (pc0 := 1) (pc' := 15) rfl (hb hby d1_1) rfl ((if0 _ _).trans (feq (hk0 : ¬ (n = (0 : Int32)))).2) (by decide) (by decide)) ?_
    show Go p_ e_ bl_ _ (T0.setTop (mkF m_ 15 #[.val (.int x), .val (.int n), .unset, .unset] []))
    refine Go.st (fun _ => XS.iloadN W0.here W0.ex rfl (hb hby d1_15) rfl) ?_
    show Go p_ e_ bl_ _ (T0.setTop (mkF m_ 16 #[.val (.int x), .val (.int n), .unset, .unset] [(.int x)]))
    refine Go.st (fun _ => XS.sipush W0.here W0.ex rfl (hb hby d1_16)) ?_
    show Go p_ e_ bl_ _ (T0.setTop (mkF m_ 19 #[.val (.int x), .val (.int n), .unset, .unset] [(.int (255 : Int32)), (.int x)]))
    refine Go.st (fun _ => XS.iand W0.here W0.ex rfl (hb hby d1_19) rfl) ?_
    show Go p_ e_ bl_ _ (T0.setTop (mkF m_ 20 #[.val (.int x), .val (.int n), .unset, .unset] [(.int (x &&& (255 : Int32)))]))
    refine Go.st (fun _ => XS.i2c W0.here W0.ex rfl (hb hby d1_20) rfl) ?_
    show Go p_ e_ bl_ _ (T0.setTop (mkF m_ 21 #[.val (.int x), .val (.int n), .unset, .unset] [(.int ((x &&& (255 : Int32)).toUInt32.toUInt16.toUInt32.toInt32))]))
    rw [i2c_id (and255 x)]
    show Go p_ e_ bl_ _ (T0.setTop (mkF m_ 21 #[.val (.int x), .val (.int n), .unset, .unset] [(.int (x &&& (255 : Int32)))]))
    refine Go.st (fun _ => XS.istoreN W0.here W0.ex rfl (hb hby d1_21) rfl (l' := #[.val (.int x), .val (.int n), .val (.int (x &&& (255 : Int32))), .unset]) rfl) ?_
    show Go p_ e_ bl_ _ (T0.setTop (mkF m_ 22 #[.val (.int x), .val (.int n), .val (.int (x &&& (255 : Int32))), .unset] []))
    refine Go.st (fun _ => XS.iloadN W0.here W0.ex rfl (hb hby d1_22) rfl) ?_
    show Go p_ e_ bl_ _ (T0.setTop (mkF m_ 23 #[.val (.int x), .val (.int n), .val (.int (x &&& (255 : Int32))), .unset] [(.int n)]))
    refine Go.st (fun _ => XS.iconst W0.here W0.ex rfl (hb hby d1_23)) ?_
    show Go p_ e_ bl_ _ (T0.setTop (mkF m_ 24 #[.val (.int x), .val (.int n), .val (.int (x &&& (255 : Int32))), .unset] [(.int (1 : Int32)), (.int n)]))
    by_cases hk1 : n = (1 : Int32)
    · refine Go.st (fun _ => XS.icmpNo W0.here W0.ex rfl (hb hby d1_24) rfl (teq (hk1 : n = (1 : Int32))).2) ?_
      show Go p_ e_ bl_ _ (T0.setTop (mkF m_ 27 #[.val (.int x), .val (.int n), .val (.int (x &&& (255 : Int32))), .unset] []))
      refine Go.st (fun _ => XS.iloadN W0.here W0.ex rfl (hb hby d1_27) rfl) ?_
      show Go p_ e_ bl_ _ (T0.setTop (mkF m_ 28 #[.val (.int x), .val (.int n), .val (.int (x &&& (255 : Int32))), .unset] [(.int (x &&& (255 : Int32)))]))
      refine W0.callS (y := (⟨"java/lang/String", "valueOf", "(C)Ljava/lang/String;"⟩ : MethodName)) (cx.w 69 rfl) (cx.w 70 rfl) (cx.w 6 rfl) (cx.w 71 rfl) (by decide) (ct_valueOf cx W0.old (x &&& (255 : Int32)) (and255 x)) all0 (by decide) (Wd := 0) (by decide) (k' := 2) (n' := 5) rfl rfl (by decide) (by decide) (by rw [hml]; rfl) (argsL := [(.int (x &&& (255 : Int32)))]) (rest := []) rfl (lenOf pd5 rfl) rfl (Nat.le_of_eq rfl) (hb hby d1_28) ?_
      intro v6 vm6 T6 h6 L6 W6 q6
      obtain ⟨a, t, rfl, hz_a, g_a, Ko5, S_a⟩ := q6
      have sz_a : h.size ≤ a := Nat.le_trans K0.1 hz_a
      replace K0 := K0.trans Ko5 all0
      show Go p_ e_ bl_ _ (T6.setTop (mkF m_ 31 #[.val (.int x), .val (.int n), .val (.int (x &&& (255 : Int32))), .unset] [(.ref a)]))
      have em := (by simp [mkL, hk0, hk1] : mkL x n = [x &&& 255])
      exact W6.retA hret rfl rfl (hb hby d1_31) (by decide) (by decide) fun _ _ => ⟨a, _, rfl, sz_a, g_a, K0, by rw [em]; exact S_a⟩
    · refine Go.st (fun _ => XS.icmpYes W0.here W0.ex rfl (pc0 := 24) (pc' := 32) rfl (hb hby d1_24) rfl (feq (hk1 : ¬ (n = (1 : Int32)))).2 (by decide) (by decide)) ?_
      show Go p_ e_ bl_ _ (T0.setTop (mkF m_ 32 #[.val (.int x), .val (.int n), .val (.int (x &&& (255 : Int32))), .unset] []))
      refine Go.st (fun _ => XS.iloadN W0.here W0.ex rfl (hb hby d1_32) rfl) ?_
      show Go p_ e_ bl_ _ (T0.setTop (mkF m_ 33 #[.val (.int x), .val (.int n), .val (.int (x &&& (255 : Int32))), .unset] [(.int x)]))
      refine Go.st (fun _ => XS.bipush W0.here W0.ex rfl (hb hby d1_33)) ?_
      show Go p_ e_ bl_ _ (T0.setTop (mkF m_ 35 #[.val (.int x), .val (.int n), .val (.int (x &&& (255 : Int32))), .unset] [(.int (8 : Int32)), (.int x)]))
      refine Go.st (fun _ => XS.iushr W0.here W0.ex rfl (hb hby d1_35) rfl) ?_
      show Go p_ e_ bl_ _ (T0.setTop (mkF m_ 36 #[.val (.int x), .val (.int n), .val (.int (x &&& (255 : Int32))), .unset] [(.int ((x.toUInt32 >>> ((8 : Int32) &&& 31).toUInt32).toInt32))]))
      refine Go.st (fun _ => XS.sipush W0.here W0.ex rfl (hb hby d1_36)) ?_
      show Go p_ e_ bl_ _ (T0.setTop (mkF m_ 39 #[.val (.int x), .val (.int n), .val (.int (x &&& (255 : Int32))), .unset] [(.int (255 : Int32)), (.int ((x.toUInt32 >>> ((8 : Int32) &&& 31).toUInt32).toInt32))]))
      refine Go.st (fun _ => XS.iand W0.here W0.ex rfl (hb hby d1_39) rfl) ?_
      show Go p_ e_ bl_ _ (T0.setTop (mkF m_ 40 #[.val (.int x), .val (.int n), .val (.int (x &&& (255 : Int32))), .unset] [(.int (((x.toUInt32 >>> ((8 : Int32) &&& 31).toUInt32).toInt32) &&& (255 : Int32)))]))
      refine Go.st (fun _ => XS.i2c W0.here W0.ex rfl (hb hby d1_40) rfl) ?_
      show Go p_ e_ bl_ _ (T0.setTop (mkF m_ 41 #[.val (.int x), .val (.int n), .val (.int (x &&& (255 : Int32))), .unset] [(.int ((((x.toUInt32 >>> ((8 : Int32) &&& 31).toUInt32).toInt32) &&& (255 : Int32)).toUInt32.toUInt16.toUInt32.toInt32))]))
      rw [i2c_id (and255 ((x.toUInt32 >>> ((8 : Int32) &&& 31).toUInt32).toInt32))]
      show Go p_ e_ bl_ _ (T0.setTop (mkF m_ 41 #[.val (.int x), .val (.int n), .val (.int (x &&& (255 : Int32))), .unset] [(.int (((x.toUInt32 >>> ((8 : Int32) &&& 31).toUInt32).toInt32) &&& (255 : Int32)))]))
      refine Go.st (fun _ => XS.istoreN W0.here W0.ex rfl (hb hby d1_41) rfl (l' := #[.val (.int x), .val (.int n), .val (.int (x &&& (255 : Int32))), .val (.int (((x.toUInt32 >>> ((8 : Int32) &&& 31).toUInt32).toInt32) &&& (255 : Int32)))]) rfl) ?_
      show Go p_ e_ bl_ _ (T0.setTop (mkF m_ 42 #[.val (.int x), .val (.int n), .val (.int (x &&& (255 : Int32))), .val (.int (((x.toUInt32 >>> ((8 : Int32) &&& 31).toUInt32).toInt32) &&& (255 : Int32)))] []))
      refine W0.newO (cx.w 4 rfl) (cx.w 5 rfl) (cx.w 6 rfl) (hb hby d1_42) (k' := 1) (n' := 4) rfl rfl (by decide) (by decide) ?_
      intro T7 h7 b7 hb7 g_b7 W7 E7 E_b7 D7
      have sz_b7 : h.size ≤ b7 := Nat.le_trans K0.1 (Nat.le_of_eq hb7.symm)
      replace K0 := K0.ext E7
      have F_value_b7 : Fld Z h7 b7 "java/lang/String" "value" "[B" .null := D7 (Or.inr (cx.w 20 rfl)) (ty := (.array .byte)) (by decide)
      have F_coder_b7 : Fld Z h7 b7 "java/lang/String" "coder" "B" (.int (0 : Int32)) := D7 (Or.inr (cx.w 21 rfl)) (ty := .byte) (by decide)
      show Go p_ e_ bl_ _ (T7.setTop (mkF m_ 45 #[.val (.int x), .val (.int n), .val (.int (x &&& (255 : Int32))), .val (.int (((x.toUInt32 >>> ((8 : Int32) &&& 31).toUInt32).toInt32) &&& (255 : Int32)))] [(.ref b7)]))
      refine Go.st (fun _ => XS.dup W7.here W7.ex rfl (hb hby d1_45) rfl rfl) ?_
      show Go p_ e_ bl_ _ (T7.setTop (mkF m_ 46 #[.val (.int x), .val (.int n), .val (.int (x &&& (255 : Int32))), .val (.int (((x.toUInt32 >>> ((8 : Int32) &&& 31).toUInt32).toInt32) &&& (255 : Int32)))] [(.ref b7), (.ref b7)]))
      refine Go.st (fun _ => XS.iconst W7.here W7.ex rfl (hb hby d1_46)) ?_
      show Go p_ e_ bl_ _ (T7.setTop (mkF m_ 47 #[.val (.int x), .val (.int n), .val (.int (x &&& (255 : Int32))), .val (.int (((x.toUInt32 >>> ((8 : Int32) &&& 31).toUInt32).toInt32) &&& (255 : Int32)))] [(.int (2 : Int32)), (.ref b7), (.ref b7)]))
      refine W7.newP (ty := .char) (dv := .int 0) rfl rfl (cx.w 7 rfl) (hb hby d1_47) (z := (2 : Int32)) (by decide) (cap := 2) (by decide) (by decide) (k' := 2) (n' := 6) rfl rfl (by decide) (by decide) ?_
      intro T8 h8 b8 kA_b8 hb8 g_b8 W8 E8 V_b8
      have ne_b7_b8 : b7 ≠ b8 := Nat.ne_of_lt (Nat.lt_of_lt_of_le E_b7.lt (Nat.le_of_eq hb8.symm))
      have sz_b8 : h.size ≤ b8 := Nat.le_trans K0.1 (Nat.le_of_eq hb8.symm)
      replace E_b7 := E_b7.ext E8
      replace F_value_b7 := F_value_b7.ext E8
      replace F_coder_b7 := F_coder_b7.ext E8
      replace K0 := K0.ext E8
      replace V_b8 : Arv Z h8 b8 kA_b8 .char (2 : Int32) [(.int 0), (.int 0)] (.int 0) := V_b8
      show Go p_ e_ bl_ _ (T8.setTop (mkF m_ 49 #[.val (.int x), .val (.int n), .val (.int (x &&& (255 : Int32))), .val (.int (((x.toUInt32 >>> ((8 : Int32) &&& 31).toUInt32).toInt32) &&& (255 : Int32)))] [(.ref b8), (.ref b7), (.ref b7)]))
      refine Go.st (fun _ => XS.dup W8.here W8.ex rfl (hb hby d1_49) rfl rfl) ?_
      show Go p_ e_ bl_ _ (T8.setTop (mkF m_ 50 #[.val (.int x), .val (.int n), .val (.int (x &&& (255 : Int32))), .val (.int (((x.toUInt32 >>> ((8 : Int32) &&& 31).toUInt32).toInt32) &&& (255 : Int32)))] [(.ref b8), (.ref b8), (.ref b7), (.ref b7)]))
      refine Go.st (fun _ => XS.iconst W8.here W8.ex rfl (hb hby d1_50)) ?_
      show Go p_ e_ bl_ _ (T8.setTop (mkF m_ 51 #[.val (.int x), .val (.int n), .val (.int (x &&& (255 : Int32))), .val (.int (((x.toUInt32 >>> ((8 : Int32) &&& 31).toUInt32).toInt32) &&& (255 : Int32)))] [(.int (0 : Int32)), (.ref b8), (.ref b8), (.ref b7), (.ref b7)]))
      refine Go.st (fun _ => XS.iloadN W8.here W8.ex rfl (hb hby d1_51) rfl) ?_
      show Go p_ e_ bl_ _ (T8.setTop (mkF m_ 52 #[.val (.int x), .val (.int n), .val (.int (x &&& (255 : Int32))), .val (.int (((x.toUInt32 >>> ((8 : Int32) &&& 31).toUInt32).toInt32) &&& (255 : Int32)))] [(.int (x &&& (255 : Int32))), (.int (0 : Int32)), (.ref b8), (.ref b8), (.ref b7), (.ref b7)]))
      refine W8.stC V_b8 (j := (0 : Int32)) (x := (x &&& (255 : Int32))) ⟨by decide, by decide⟩ 0 rfl (Nat.le_of_ble_eq_true rfl) (List.mem_of_getElem? (i := 0) rfl) g_b8 (hb hby d1_52) ?_
      intro T9 h9 L9 W9 w9 V_new
      replace E_b7 := E_b7.wr w9
      replace F_value_b7 := F_value_b7.other w9 (Or.inl ne_b7_b8)
      replace F_coder_b7 := F_coder_b7.other w9 (Or.inl ne_b7_b8)
      replace K0 := K0.wr w9 (Or.inr sz_b8)
      rw [nar_char (and255 x)] at V_new
      replace V_b8 : Arv Z h9 b8 kA_b8 .char (2 : Int32) [(.int (x &&& (255 : Int32))), (.int 0)] (.int 0) := V_new
      clear V_new
      show Go p_ e_ bl_ _ (T9.setTop (mkF m_ 53 #[.val (.int x), .val (.int n), .val (.int (x &&& (255 : Int32))), .val (.int (((x.toUInt32 >>> ((8 : Int32) &&& 31).toUInt32).toInt32) &&& (255 : Int32)))] [(.ref b8), (.ref b7), (.ref b7)]))
      refine Go.st (fun _ => XS.dup W9.here W9.ex rfl (hb hby d1_53) rfl rfl) ?_
      show Go p_ e_ bl_ _ (T9.setTop (mkF m_ 54 #[.val (.int x), .val (.int n), .val (.int (x &&& (255 : Int32))), .val (.int (((x.toUInt32 >>> ((8 : Int32) &&& 31).toUInt32).toInt32) &&& (255 : Int32)))] [(.ref b8), (.ref b8), (.ref b7), (.ref b7)]))
      refine Go.st (fun _ => XS.iconst W9.here W9.ex rfl (hb hby d1_54)) ?_
      show Go p_ e_ bl_ _ (T9.setTop (mkF m_ 55 #[.val (.int x), .val (.int n), .val (.int (x &&& (255 : Int32))), .val (.int (((x.toUInt32 >>> ((8 : Int32) &&& 31).toUInt32).toInt32) &&& (255 : Int32)))] [(.int (1 : Int32)), (.ref b8), (.ref b8), (.ref b7), (.ref b7)]))
      refine Go.st (fun _ => XS.iloadN W9.here W9.ex rfl (hb hby d1_55) rfl) ?_
      show Go p_ e_ bl_ _ (T9.setTop (mkF m_ 56 #[.val (.int x), .val (.int n), .val (.int (x &&& (255 : Int32))), .val (.int (((x.toUInt32 >>> ((8 : Int32) &&& 31).toUInt32).toInt32) &&& (255 : Int32)))] [(.int (((x.toUInt32 >>> ((8 : Int32) &&& 31).toUInt32).toInt32) &&& (255 : Int32))), (.int (1 : Int32)), (.ref b8), (.ref b8), (.ref b7), (.ref b7)]))
      refine W9.stC V_b8 (j := (1 : Int32)) (x := (((x.toUInt32 >>> ((8 : Int32) &&& 31).toUInt32).toInt32) &&& (255 : Int32))) ⟨by decide, by decide⟩ 1 rfl (Nat.le_of_ble_eq_true rfl) (List.mem_of_getElem? (i := 0) rfl) g_b8 (hb hby d1_56) ?_
      intro T10 h10 L10 W10 w10 V_new
      replace E_b7 := E_b7.wr w10
      replace F_value_b7 := F_value_b7.other w10 (Or.inl ne_b7_b8)
      replace F_coder_b7 := F_coder_b7.other w10 (Or.inl ne_b7_b8)
      replace K0 := K0.wr w10 (Or.inr sz_b8)
      rw [nar_char (and255 ((x.toUInt32 >>> ((8 : Int32) &&& 31).toUInt32).toInt32))] at V_new
      replace V_b8 : Arv Z h10 b8 kA_b8 .char (2 : Int32) [(.int (x &&& (255 : Int32))), (.int (((x.toUInt32 >>> ((8 : Int32) &&& 31).toUInt32).toInt32) &&& (255 : Int32)))] (.int 0) := V_new
      clear V_new
      show Go p_ e_ bl_ _ (T10.setTop (mkF m_ 57 #[.val (.int x), .val (.int n), .val (.int (x &&& (255 : Int32))), .val (.int (((x.toUInt32 >>> ((8 : Int32) &&& 31).toUInt32).toInt32) &&& (255 : Int32)))] [(.ref b8), (.ref b7), (.ref b7)]))
      refine W10.libI (y := (⟨"java/lang/String", "<init>", "([C)V"⟩ : MethodName)) rfl (cx.w 8 rfl) (cx.w 9 rfl) (cx.w 10 rfl) (by decide) (Q := StrChars.Road.QV Z b7 (2 : Int32) ((([(x &&& (255 : Int32)), (((x.toUInt32 >>> ((8 : Int32) &&& 31).toUInt32).toInt32) &&& (255 : Int32))] : List Int32)).map (fun c => c.toInt8.toInt32)) h10 n0) (ws := [b7]) (Wd := 1) (ck := 1) (cn := 2) (StrChars.Road.backV (W := 1) W10.hZ cx.vw (kI := 4) (cx.w 5 rfl) (cs := ([(x &&& (255 : Int32)), (((x.toUInt32 >>> ((8 : Int32) &&& 31).toUInt32).toInt32) &&& (255 : Int32))] : List Int32)) (bs := (([(x &&& (255 : Int32)), (((x.toUInt32 >>> ((8 : Int32) &&& 31).toUInt32).toInt32) &&& (255 : Int32))] : List Int32)).map (fun c => c.toInt8.toInt32)) (n := 2) g_b7 W10.n0le E_b7 F_value_b7 F_coder_b7 V_b8 (cx.cmp.ext W10.e0) cx.g1 rfl rfl (by decide) (by decide) (Ch8.cons (and255 x) (Ch8.cons (and255 ((x.toUInt32 >>> ((8 : Int32) &&& 31).toUInt32).toInt32)) Ch8.nil)) rfl (by decide) (by decide)) (fun v h' L' q => ⟨q.2.1, q.2.2.1⟩) (allS (List.mem_of_getElem? (i := 1) rfl) all0) (allS g_b7 all0) (k' := 3) (n' := 8) rfl rfl (by decide) (by decide) (by rw [hml]; rfl) (a := b7) (argsL := [(.ref b8)]) (rest := [(.ref b7)]) rfl (lenOf pd4 rfl) rfl (Nat.le_of_eq rfl) (hb hby d1_57) ?_
      intro v12 T12 h12 M12 L12 W12 q12
      obtain ⟨rfl, -, Kv11, E_n, F_cn, t, k_t, g_t, hz_t, -, F_vn, V_n⟩ := q12
      have ne_b7_t : b7 ≠ t := Nat.ne_of_lt (Nat.lt_of_lt_of_le E_b7.lt hz_t)
      have ne_b8_t : b8 ≠ t := Nat.ne_of_lt (Nat.lt_of_lt_of_le V_b8.lt hz_t)
      have sz_t : h.size ≤ t := Nat.le_trans K0.1 hz_t
      replace E_b7 := E_b7.keep Kv11
      replace V_b8 := V_b8.keep Kv11 (ninS (Ne.symm ne_b7_b8) nin0)
      replace K0 := K0.trans Kv11 (allS (Or.inr sz_b7) all0)
      show Go p_ e_ bl_ _ (T12.setTop (mkF m_ 60 #[.val (.int x), .val (.int n), .val (.int (x &&& (255 : Int32))), .val (.int (((x.toUInt32 >>> ((8 : Int32) &&& 31).toUInt32).toInt32) &&& (255 : Int32)))] [(.ref b7)]))
      have S_b7 : StrAt Z h12 b7 t ([(x &&& (255 : Int32)), (((x.toUInt32 >>> ((8 : Int32) &&& 31).toUInt32).toInt32) &&& (255 : Int32))] : List Int32) := ⟨E_n, F_cn, F_vn, ⟨_, V_n⟩, (Ch8.cons (and255 x) (Ch8.cons (and255 ((x.toUInt32 >>> ((8 : Int32) &&& 31).toUInt32).toInt32)) Ch8.nil)), Nat.le_of_ble_eq_true rfl⟩
      have em := (by simp only [mkL, if_neg hk0, if_neg hk1]; rfl : mkL x n = [x &&& 255, ((x.toUInt32 >>> ((8 : Int32) &&& 31).toUInt32).toInt32) &&& 255])
      exact W12.retA hret rfl rfl (hb hby d1_60) (by decide) (by decide) fun _ _ => ⟨b7, _, rfl, sz_b7, g_b7, K0, by rw [em]; exact S_b7⟩
set_option maxRecDepth 65536 in
set_option maxHeartbeats 40000000 in
theorem ct_same {l : Launch} {Z : State} {a0 : Array Value} {n0 : Nat} {g1 : Int32} (cx : Ctx Z a0 n0 g1) {h : Heap} (O : Old Z n0 h) (x1 l1 x2 l2 : Int32) (h1 : L3 l1) (h2 : L3 l2) :
    Ct l Z consts_1 n0 [] (⟨"com/example/rudia/rudia/ScopedKeyEqualsPinLaw", "same", "(IIII)Z"⟩ : MethodName) method_3_code 4 (some .boolean) ({ frames := 0, cells := 0, slots := 0, locals := 0 } : Room) #[(.int x1), (.int l1), (.int x2), (.int l2)] [] h (fun v _ h' => ((v = some (.int 1) ∧ mkL x1 l1 = mkL x2 l2) ∨ (v = some (.int 0) ∧ ¬ mkL x1 l1 = mkL x2 l2)) ∧ h' = h) := by
  refine Ct.intro (plainFor_of_name pn2) O cx.ew ?_
  intro p_ e_ s_ m_ bl_ mt_ c_ T0 W0 hby hml hret hnm
  refine Go.st (fun t_ k_ => castTop (g' := mkF m_ 0 #[.val (.int x1), .val (.int l1), .val (.int x2), .val (.int l2)] []) (by first | (simp [entryFrame, mkF, argsToLocals, Value.category]; done) | rfl) k_) ?_
  show Go p_ e_ bl_ _ (T0.setTop (mkF m_ 0 #[.val (.int x1), .val (.int l1), .val (.int x2), .val (.int l2)] []))
  refine Go.st (fun _ => XS.iloadN W0.here W0.ex rfl (hb hby d16_0) rfl) ?_
  show Go p_ e_ bl_ _ (T0.setTop (mkF m_ 1 #[.val (.int x1), .val (.int l1), .val (.int x2), .val (.int l2)] [(.int l1)]))
  refine Go.st (fun _ => XS.iloadN W0.here W0.ex rfl (hb hby d16_1) rfl) ?_
  show Go p_ e_ bl_ _ (T0.setTop (mkF m_ 2 #[.val (.int x1), .val (.int l1), .val (.int x2), .val (.int l2)] [(.int l2), (.int l1)]))
  by_cases hl : l1 = l2
  · refine Go.st (fun _ => XS.icmpYes W0.here W0.ex rfl (pc0 := 2) (pc' := 7) rfl (hb hby d16_2) rfl (teq (hl : l1 = l2)).1 (by decide) (by decide)) ?_
    show Go p_ e_ bl_ _ (T0.setTop (mkF m_ 7 #[.val (.int x1), .val (.int l1), .val (.int x2), .val (.int l2)] []))
    refine Go.st (fun _ => XS.iloadN W0.here W0.ex rfl (hb hby d16_7) rfl) ?_
    show Go p_ e_ bl_ _ (T0.setTop (mkF m_ 8 #[.val (.int x1), .val (.int l1), .val (.int x2), .val (.int l2)] [(.int l1)]))
    refine Go.st (fun _ => XS.iconst W0.here W0.ex rfl (hb hby d16_8)) ?_
    show Go p_ e_ bl_ _ (T0.setTop (mkF m_ 9 #[.val (.int x1), .val (.int l1), .val (.int x2), .val (.int l2)] [(.int (1 : Int32)), (.int l1)]))
    subst hl
    rcases h1 with rfl | rfl | rfl
    · show Go p_ e_ bl_ _ (T0.setTop (mkF m_ 9 #[.val (.int x1), .val (.int (0 : Int32)), .val (.int x2), .val (.int (0 : Int32))] [(.int (1 : Int32)), (.int (0 : Int32))]))
      refine Go.st (fun _ => XS.icmpYes W0.here W0.ex rfl (pc0 := 9) (pc' := 27) rfl (hb hby d16_9) rfl (tlt ((by decide) : (0 : Int32) < (1 : Int32))).1 (by decide) (by decide)) ?_
      show Go p_ e_ bl_ _ (T0.setTop (mkF m_ 27 #[.val (.int x1), .val (.int (0 : Int32)), .val (.int x2), .val (.int (0 : Int32))] []))
      refine Go.st (fun _ => XS.iloadN W0.here W0.ex rfl (hb hby d16_27) rfl) ?_
      show Go p_ e_ bl_ _ (T0.setTop (mkF m_ 28 #[.val (.int x1), .val (.int (0 : Int32)), .val (.int x2), .val (.int (0 : Int32))] [(.int (0 : Int32))]))
      refine Go.st (fun _ => XS.iconst W0.here W0.ex rfl (hb hby d16_28)) ?_
      show Go p_ e_ bl_ _ (T0.setTop (mkF m_ 29 #[.val (.int x1), .val (.int (0 : Int32)), .val (.int x2), .val (.int (0 : Int32))] [(.int (2 : Int32)), (.int (0 : Int32))]))
      refine Go.st (fun _ => XS.icmpYes W0.here W0.ex rfl (pc0 := 29) (pc' := 53) rfl (hb hby d16_29) rfl (tlt ((by decide) : (0 : Int32) < (2 : Int32))).1 (by decide) (by decide)) ?_
      show Go p_ e_ bl_ _ (T0.setTop (mkF m_ 53 #[.val (.int x1), .val (.int (0 : Int32)), .val (.int x2), .val (.int (0 : Int32))] []))
      refine Go.st (fun _ => XS.iconst W0.here W0.ex rfl (hb hby d16_53)) ?_
      show Go p_ e_ bl_ _ (T0.setTop (mkF m_ 54 #[.val (.int x1), .val (.int (0 : Int32)), .val (.int x2), .val (.int (0 : Int32))] [(.int (1 : Int32))]))
      exact W0.retN hret (by simp) (hb hby d16_54) (by decide) (by decide) fun _ _ => ⟨Or.inl ⟨rfl, by simp [mkL]⟩, rfl⟩
    · show Go p_ e_ bl_ _ (T0.setTop (mkF m_ 9 #[.val (.int x1), .val (.int (1 : Int32)), .val (.int x2), .val (.int (1 : Int32))] [(.int (1 : Int32)), (.int (1 : Int32))]))
      refine Go.st (fun _ => XS.icmpNo W0.here W0.ex rfl (hb hby d16_9) rfl (flt ((by decide) : ¬ ((1 : Int32) < (1 : Int32)))).1) ?_
      show Go p_ e_ bl_ _ (T0.setTop (mkF m_ 12 #[.val (.int x1), .val (.int (1 : Int32)), .val (.int x2), .val (.int (1 : Int32))] []))
      refine Go.st (fun _ => XS.iloadN W0.here W0.ex rfl (hb hby d16_12) rfl) ?_
      show Go p_ e_ bl_ _ (T0.setTop (mkF m_ 13 #[.val (.int x1), .val (.int (1 : Int32)), .val (.int x2), .val (.int (1 : Int32))] [(.int x1)]))
      refine Go.st (fun _ => XS.sipush W0.here W0.ex rfl (hb hby d16_13)) ?_
      show Go p_ e_ bl_ _ (T0.setTop (mkF m_ 16 #[.val (.int x1), .val (.int (1 : Int32)), .val (.int x2), .val (.int (1 : Int32))] [(.int (255 : Int32)), (.int x1)]))
      refine Go.st (fun _ => XS.iand W0.here W0.ex rfl (hb hby d16_16) rfl) ?_
      show Go p_ e_ bl_ _ (T0.setTop (mkF m_ 17 #[.val (.int x1), .val (.int (1 : Int32)), .val (.int x2), .val (.int (1 : Int32))] [(.int (x1 &&& (255 : Int32)))]))
      refine Go.st (fun _ => XS.iloadN W0.here W0.ex rfl (hb hby d16_17) rfl) ?_
      show Go p_ e_ bl_ _ (T0.setTop (mkF m_ 18 #[.val (.int x1), .val (.int (1 : Int32)), .val (.int x2), .val (.int (1 : Int32))] [(.int x2), (.int (x1 &&& (255 : Int32)))]))
      refine Go.st (fun _ => XS.sipush W0.here W0.ex rfl (hb hby d16_18)) ?_
      show Go p_ e_ bl_ _ (T0.setTop (mkF m_ 21 #[.val (.int x1), .val (.int (1 : Int32)), .val (.int x2), .val (.int (1 : Int32))] [(.int (255 : Int32)), (.int x2), (.int (x1 &&& (255 : Int32)))]))
      refine Go.st (fun _ => XS.iand W0.here W0.ex rfl (hb hby d16_21) rfl) ?_
      show Go p_ e_ bl_ _ (T0.setTop (mkF m_ 22 #[.val (.int x1), .val (.int (1 : Int32)), .val (.int x2), .val (.int (1 : Int32))] [(.int (x2 &&& (255 : Int32))), (.int (x1 &&& (255 : Int32)))]))
      by_cases ha : (x1 &&& (255 : Int32)) = (x2 &&& (255 : Int32))
      · refine Go.st (fun _ => XS.icmpYes W0.here W0.ex rfl (pc0 := 22) (pc' := 27) rfl (hb hby d16_22) rfl (teq (ha : (x1 &&& (255 : Int32)) = (x2 &&& (255 : Int32)))).1 (by decide) (by decide)) ?_
        show Go p_ e_ bl_ _ (T0.setTop (mkF m_ 27 #[.val (.int x1), .val (.int (1 : Int32)), .val (.int x2), .val (.int (1 : Int32))] []))
        refine Go.st (fun _ => XS.iloadN W0.here W0.ex rfl (hb hby d16_27) rfl) ?_
        show Go p_ e_ bl_ _ (T0.setTop (mkF m_ 28 #[.val (.int x1), .val (.int (1 : Int32)), .val (.int x2), .val (.int (1 : Int32))] [(.int (1 : Int32))]))
        refine Go.st (fun _ => XS.iconst W0.here W0.ex rfl (hb hby d16_28)) ?_
        show Go p_ e_ bl_ _ (T0.setTop (mkF m_ 29 #[.val (.int x1), .val (.int (1 : Int32)), .val (.int x2), .val (.int (1 : Int32))] [(.int (2 : Int32)), (.int (1 : Int32))]))
        refine Go.st (fun _ => XS.icmpYes W0.here W0.ex rfl (pc0 := 29) (pc' := 53) rfl (hb hby d16_29) rfl (tlt ((by decide) : (1 : Int32) < (2 : Int32))).1 (by decide) (by decide)) ?_
        show Go p_ e_ bl_ _ (T0.setTop (mkF m_ 53 #[.val (.int x1), .val (.int (1 : Int32)), .val (.int x2), .val (.int (1 : Int32))] []))
        refine Go.st (fun _ => XS.iconst W0.here W0.ex rfl (hb hby d16_53)) ?_
        show Go p_ e_ bl_ _ (T0.setTop (mkF m_ 54 #[.val (.int x1), .val (.int (1 : Int32)), .val (.int x2), .val (.int (1 : Int32))] [(.int (1 : Int32))]))
        exact W0.retN hret (by simp) (hb hby d16_54) (by decide) (by decide) fun _ _ => ⟨Or.inl ⟨rfl, by simp [mkL]; exact ha⟩, rfl⟩
      · refine Go.st (fun _ => XS.icmpNo W0.here W0.ex rfl (hb hby d16_22) rfl (feq (ha : ¬ ((x1 &&& (255 : Int32)) = (x2 &&& (255 : Int32))))).1) ?_
        show Go p_ e_ bl_ _ (T0.setTop (mkF m_ 25 #[.val (.int x1), .val (.int (1 : Int32)), .val (.int x2), .val (.int (1 : Int32))] []))
        refine Go.st (fun _ => XS.iconst W0.here W0.ex rfl (hb hby d16_25)) ?_
        show Go p_ e_ bl_ _ (T0.setTop (mkF m_ 26 #[.val (.int x1), .val (.int (1 : Int32)), .val (.int x2), .val (.int (1 : Int32))] [(.int (0 : Int32))]))
        exact W0.retN hret (by simp) (hb hby d16_26) (by decide) (by decide) fun _ _ => ⟨Or.inr ⟨rfl, fun q => ha (by simp [mkL] at q; first | exact q | exact q.1)⟩, rfl⟩
    · show Go p_ e_ bl_ _ (T0.setTop (mkF m_ 9 #[.val (.int x1), .val (.int (2 : Int32)), .val (.int x2), .val (.int (2 : Int32))] [(.int (1 : Int32)), (.int (2 : Int32))]))
      refine Go.st (fun _ => XS.icmpNo W0.here W0.ex rfl (hb hby d16_9) rfl (flt ((by decide) : ¬ ((2 : Int32) < (1 : Int32)))).1) ?_
      show Go p_ e_ bl_ _ (T0.setTop (mkF m_ 12 #[.val (.int x1), .val (.int (2 : Int32)), .val (.int x2), .val (.int (2 : Int32))] []))
      refine Go.st (fun _ => XS.iloadN W0.here W0.ex rfl (hb hby d16_12) rfl) ?_
      show Go p_ e_ bl_ _ (T0.setTop (mkF m_ 13 #[.val (.int x1), .val (.int (2 : Int32)), .val (.int x2), .val (.int (2 : Int32))] [(.int x1)]))
      refine Go.st (fun _ => XS.sipush W0.here W0.ex rfl (hb hby d16_13)) ?_
      show Go p_ e_ bl_ _ (T0.setTop (mkF m_ 16 #[.val (.int x1), .val (.int (2 : Int32)), .val (.int x2), .val (.int (2 : Int32))] [(.int (255 : Int32)), (.int x1)]))
      refine Go.st (fun _ => XS.iand W0.here W0.ex rfl (hb hby d16_16) rfl) ?_
      show Go p_ e_ bl_ _ (T0.setTop (mkF m_ 17 #[.val (.int x1), .val (.int (2 : Int32)), .val (.int x2), .val (.int (2 : Int32))] [(.int (x1 &&& (255 : Int32)))]))
      refine Go.st (fun _ => XS.iloadN W0.here W0.ex rfl (hb hby d16_17) rfl) ?_
      show Go p_ e_ bl_ _ (T0.setTop (mkF m_ 18 #[.val (.int x1), .val (.int (2 : Int32)), .val (.int x2), .val (.int (2 : Int32))] [(.int x2), (.int (x1 &&& (255 : Int32)))]))
      refine Go.st (fun _ => XS.sipush W0.here W0.ex rfl (hb hby d16_18)) ?_
      show Go p_ e_ bl_ _ (T0.setTop (mkF m_ 21 #[.val (.int x1), .val (.int (2 : Int32)), .val (.int x2), .val (.int (2 : Int32))] [(.int (255 : Int32)), (.int x2), (.int (x1 &&& (255 : Int32)))]))
      refine Go.st (fun _ => XS.iand W0.here W0.ex rfl (hb hby d16_21) rfl) ?_
      show Go p_ e_ bl_ _ (T0.setTop (mkF m_ 22 #[.val (.int x1), .val (.int (2 : Int32)), .val (.int x2), .val (.int (2 : Int32))] [(.int (x2 &&& (255 : Int32))), (.int (x1 &&& (255 : Int32)))]))
      by_cases ha : (x1 &&& (255 : Int32)) = (x2 &&& (255 : Int32))
      · refine Go.st (fun _ => XS.icmpYes W0.here W0.ex rfl (pc0 := 22) (pc' := 27) rfl (hb hby d16_22) rfl (teq (ha : (x1 &&& (255 : Int32)) = (x2 &&& (255 : Int32)))).1 (by decide) (by decide)) ?_
        show Go p_ e_ bl_ _ (T0.setTop (mkF m_ 27 #[.val (.int x1), .val (.int (2 : Int32)), .val (.int x2), .val (.int (2 : Int32))] []))
        refine Go.st (fun _ => XS.iloadN W0.here W0.ex rfl (hb hby d16_27) rfl) ?_
        show Go p_ e_ bl_ _ (T0.setTop (mkF m_ 28 #[.val (.int x1), .val (.int (2 : Int32)), .val (.int x2), .val (.int (2 : Int32))] [(.int (2 : Int32))]))
        refine Go.st (fun _ => XS.iconst W0.here W0.ex rfl (hb hby d16_28)) ?_
        show Go p_ e_ bl_ _ (T0.setTop (mkF m_ 29 #[.val (.int x1), .val (.int (2 : Int32)), .val (.int x2), .val (.int (2 : Int32))] [(.int (2 : Int32)), (.int (2 : Int32))]))
        refine Go.st (fun _ => XS.icmpNo W0.here W0.ex rfl (hb hby d16_29) rfl (flt ((by decide) : ¬ ((2 : Int32) < (2 : Int32)))).1) ?_
        show Go p_ e_ bl_ _ (T0.setTop (mkF m_ 32 #[.val (.int x1), .val (.int (2 : Int32)), .val (.int x2), .val (.int (2 : Int32))] []))
        refine Go.st (fun _ => XS.iloadN W0.here W0.ex rfl (hb hby d16_32) rfl) ?_
        show Go p_ e_ bl_ _ (T0.setTop (mkF m_ 33 #[.val (.int x1), .val (.int (2 : Int32)), .val (.int x2), .val (.int (2 : Int32))] [(.int x1)]))
        refine Go.st (fun _ => XS.bipush W0.here W0.ex rfl (hb hby d16_33)) ?_
        show Go p_ e_ bl_ _ (T0.setTop (mkF m_ 35 #[.val (.int x1), .val (.int (2 : Int32)), .val (.int x2), .val (.int (2 : Int32))] [(.int (8 : Int32)), (.int x1)]))
        refine Go.st (fun _ => XS.iushr W0.here W0.ex rfl (hb hby d16_35) rfl) ?_
        show Go p_ e_ bl_ _ (T0.setTop (mkF m_ 36 #[.val (.int x1), .val (.int (2 : Int32)), .val (.int x2), .val (.int (2 : Int32))] [(.int ((x1.toUInt32 >>> ((8 : Int32) &&& 31).toUInt32).toInt32))]))
        refine Go.st (fun _ => XS.sipush W0.here W0.ex rfl (hb hby d16_36)) ?_
        show Go p_ e_ bl_ _ (T0.setTop (mkF m_ 39 #[.val (.int x1), .val (.int (2 : Int32)), .val (.int x2), .val (.int (2 : Int32))] [(.int (255 : Int32)), (.int ((x1.toUInt32 >>> ((8 : Int32) &&& 31).toUInt32).toInt32))]))
        refine Go.st (fun _ => XS.iand W0.here W0.ex rfl (hb hby d16_39) rfl) ?_
        show Go p_ e_ bl_ _ (T0.setTop (mkF m_ 40 #[.val (.int x1), .val (.int (2 : Int32)), .val (.int x2), .val (.int (2 : Int32))] [(.int (((x1.toUInt32 >>> ((8 : Int32) &&& 31).toUInt32).toInt32) &&& (255 : Int32)))]))
        refine Go.st (fun _ => XS.iloadN W0.here W0.ex rfl (hb hby d16_40) rfl) ?_
        show Go p_ e_ bl_ _ (T0.setTop (mkF m_ 41 #[.val (.int x1), .val (.int (2 : Int32)), .val (.int x2), .val (.int (2 : Int32))] [(.int x2), (.int (((x1.toUInt32 >>> ((8 : Int32) &&& 31).toUInt32).toInt32) &&& (255 : Int32)))]))
        refine Go.st (fun _ => XS.bipush W0.here W0.ex rfl (hb hby d16_41)) ?_
        show Go p_ e_ bl_ _ (T0.setTop (mkF m_ 43 #[.val (.int x1), .val (.int (2 : Int32)), .val (.int x2), .val (.int (2 : Int32))] [(.int (8 : Int32)), (.int x2), (.int (((x1.toUInt32 >>> ((8 : Int32) &&& 31).toUInt32).toInt32) &&& (255 : Int32)))]))
        refine Go.st (fun _ => XS.iushr W0.here W0.ex rfl (hb hby d16_43) rfl) ?_
        show Go p_ e_ bl_ _ (T0.setTop (mkF m_ 44 #[.val (.int x1), .val (.int (2 : Int32)), .val (.int x2), .val (.int (2 : Int32))] [(.int ((x2.toUInt32 >>> ((8 : Int32) &&& 31).toUInt32).toInt32)), (.int (((x1.toUInt32 >>> ((8 : Int32) &&& 31).toUInt32).toInt32) &&& (255 : Int32)))]))
        refine Go.st (fun _ => XS.sipush W0.here W0.ex rfl (hb hby d16_44)) ?_
        show Go p_ e_ bl_ _ (T0.setTop (mkF m_ 47 #[.val (.int x1), .val (.int (2 : Int32)), .val (.int x2), .val (.int (2 : Int32))] [(.int (255 : Int32)), (.int ((x2.toUInt32 >>> ((8 : Int32) &&& 31).toUInt32).toInt32)), (.int (((x1.toUInt32 >>> ((8 : Int32) &&& 31).toUInt32).toInt32) &&& (255 : Int32)))]))
        refine Go.st (fun _ => XS.iand W0.here W0.ex rfl (hb hby d16_47) rfl) ?_
        show Go p_ e_ bl_ _ (T0.setTop (mkF m_ 48 #[.val (.int x1), .val (.int (2 : Int32)), .val (.int x2), .val (.int (2 : Int32))] [(.int (((x2.toUInt32 >>> ((8 : Int32) &&& 31).toUInt32).toInt32) &&& (255 : Int32))), (.int (((x1.toUInt32 >>> ((8 : Int32) &&& 31).toUInt32).toInt32) &&& (255 : Int32)))]))
        by_cases hb2 : (((x1.toUInt32 >>> ((8 : Int32) &&& 31).toUInt32).toInt32) &&& (255 : Int32)) = (((x2.toUInt32 >>> ((8 : Int32) &&& 31).toUInt32).toInt32) &&& (255 : Int32))
        · refine Go.st (fun _ => XS.icmpYes W0.here W0.ex rfl (pc0 := 48) (pc' := 53) rfl (hb hby d16_48) rfl (teq (hb2 : (((x1.toUInt32 >>> ((8 : Int32) &&& 31).toUInt32).toInt32) &&& (255 : Int32)) = (((x2.toUInt32 >>> ((8 : Int32) &&& 31).toUInt32).toInt32) &&& (255 : Int32)))).1 (by decide) (by decide)) ?_
          show Go p_ e_ bl_ _ (T0.setTop (mkF m_ 53 #[.val (.int x1), .val (.int (2 : Int32)), .val (.int x2), .val (.int (2 : Int32))] []))
          refine Go.st (fun _ => XS.iconst W0.here W0.ex rfl (hb hby d16_53)) ?_
          show Go p_ e_ bl_ _ (T0.setTop (mkF m_ 54 #[.val (.int x1), .val (.int (2 : Int32)), .val (.int x2), .val (.int (2 : Int32))] [(.int (1 : Int32))]))
          exact W0.retN hret (by simp) (hb hby d16_54) (by decide) (by decide) fun _ _ => ⟨Or.inl ⟨rfl, by simp [mkL]; exact ⟨ha, hb2⟩⟩, rfl⟩
        · refine Go.st (fun _ => XS.icmpNo W0.here W0.ex rfl (hb hby d16_48) rfl (feq (hb2 : ¬ ((((x1.toUInt32 >>> ((8 : Int32) &&& 31).toUInt32).toInt32) &&& (255 : Int32)) = (((x2.toUInt32 >>> ((8 : Int32) &&& 31).toUInt32).toInt32) &&& (255 : Int32))))).1) ?_
          show Go p_ e_ bl_ _ (T0.setTop (mkF m_ 51 #[.val (.int x1), .val (.int (2 : Int32)), .val (.int x2), .val (.int (2 : Int32))] []))
          refine Go.st (fun _ => XS.iconst W0.here W0.ex rfl (hb hby d16_51)) ?_
          show Go p_ e_ bl_ _ (T0.setTop (mkF m_ 52 #[.val (.int x1), .val (.int (2 : Int32)), .val (.int x2), .val (.int (2 : Int32))] [(.int (0 : Int32))]))
          exact W0.retN hret (by simp) (hb hby d16_52) (by decide) (by decide) fun _ _ => ⟨Or.inr ⟨rfl, fun q => hb2 (by simp [mkL] at q; exact q.2)⟩, rfl⟩
      · refine Go.st (fun _ => XS.icmpNo W0.here W0.ex rfl (hb hby d16_22) rfl (feq (ha : ¬ ((x1 &&& (255 : Int32)) = (x2 &&& (255 : Int32))))).1) ?_
        show Go p_ e_ bl_ _ (T0.setTop (mkF m_ 25 #[.val (.int x1), .val (.int (2 : Int32)), .val (.int x2), .val (.int (2 : Int32))] []))
        refine Go.st (fun _ => XS.iconst W0.here W0.ex rfl (hb hby d16_25)) ?_
        show Go p_ e_ bl_ _ (T0.setTop (mkF m_ 26 #[.val (.int x1), .val (.int (2 : Int32)), .val (.int x2), .val (.int (2 : Int32))] [(.int (0 : Int32))]))
        exact W0.retN hret (by simp) (hb hby d16_26) (by decide) (by decide) fun _ _ => ⟨Or.inr ⟨rfl, fun q => ha (by simp [mkL] at q; first | exact q | exact q.1)⟩, rfl⟩
  · refine Go.st (fun _ => XS.icmpNo W0.here W0.ex rfl (hb hby d16_2) rfl (feq (hl : ¬ (l1 = l2))).1) ?_
    show Go p_ e_ bl_ _ (T0.setTop (mkF m_ 5 #[.val (.int x1), .val (.int l1), .val (.int x2), .val (.int l2)] []))
    refine Go.st (fun _ => XS.iconst W0.here W0.ex rfl (hb hby d16_5)) ?_
    show Go p_ e_ bl_ _ (T0.setTop (mkF m_ 6 #[.val (.int x1), .val (.int l1), .val (.int x2), .val (.int l2)] [(.int (0 : Int32))]))
    exact W0.retN hret (by simp) (hb hby d16_6) (by decide) (by decide) fun _ _ => ⟨Or.inr ⟨rfl, mkL_ne h1 h2 hl⟩, rfl⟩
set_option maxRecDepth 65536 in
set_option maxHeartbeats 40000000 in
theorem ct_rnn {l : Launch} {Z : State} {a0 : Array Value} {n0 : Nat} {g1 : Int32} (cx : Ctx Z a0 n0 g1) {h : Heap} (O : Old Z n0 h) (a b : Addr)  :
    Ct l Z consts_1 n0 [] (⟨"java/util/Objects", "requireNonNull", "(Ljava/lang/Object;Ljava/lang/String;)Ljava/lang/Object;"⟩ : MethodName) jdk_31_method_11_code 2 (some (.object "java/lang/Object")) ({ frames := 0, cells := 0, slots := 0, locals := 0 } : Room) #[(.ref a), (.ref b)] [] h (fun v _ h' => v = some (.ref a) ∧ h' = h) := by
  refine Ct.intro (plainFor_of_name pn3) O cx.ew ?_
  intro p_ e_ s_ m_ bl_ mt_ c_ T0 W0 hby hml hret hnm
  refine Go.st (fun t_ k_ => castTop (g' := mkF m_ 0 #[.val (.ref a), .val (.ref b)] []) (by first | (simp [entryFrame, mkF, argsToLocals, Value.category]; done) | rfl) k_) ?_
  show Go p_ e_ bl_ _ (T0.setTop (mkF m_ 0 #[.val (.ref a), .val (.ref b)] []))
  refine Go.st (fun _ => XS.aloadN W0.here W0.ex rfl (hb hby d6_0) rfl rfl) ?_
  show Go p_ e_ bl_ _ (T0.setTop (mkF m_ 1 #[.val (.ref a), .val (.ref b)] [(.ref a)]))
  refine Go.st (fun _ => XS.ifnonnullYes W0.here W0.ex rfl (pc0 := 1) (pc' := 13) rfl (hb hby d6_1) rfl (by decide) (by decide)) ?_
  show Go p_ e_ bl_ _ (T0.setTop (mkF m_ 13 #[.val (.ref a), .val (.ref b)] []))
  refine Go.st (fun _ => XS.aloadN W0.here W0.ex rfl (hb hby d6_13) rfl rfl) ?_
  show Go p_ e_ bl_ _ (T0.setTop (mkF m_ 14 #[.val (.ref a), .val (.ref b)] [(.ref a)]))
  exact W0.retA hret rfl rfl (hb hby d6_14) (by decide) (by decide) fun _ _ => ⟨rfl, rfl⟩
set_option maxRecDepth 65536 in
set_option maxHeartbeats 40000000 in
theorem ct_sk {l : Launch} {Z : State} {a0 : Array Value} {n0 : Nat} {g1 : Int32} (cx : Ctx Z a0 n0 g1) {h : Heap} (O : Old Z n0 h) (a b c tb tc : Addr) (cs ds : List Int32) (E_a : Exa Z h a "com/example/rudia/rudia/ScopedKey") (F_client_a : Fld Z h a "com/example/rudia/rudia/ScopedKey" "client" "Ljava/lang/String;" .null) (F_key_a : Fld Z h a "com/example/rudia/rudia/ScopedKey" "key" "Ljava/lang/String;" .null) (g_a : n0 ≤ a) (S_b : StrAt Z h b tb cs) (S_c : StrAt Z h c tc ds) :
    Ct l Z consts_1 n0 [] (⟨"com/example/rudia/rudia/ScopedKey", "<init>", "(Ljava/lang/String;Ljava/lang/String;)V"⟩ : MethodName) prog_32_method_1_code 3 none ({ frames := 1, cells := 4, slots := 44, locals := 14 } : Room) #[(.ref a), (.ref b), (.ref c)] [a] h (fun v _ h' => v = none ∧ Keep h h' [a] ∧ Exa Z h' a "com/example/rudia/rudia/ScopedKey" ∧ Fld Z h' a "com/example/rudia/rudia/ScopedKey" "client" "Ljava/lang/String;" (.ref b) ∧ Fld Z h' a "com/example/rudia/rudia/ScopedKey" "key" "Ljava/lang/String;" (.ref c)) := by
  refine Ct.intro (plainFor_of_name pn4) O cx.ew ?_
  intro p_ e_ s_ m_ bl_ mt_ c_ T0 W0 hby hml hret hnm
  refine Go.st (fun t_ k_ => castTop (g' := mkF m_ 0 #[.val (.ref a), .val (.ref b), .val (.ref c)] []) (by first | (simp [entryFrame, mkF, argsToLocals, Value.category]; done) | rfl) k_) ?_
  show Go p_ e_ bl_ _ (T0.setTop (mkF m_ 0 #[.val (.ref a), .val (.ref b), .val (.ref c)] []))
  have K0 : Keep h h [a] := Keep.refl _ _
  refine Go.st (fun _ => XS.aloadN W0.here W0.ex rfl (hb hby d5_0) rfl rfl) ?_
  show Go p_ e_ bl_ _ (T0.setTop (mkF m_ 1 #[.val (.ref a), .val (.ref b), .val (.ref c)] [(.ref a)]))
  refine W0.initO (cx.w 32 rfl) (cx.w 16 rfl) (cx.w 17 rfl) (by rw [hml]; rfl) (hb hby d5_1) (by decide) (Wd := 0) (Nat.le_of_eq rfl) (by decide) ?_
  intro T1 W1
  show Go p_ e_ bl_ _ (T1.setTop (mkF m_ 4 #[.val (.ref a), .val (.ref b), .val (.ref c)] []))
  refine Go.st (fun _ => XS.aloadN W1.here W1.ex rfl (hb hby d5_4) rfl rfl) ?_
  show Go p_ e_ bl_ _ (T1.setTop (mkF m_ 5 #[.val (.ref a), .val (.ref b), .val (.ref c)] [(.ref a)]))
  refine Go.st (fun _ => XS.aloadN W1.here W1.ex rfl (hb hby d5_5) rfl rfl) ?_
  show Go p_ e_ bl_ _ (T1.setTop (mkF m_ 6 #[.val (.ref a), .val (.ref b), .val (.ref c)] [(.ref b), (.ref a)]))
  refine W1.ldc (cx.w 33 rfl) cx.str (EL := consts_1) (by decide) (vs := (litV 33)) (z := 6) ⟨by decide, rfl⟩ (by decide) rfl (hb hby d5_6) (j := 24) (by decide) (by decide) (k' := 2) (n' := 28) rfl rfl (by decide) (by decide) ?_
  intro vm2 T2 h2 a2 d2 kA_d2 W2 E2 E_a2 F_coder_a2 F_value_a2 V_d2 nl2
  replace E_a := E_a.ext E2
  replace F_client_a := F_client_a.ext E2
  replace F_key_a := F_key_a.ext E2
  replace S_b := S_b.ext E2
  replace S_c := S_c.ext E2
  replace K0 := K0.ext E2
  show Go p_ e_ bl_ _ (T2.setTop (mkF m_ 8 #[.val (.ref a), .val (.ref b), .val (.ref c)] [(.ref a2), (.ref b), (.ref a)]))
  refine W2.callS (y := (⟨"java/util/Objects", "requireNonNull", "(Ljava/lang/Object;Ljava/lang/String;)Ljava/lang/Object;"⟩ : MethodName)) (cx.w 34 rfl) (cx.w 35 rfl) (cx.w 36 rfl) (cx.w 37 rfl) (by decide) (ct_rnn cx W2.old b a2) all0 (by decide) (Wd := 1) (by decide) (k' := 2) (n' := 28) rfl rfl (by decide) (by decide) (by rw [hml]; rfl) (argsL := [(.ref b), (.ref a2)]) (rest := [(.ref a)]) rfl (lenOf pd6 rfl) rfl (Nat.le_of_eq rfl) (hb hby d5_8) ?_
  intro v3 vm3 T3 h3 L3 W3 q3
  obtain ⟨rfl, eh_⟩ := q3
  subst h3
  show Go p_ e_ bl_ _ (T3.setTop (mkF m_ 11 #[.val (.ref a), .val (.ref b), .val (.ref c)] [(.ref b), (.ref a)]))
  refine W3.castY (cx.w 38 rfl) (Ins.self S_b.E) (hb hby d5_11) ?_
  intro T4 W4
  show Go p_ e_ bl_ _ (T4.setTop (mkF m_ 14 #[.val (.ref a), .val (.ref b), .val (.ref c)] [(.ref b), (.ref a)]))
  refine W4.putF (cx.w 39 rfl) Via.refl F_client_a E_a (Or.inr ⟨(cx.w 40 rfl), rfl, hnm⟩) (cx.w 27 rfl) (ty := (.object "java/lang/String")) (by decide) rfl rfl (List.mem_of_getElem? (i := 0) rfl) g_a (hb hby d5_14) ?_
  intro T5 h5 L5 W5 w5
  have ne_b_a : b ≠ a := (Ne.symm (Ne.symm (S_b.neC E_a (by decide))))
  have ne_tb_a : tb ≠ a := (Ne.symm (Ne.symm (S_b.neT E_a (cx.w 27 rfl))))
  have ne_c_a : c ≠ a := (Ne.symm (Ne.symm (S_c.neC E_a (by decide))))
  have ne_tc_a : tc ≠ a := (Ne.symm (Ne.symm (S_c.neT E_a (cx.w 27 rfl))))
  replace E_a := E_a.wr w5
  replace F_client_a := F_client_a.same w5
  replace F_key_a := F_key_a.other w5 (Or.inr (slot_ne (Or.inr (cx.w 43 rfl)) (Or.inr (cx.w 40 rfl)) (by decide) (t := (.object "java/lang/String")) (t' := (.object "java/lang/String")) (by decide) (by decide)))
  replace S_b := S_b.wr w5 ne_b_a ne_tb_a
  replace S_c := S_c.wr w5 ne_c_a ne_tc_a
  replace E_a2 := E_a2.wr w5
  replace F_coder_a2 := F_coder_a2.other w5 (Or.inl (Ne.symm (nl2 a (List.mem_of_getElem? (i := 0) rfl)).1))
  replace F_value_a2 := F_value_a2.other w5 (Or.inl (Ne.symm (nl2 a (List.mem_of_getElem? (i := 0) rfl)).1))
  replace V_d2 := V_d2.other w5 (Ne.symm (nl2 a (List.mem_of_getElem? (i := 0) rfl)).2)
  replace K0 := K0.wr w5 (Or.inl (List.mem_of_getElem? (i := 0) rfl))
  show Go p_ e_ bl_ _ (T5.setTop (mkF m_ 17 #[.val (.ref a), .val (.ref b), .val (.ref c)] []))
  refine Go.st (fun _ => XS.aloadN W5.here W5.ex rfl (hb hby d5_17) rfl rfl) ?_
  show Go p_ e_ bl_ _ (T5.setTop (mkF m_ 18 #[.val (.ref a), .val (.ref b), .val (.ref c)] [(.ref a)]))
  refine Go.st (fun _ => XS.aloadN W5.here W5.ex rfl (hb hby d5_18) rfl rfl) ?_
  show Go p_ e_ bl_ _ (T5.setTop (mkF m_ 19 #[.val (.ref a), .val (.ref b), .val (.ref c)] [(.ref c), (.ref a)]))
  refine W5.ldc (cx.w 41 rfl) cx.str (EL := consts_1) (by decide) (vs := (litV 41)) (z := 3) ⟨by decide, rfl⟩ (by decide) rfl (hb hby d5_19) (j := 12) (by decide) (by decide) (k' := 4) (n' := 44) rfl rfl (by decide) (by decide) ?_
  intro vm6 T6 h6 a6 d6 kA_d6 W6 E6 E_a6 F_coder_a6 F_value_a6 V_d6 nl6
  replace E_a := E_a.ext E6
  replace F_client_a := F_client_a.ext E6
  replace F_key_a := F_key_a.ext E6
  replace S_b := S_b.ext E6
  replace S_c := S_c.ext E6
  replace E_a2 := E_a2.ext E6
  replace F_coder_a2 := F_coder_a2.ext E6
  replace F_value_a2 := F_value_a2.ext E6
  replace V_d2 := V_d2.ext E6
  replace K0 := K0.ext E6
  show Go p_ e_ bl_ _ (T6.setTop (mkF m_ 21 #[.val (.ref a), .val (.ref b), .val (.ref c)] [(.ref a6), (.ref c), (.ref a)]))
  refine W6.callS (y := (⟨"java/util/Objects", "requireNonNull", "(Ljava/lang/Object;Ljava/lang/String;)Ljava/lang/Object;"⟩ : MethodName)) (cx.w 34 rfl) (cx.w 35 rfl) (cx.w 36 rfl) (cx.w 37 rfl) (by decide) (ct_rnn cx W6.old c a6) all0 (by decide) (Wd := 1) (by decide) (k' := 4) (n' := 44) rfl rfl (by decide) (by decide) (by rw [hml]; rfl) (argsL := [(.ref c), (.ref a6)]) (rest := [(.ref a)]) rfl (lenOf pd6 rfl) rfl (Nat.le_of_eq rfl) (hb hby d5_21) ?_
  intro v7 vm7 T7 h7 L7 W7 q7
  obtain ⟨rfl, eh_⟩ := q7
  subst h7
  show Go p_ e_ bl_ _ (T7.setTop (mkF m_ 24 #[.val (.ref a), .val (.ref b), .val (.ref c)] [(.ref c), (.ref a)]))
  refine W7.castY (cx.w 38 rfl) (Ins.self S_c.E) (hb hby d5_24) ?_
  intro T8 W8
  show Go p_ e_ bl_ _ (T8.setTop (mkF m_ 27 #[.val (.ref a), .val (.ref b), .val (.ref c)] [(.ref c), (.ref a)]))
  refine W8.putF (cx.w 42 rfl) Via.refl F_key_a E_a (Or.inr ⟨(cx.w 43 rfl), rfl, hnm⟩) (cx.w 27 rfl) (ty := (.object "java/lang/String")) (by decide) rfl rfl (List.mem_of_getElem? (i := 0) rfl) g_a (hb hby d5_27) ?_
  intro T9 h9 L9 W9 w9
  replace E_a := E_a.wr w9
  replace F_client_a := F_client_a.other w9 (Or.inr (slot_ne (Or.inr (cx.w 40 rfl)) (Or.inr (cx.w 43 rfl)) (by decide) (t := (.object "java/lang/String")) (t' := (.object "java/lang/String")) (by decide) (by decide)))
  replace F_key_a := F_key_a.same w9
  replace S_b := S_b.wr w9 ne_b_a ne_tb_a
  replace S_c := S_c.wr w9 ne_c_a ne_tc_a
  replace E_a2 := E_a2.wr w9
  replace F_coder_a2 := F_coder_a2.other w9 (Or.inl (Ne.symm (nl2 a (List.mem_of_getElem? (i := 0) rfl)).1))
  replace F_value_a2 := F_value_a2.other w9 (Or.inl (Ne.symm (nl2 a (List.mem_of_getElem? (i := 0) rfl)).1))
  replace V_d2 := V_d2.other w9 (Ne.symm (nl2 a (List.mem_of_getElem? (i := 0) rfl)).2)
  replace E_a6 := E_a6.wr w9
  replace F_coder_a6 := F_coder_a6.other w9 (Or.inl (Ne.symm (nl6 a (List.mem_of_getElem? (i := 0) rfl)).1))
  replace F_value_a6 := F_value_a6.other w9 (Or.inl (Ne.symm (nl6 a (List.mem_of_getElem? (i := 0) rfl)).1))
  replace V_d6 := V_d6.other w9 (Ne.symm (nl6 a (List.mem_of_getElem? (i := 0) rfl)).2)
  replace K0 := K0.wr w9 (Or.inl (List.mem_of_getElem? (i := 0) rfl))
  show Go p_ e_ bl_ _ (T9.setTop (mkF m_ 30 #[.val (.ref a), .val (.ref b), .val (.ref c)] []))
  exact W9.retV hret (hb hby d5_30) (by decide) (by decide) fun _ _ => ⟨rfl, K0, E_a, F_client_a, F_key_a⟩
set_option maxRecDepth 65536 in
set_option maxHeartbeats 40000000 in
theorem ct_eqNull {l : Launch} {Z : State} {a0 : Array Value} {n0 : Nat} {g1 : Int32} (cx : Ctx Z a0 n0 g1) {h : Heap} (O : Old Z n0 h) (a : Addr)  :
    Ct l Z consts_1 n0 [] (⟨"com/example/rudia/rudia/ScopedKey", "equals", "(Ljava/lang/Object;)Z"⟩ : MethodName) prog_32_method_4_code 3 (some .boolean) ({ frames := 0, cells := 0, slots := 0, locals := 0 } : Room) #[(.ref a), .null] [] h (fun v _ h' => v = some (.int 0) ∧ h' = h) := by
  refine Ct.intro (plainFor_of_name pn4) O cx.ew ?_
  intro p_ e_ s_ m_ bl_ mt_ c_ T0 W0 hby hml hret hnm
  refine Go.st (fun t_ k_ => castTop (g' := mkF m_ 0 #[.val (.ref a), .val .null, .unset] []) (by first | (simp [entryFrame, mkF, argsToLocals, Value.category]; done) | rfl) k_) ?_
  show Go p_ e_ bl_ _ (T0.setTop (mkF m_ 0 #[.val (.ref a), .val .null, .unset] []))
  refine Go.st (fun _ => XS.aloadN W0.here W0.ex rfl (hb hby d7_0) rfl rfl) ?_
  show Go p_ e_ bl_ _ (T0.setTop (mkF m_ 1 #[.val (.ref a), .val .null, .unset] [.null]))
  refine Go.st (fun _ => W0.X.instanceofNull W0.ex (g := (mkF m_ 1 #[.val (.ref a), .val .null, .unset] [.null])) rfl rfl (hb hby d7_1) _) ?_
  show Go p_ e_ bl_ _ (T0.setTop (mkF m_ 4 #[.val (.ref a), .val .null, .unset] [(.int (0 : Int32))]))
  refine Go.st (fun _ => XS.ifNo W0.here W0.ex rfl (hb hby d7_4) rfl ((if0 _ _).trans (teq (rfl : (0 : Int32) = (0 : Int32))).2)) ?_
  show Go p_ e_ bl_ _ (T0.setTop (mkF m_ 7 #[.val (.ref a), .val .null, .unset] []))
  refine Go.st (fun _ => XS.iconst W0.here W0.ex rfl (hb hby d7_7)) ?_
  show Go p_ e_ bl_ _ (T0.setTop (mkF m_ 8 #[.val (.ref a), .val .null, .unset] [(.int (0 : Int32))]))
  exact W0.retN hret (by simp) (hb hby d7_8) (by decide) (by decide) fun _ _ => ⟨rfl, rfl⟩
set_option maxRecDepth 65536 in
set_option maxHeartbeats 40000000 in
theorem ct_eqStr {l : Launch} {Z : State} {a0 : Array Value} {n0 : Nat} {g1 : Int32} (cx : Ctx Z a0 n0 g1) {h : Heap} (O : Old Z n0 h) (a b tb : Addr) (cs : List Int32) (S_b : StrAt Z h b tb cs) :
    Ct l Z consts_1 n0 [] (⟨"com/example/rudia/rudia/ScopedKey", "equals", "(Ljava/lang/Object;)Z"⟩ : MethodName) prog_32_method_4_code 3 (some .boolean) ({ frames := 0, cells := 0, slots := 0, locals := 0 } : Room) #[(.ref a), (.ref b)] [] h (fun v _ h' => v = some (.int 0) ∧ h' = h) := by
  refine Ct.intro (plainFor_of_name pn4) O cx.ew ?_
  intro p_ e_ s_ m_ bl_ mt_ c_ T0 W0 hby hml hret hnm
  refine Go.st (fun t_ k_ => castTop (g' := mkF m_ 0 #[.val (.ref a), .val (.ref b), .unset] []) (by first | (simp [entryFrame, mkF, argsToLocals, Value.category]; done) | rfl) k_) ?_
  show Go p_ e_ bl_ _ (T0.setTop (mkF m_ 0 #[.val (.ref a), .val (.ref b), .unset] []))
  refine Go.st (fun _ => XS.aloadN W0.here W0.ex rfl (hb hby d7_0) rfl rfl) ?_
  show Go p_ e_ bl_ _ (T0.setTop (mkF m_ 1 #[.val (.ref a), .val (.ref b), .unset] [(.ref b)]))
  refine W0.instN (cx.w 49 rfl) S_b.E (str_no cx) (hb hby d7_1) ?_
  intro T1 W1
  show Go p_ e_ bl_ _ (T1.setTop (mkF m_ 4 #[.val (.ref a), .val (.ref b), .unset] [(.int (0 : Int32))]))
  refine Go.st (fun _ => XS.ifNo W1.here W1.ex rfl (hb hby d7_4) rfl ((if0 _ _).trans (teq (rfl : (0 : Int32) = (0 : Int32))).2)) ?_
  show Go p_ e_ bl_ _ (T1.setTop (mkF m_ 7 #[.val (.ref a), .val (.ref b), .unset] []))
  refine Go.st (fun _ => XS.iconst W1.here W1.ex rfl (hb hby d7_7)) ?_
  show Go p_ e_ bl_ _ (T1.setTop (mkF m_ 8 #[.val (.ref a), .val (.ref b), .unset] [(.int (0 : Int32))]))
  exact W1.retN hret (by simp) (hb hby d7_8) (by decide) (by decide) fun _ _ => ⟨rfl, rfl⟩
set_option maxRecDepth 65536 in
set_option maxHeartbeats 40000000 in
theorem ct_eq {l : Launch} {Z : State} {a0 : Array Value} {n0 : Nat} {g1 : Int32} (cx : Ctx Z a0 n0 g1) {h : Heap} (O : Old Z n0 h) (a b c a2 b2 c2 tb tc tb2 tc2 : Addr) (cs ks ds js : List Int32) (E_a : Exa Z h a "com/example/rudia/rudia/ScopedKey") (F_client_a : Fld Z h a "com/example/rudia/rudia/ScopedKey" "client" "Ljava/lang/String;" (.ref b)) (F_key_a : Fld Z h a "com/example/rudia/rudia/ScopedKey" "key" "Ljava/lang/String;" (.ref c)) (E_a2 : Exa Z h a2 "com/example/rudia/rudia/ScopedKey") (F_client_a2 : Fld Z h a2 "com/example/rudia/rudia/ScopedKey" "client" "Ljava/lang/String;" (.ref b2)) (F_key_a2 : Fld Z h a2 "com/example/rudia/rudia/ScopedKey" "key" "Ljava/lang/String;" (.ref c2)) (S_b : StrAt Z h b tb cs) (S_c : StrAt Z h c tc ks) (S_b2 : StrAt Z h b2 tb2 ds) (S_c2 : StrAt Z h c2 tc2 js) :
    Ct l Z consts_1 n0 [] (⟨"com/example/rudia/rudia/ScopedKey", "equals", "(Ljava/lang/Object;)Z"⟩ : MethodName) prog_32_method_4_code 3 (some .boolean) ({ frames := 2, cells := 0, slots := 0, locals := 28 } : Room) #[(.ref a), (.ref a2)] [] h (fun v _ h' => ((v = some (.int 1) ∧ cs = ds ∧ ks = js) ∨ (v = some (.int 0) ∧ ¬ (cs = ds ∧ ks = js))) ∧ h' = h) := by
  refine Ct.intro (plainFor_of_name pn4) O cx.ew ?_
  intro p_ e_ s_ m_ bl_ mt_ c_ T0 W0 hby hml hret hnm
  refine Go.st (fun t_ k_ => castTop (g' := mkF m_ 0 #[.val (.ref a), .val (.ref a2), .unset] []) (by first | (simp [entryFrame, mkF, argsToLocals, Value.category]; done) | rfl) k_) ?_
  show Go p_ e_ bl_ _ (T0.setTop (mkF m_ 0 #[.val (.ref a), .val (.ref a2), .unset] []))
  refine Go.st (fun _ => XS.aloadN W0.here W0.ex rfl (hb hby d7_0) rfl rfl) ?_
  show Go p_ e_ bl_ _ (T0.setTop (mkF m_ 1 #[.val (.ref a), .val (.ref a2), .unset] [(.ref a2)]))
  refine W0.instY (cx.w 49 rfl) (Ins.self E_a2) (hb hby d7_1) ?_
  intro T1 W1
  show Go p_ e_ bl_ _ (T1.setTop (mkF m_ 4 #[.val (.ref a), .val (.ref a2), .unset] [(.int (1 : Int32))]))
  refine Go.st (fun _ => XS.ifYes W1.here W1.ex rfl (pc0 := 4) (pc' := 9) rfl (hb hby d7_4) rfl ((if0 _ _).trans (feq ((by decide) : ¬ ((1 : Int32) = (0 : Int32)))).2) (by decide) (by decide)) ?_
  show Go p_ e_ bl_ _ (T1.setTop (mkF m_ 9 #[.val (.ref a), .val (.ref a2), .unset] []))
  refine Go.st (fun _ => XS.aloadN W1.here W1.ex rfl (hb hby d7_9) rfl rfl) ?_
  show Go p_ e_ bl_ _ (T1.setTop (mkF m_ 10 #[.val (.ref a), .val (.ref a2), .unset] [(.ref a2)]))
  refine W1.castY (cx.w 49 rfl) (Ins.self E_a2) (hb hby d7_10) ?_
  intro T2 W2
  show Go p_ e_ bl_ _ (T2.setTop (mkF m_ 13 #[.val (.ref a), .val (.ref a2), .unset] [(.ref a2)]))
  refine Go.st (fun _ => XS.astoreN W2.here W2.ex rfl (hb hby d7_13) rfl rfl (l' := #[.val (.ref a), .val (.ref a2), .val (.ref a2)]) rfl) ?_
  show Go p_ e_ bl_ _ (T2.setTop (mkF m_ 14 #[.val (.ref a), .val (.ref a2), .val (.ref a2)] []))
  refine Go.st (fun _ => XS.aloadN W2.here W2.ex rfl (hb hby d7_14) rfl rfl) ?_
  show Go p_ e_ bl_ _ (T2.setTop (mkF m_ 15 #[.val (.ref a), .val (.ref a2), .val (.ref a2)] [(.ref a)]))
  refine W2.getF (cx.w 39 rfl) Via.refl F_client_a (hb hby d7_15) ?_
  intro T3 W3
  show Go p_ e_ bl_ _ (T3.setTop (mkF m_ 18 #[.val (.ref a), .val (.ref a2), .val (.ref a2)] [(.ref b)]))
  refine Go.st (fun _ => XS.aloadN W3.here W3.ex rfl (hb hby d7_18) rfl rfl) ?_
  show Go p_ e_ bl_ _ (T3.setTop (mkF m_ 19 #[.val (.ref a), .val (.ref a2), .val (.ref a2)] [(.ref a2), (.ref b)]))
  refine W3.getF (cx.w 39 rfl) Via.refl F_client_a2 (hb hby d7_19) ?_
  intro T4 W4
  show Go p_ e_ bl_ _ (T4.setTop (mkF m_ 22 #[.val (.ref a), .val (.ref a2), .val (.ref a2)] [(.ref b2), (.ref b)]))
  obtain ⟨k1_5, V1_5⟩ := S_b.kb
  obtain ⟨k2_5, V2_5⟩ := S_b2.kb
  have E1_5 := S_b.E
  refine W4.libV (y := (⟨"java/lang/String", "equals", "(Ljava/lang/Object;)Z"⟩ : MethodName)) (z := (⟨"java/lang/String", "equals", "(Ljava/lang/Object;)Z"⟩ : MethodName)) (cx.w 51 rfl) (cx.w 52 rfl) (cx.w 54 rfl) (cx.w 53 rfl) (W4.nf (cx.w 54 rfl)) (by decide) E1_5 (Q := fun v h' L' => ((v = some (.int 1) ∧ cs = ds) ∨ (v = some (.int 0) ∧ ¬ cs = ds)) ∧ L' = [] ∧ h' = h) (ws := []) (Wd := 0) (ck := 0) (cn := 0) (StrChars.Road.eqW (W := 0) W4.hZ cx.qw (kI := 4) (cx.w 5 rfl) (cs := cs) S_b.1 S_b.2.2.1 S_b.2.1 V1_5 (StrChars.Road.codOf rfl fun c hc => (S_b.ch c hc).2) S_b.ch.up S_b.le (ds := ds) S_b2.1 S_b2.2.2.1 S_b2.2.1 V2_5 (StrChars.Road.codOf rfl fun c hc => (S_b2.ch c hc).2) S_b2.ch.up S_b2.le (cx.cmp.ext W4.e0) cx.g1 (by decide) (by decide)) (fun v h' L' q => ⟨by rw [q.2.1]; exact Fr.nil _, by rw [q.2.2]; exact Keep.refl _ _⟩) all0 all0 (k' := 0) (n' := 0) rfl rfl (by decide) (by decide) (by rw [hml]; rfl) (a := b) (argsL := [(.ref b2)]) (rest := []) rfl (lenOf pd7 rfl) rfl (Nat.le_of_eq rfl) (hb hby d7_22) ?_
  intro v6 T6 h6 M6 L6 W6 q6
  rcases q6 with ⟨⟨rfl, he⟩ | ⟨rfl, he⟩, -, eh_⟩
  · subst h6
    show Go p_ e_ bl_ _ (T6.setTop (mkF m_ 25 #[.val (.ref a), .val (.ref a2), .val (.ref a2)] [(.int (1 : Int32))]))
    refine Go.st (fun _ => XS.ifNo W6.here W6.ex rfl (hb hby d7_25) rfl ((if0 _ _).trans (feq ((by decide) : ¬ ((1 : Int32) = (0 : Int32)))).1)) ?_
    show Go p_ e_ bl_ _ (T6.setTop (mkF m_ 28 #[.val (.ref a), .val (.ref a2), .val (.ref a2)] []))
    refine Go.st (fun _ => XS.aloadN W6.here W6.ex rfl (hb hby d7_28) rfl rfl) ?_
    show Go p_ e_ bl_ _ (T6.setTop (mkF m_ 29 #[.val (.ref a), .val (.ref a2), .val (.ref a2)] [(.ref a)]))
    refine W6.getF (cx.w 42 rfl) Via.refl F_key_a (hb hby d7_29) ?_
    intro T7 W7
    show Go p_ e_ bl_ _ (T7.setTop (mkF m_ 32 #[.val (.ref a), .val (.ref a2), .val (.ref a2)] [(.ref c)]))
    refine Go.st (fun _ => XS.aloadN W7.here W7.ex rfl (hb hby d7_32) rfl rfl) ?_
    show Go p_ e_ bl_ _ (T7.setTop (mkF m_ 33 #[.val (.ref a), .val (.ref a2), .val (.ref a2)] [(.ref a2), (.ref c)]))
    refine W7.getF (cx.w 42 rfl) Via.refl F_key_a2 (hb hby d7_33) ?_
    intro T8 W8
    show Go p_ e_ bl_ _ (T8.setTop (mkF m_ 36 #[.val (.ref a), .val (.ref a2), .val (.ref a2)] [(.ref c2), (.ref c)]))
    obtain ⟨k1_9, V1_9⟩ := S_c.kb
    obtain ⟨k2_9, V2_9⟩ := S_c2.kb
    have E1_9 := S_c.E
    refine W8.libV (y := (⟨"java/lang/String", "equals", "(Ljava/lang/Object;)Z"⟩ : MethodName)) (z := (⟨"java/lang/String", "equals", "(Ljava/lang/Object;)Z"⟩ : MethodName)) (cx.w 51 rfl) (cx.w 52 rfl) (cx.w 54 rfl) (cx.w 53 rfl) (W8.nf (cx.w 54 rfl)) (by decide) E1_9 (Q := fun v h' L' => ((v = some (.int 1) ∧ ks = js) ∨ (v = some (.int 0) ∧ ¬ ks = js)) ∧ L' = [] ∧ h' = h) (ws := []) (Wd := 0) (ck := 0) (cn := 0) (StrChars.Road.eqW (W := 0) W8.hZ cx.qw (kI := 4) (cx.w 5 rfl) (cs := ks) S_c.1 S_c.2.2.1 S_c.2.1 V1_9 (StrChars.Road.codOf rfl fun c hc => (S_c.ch c hc).2) S_c.ch.up S_c.le (ds := js) S_c2.1 S_c2.2.2.1 S_c2.2.1 V2_9 (StrChars.Road.codOf rfl fun c hc => (S_c2.ch c hc).2) S_c2.ch.up S_c2.le (cx.cmp.ext W8.e0) cx.g1 (by decide) (by decide)) (fun v h' L' q => ⟨by rw [q.2.1]; exact Fr.nil _, by rw [q.2.2]; exact Keep.refl _ _⟩) all0 all0 (k' := 0) (n' := 0) rfl rfl (by decide) (by decide) (by rw [hml]; rfl) (a := c) (argsL := [(.ref c2)]) (rest := []) rfl (lenOf pd7 rfl) rfl (Nat.le_of_eq rfl) (hb hby d7_36) ?_
    intro v10 T10 h10 M10 L10 W10 q10
    rcases q10 with ⟨⟨rfl, hf⟩ | ⟨rfl, hf⟩, -, eh_⟩
    · subst h10
      show Go p_ e_ bl_ _ (T10.setTop (mkF m_ 39 #[.val (.ref a), .val (.ref a2), .val (.ref a2)] [(.int (1 : Int32))]))
      refine Go.st (fun _ => XS.ifNo W10.here W10.ex rfl (hb hby d7_39) rfl ((if0 _ _).trans (feq ((by decide) : ¬ ((1 : Int32) = (0 : Int32)))).1)) ?_
      show Go p_ e_ bl_ _ (T10.setTop (mkF m_ 42 #[.val (.ref a), .val (.ref a2), .val (.ref a2)] []))
      refine Go.st (fun _ => XS.iconst W10.here W10.ex rfl (hb hby d7_42)) ?_
      show Go p_ e_ bl_ _ (T10.setTop (mkF m_ 43 #[.val (.ref a), .val (.ref a2), .val (.ref a2)] [(.int (1 : Int32))]))
      refine Go.st (fun _ => XS.goto W10.here W10.ex rfl (pc0 := 43) (pc' := 47) rfl (hb hby d7_43) (by decide) (by decide)) ?_
      show Go p_ e_ bl_ _ (T10.setTop (mkF m_ 47 #[.val (.ref a), .val (.ref a2), .val (.ref a2)] [(.int (1 : Int32))]))
      exact W10.retN hret (by simp) (hb hby d7_47) (by decide) (by decide) fun _ _ => ⟨Or.inl ⟨rfl, he, hf⟩, rfl⟩
    · subst h10
      show Go p_ e_ bl_ _ (T10.setTop (mkF m_ 39 #[.val (.ref a), .val (.ref a2), .val (.ref a2)] [(.int (0 : Int32))]))
      refine Go.st (fun _ => XS.ifYes W10.here W10.ex rfl (pc0 := 39) (pc' := 46) rfl (hb hby d7_39) rfl ((if0 _ _).trans (teq (rfl : (0 : Int32) = (0 : Int32))).1) (by decide) (by decide)) ?_
      show Go p_ e_ bl_ _ (T10.setTop (mkF m_ 46 #[.val (.ref a), .val (.ref a2), .val (.ref a2)] []))
      refine Go.st (fun _ => XS.iconst W10.here W10.ex rfl (hb hby d7_46)) ?_
      show Go p_ e_ bl_ _ (T10.setTop (mkF m_ 47 #[.val (.ref a), .val (.ref a2), .val (.ref a2)] [(.int (0 : Int32))]))
      exact W10.retN hret (by simp) (hb hby d7_47) (by decide) (by decide) fun _ _ => ⟨Or.inr ⟨rfl, fun q => hf q.2⟩, rfl⟩
  · subst h6
    show Go p_ e_ bl_ _ (T6.setTop (mkF m_ 25 #[.val (.ref a), .val (.ref a2), .val (.ref a2)] [(.int (0 : Int32))]))
    refine Go.st (fun _ => XS.ifYes W6.here W6.ex rfl (pc0 := 25) (pc' := 46) rfl (hb hby d7_25) rfl ((if0 _ _).trans (teq (rfl : (0 : Int32) = (0 : Int32))).1) (by decide) (by decide)) ?_
    show Go p_ e_ bl_ _ (T6.setTop (mkF m_ 46 #[.val (.ref a), .val (.ref a2), .val (.ref a2)] []))
    refine Go.st (fun _ => XS.iconst W6.here W6.ex rfl (hb hby d7_46)) ?_
    show Go p_ e_ bl_ _ (T6.setTop (mkF m_ 47 #[.val (.ref a), .val (.ref a2), .val (.ref a2)] [(.int (0 : Int32))]))
    exact W6.retN hret (by simp) (hb hby d7_47) (by decide) (by decide) fun _ _ => ⟨Or.inr ⟨rfl, fun q => he q.1⟩, rfl⟩
set_option maxRecDepth 65536 in
set_option maxHeartbeats 40000000 in
theorem ct_law {l : Launch} {Z : State} {a0 : Array Value} {n0 : Nat} {g1 : Int32} (cx : Ctx Z a0 n0 g1) {h : Heap} (O : Old Z n0 h) (c1 k1 c2 k2 lens mode : Int32)  :
    Ct l Z consts_1 n0 tables_1 x code maxLocals ret room_1 #[(.int c1), (.int k1), (.int c2), (.int k2), (.int lens), (.int mode)] [] h (fun v _ _ => v = some (.int 1)) := by
  refine Ct.intro (plainFor_of_name pn2) O cx.ew ?_
  intro p_ e_ s_ m_ bl_ mt_ c_ T0 W0 hby hml hret hnm
  refine Go.st (fun t_ k_ => castTop (g' := mkF m_ 0 #[.val (.int c1), .val (.int k1), .val (.int c2), .val (.int k2), .val (.int lens), .val (.int mode), .unset, .unset, .unset, .unset, .unset, .unset, .unset, .unset, .unset, .unset, .unset] []) (by first | (simp [entryFrame, mkF, argsToLocals, Value.category, maxLocals]; done) | rfl) k_) ?_
  show Go p_ e_ bl_ _ (T0.setTop (mkF m_ 0 #[.val (.int c1), .val (.int k1), .val (.int c2), .val (.int k2), .val (.int lens), .val (.int mode), .unset, .unset, .unset, .unset, .unset, .unset, .unset, .unset, .unset, .unset, .unset] []))
  refine Go.st (fun _ => XS.iload W0.here W0.ex rfl (hb hby at_0) rfl) ?_
  show Go p_ e_ bl_ _ (T0.setTop (mkF m_ 2 #[.val (.int c1), .val (.int k1), .val (.int c2), .val (.int k2), .val (.int lens), .val (.int mode), .unset, .unset, .unset, .unset, .unset, .unset, .unset, .unset, .unset, .unset, .unset] [(.int lens)]))
  refine Go.st (fun _ => XS.iconst W0.here W0.ex rfl (hb hby at_2)) ?_
  show Go p_ e_ bl_ _ (T0.setTop (mkF m_ 3 #[.val (.int c1), .val (.int k1), .val (.int c2), .val (.int k2), .val (.int lens), .val (.int mode), .unset, .unset, .unset, .unset, .unset, .unset, .unset, .unset, .unset, .unset, .unset] [(.int (3 : Int32)), (.int lens)]))
  refine Go.st (fun _ => XS.iand W0.here W0.ex rfl (hb hby at_3) rfl) ?_
  show Go p_ e_ bl_ _ (T0.setTop (mkF m_ 4 #[.val (.int c1), .val (.int k1), .val (.int c2), .val (.int k2), .val (.int lens), .val (.int mode), .unset, .unset, .unset, .unset, .unset, .unset, .unset, .unset, .unset, .unset, .unset] [(.int (lens &&& (3 : Int32)))]))
  refine Go.st (fun _ => XS.iconst W0.here W0.ex rfl (hb hby at_4)) ?_
  show Go p_ e_ bl_ _ (T0.setTop (mkF m_ 5 #[.val (.int c1), .val (.int k1), .val (.int c2), .val (.int k2), .val (.int lens), .val (.int mode), .unset, .unset, .unset, .unset, .unset, .unset, .unset, .unset, .unset, .unset, .unset] [(.int (3 : Int32)), (.int (lens &&& (3 : Int32)))]))
  refine Go.st (fun _ => iremM W0.X W0.ex rfl (hb hby at_5) rfl (by decide)) ?_
  show Go p_ e_ bl_ _ (T0.setTop (mkF m_ 6 #[.val (.int c1), .val (.int k1), .val (.int c2), .val (.int k2), .val (.int lens), .val (.int mode), .unset, .unset, .unset, .unset, .unset, .unset, .unset, .unset, .unset, .unset, .unset] [(.int ((lens &&& (3 : Int32)) % (3 : Int32)))]))
  have h3_la : L3 ((lens &&& (3 : Int32)) % (3 : Int32)) := l3_of _
  generalize ((lens &&& (3 : Int32)) % (3 : Int32)) = la at h3_la ⊢
  show Go p_ e_ bl_ _ (T0.setTop (mkF m_ 6 #[.val (.int c1), .val (.int k1), .val (.int c2), .val (.int k2), .val (.int lens), .val (.int mode), .unset, .unset, .unset, .unset, .unset, .unset, .unset, .unset, .unset, .unset, .unset] [(.int la)]))
  refine Go.st (fun _ => XS.istore W0.here W0.ex rfl (hb hby at_6) rfl (l' := #[.val (.int c1), .val (.int k1), .val (.int c2), .val (.int k2), .val (.int lens), .val (.int mode), .val (.int la), .unset, .unset, .unset, .unset, .unset, .unset, .unset, .unset, .unset, .unset]) rfl) ?_
  show Go p_ e_ bl_ _ (T0.setTop (mkF m_ 8 #[.val (.int c1), .val (.int k1), .val (.int c2), .val (.int k2), .val (.int lens), .val (.int mode), .val (.int la), .unset, .unset, .unset, .unset, .unset, .unset, .unset, .unset, .unset, .unset] []))
  refine Go.st (fun _ => XS.iload W0.here W0.ex rfl (hb hby at_8) rfl) ?_
  show Go p_ e_ bl_ _ (T0.setTop (mkF m_ 10 #[.val (.int c1), .val (.int k1), .val (.int c2), .val (.int k2), .val (.int lens), .val (.int mode), .val (.int la), .unset, .unset, .unset, .unset, .unset, .unset, .unset, .unset, .unset, .unset] [(.int lens)]))
  refine Go.st (fun _ => XS.iconst W0.here W0.ex rfl (hb hby at_10)) ?_
  show Go p_ e_ bl_ _ (T0.setTop (mkF m_ 11 #[.val (.int c1), .val (.int k1), .val (.int c2), .val (.int k2), .val (.int lens), .val (.int mode), .val (.int la), .unset, .unset, .unset, .unset, .unset, .unset, .unset, .unset, .unset, .unset] [(.int (2 : Int32)), (.int lens)]))
  refine Go.st (fun _ => XS.iushr W0.here W0.ex rfl (hb hby at_11) rfl) ?_
  show Go p_ e_ bl_ _ (T0.setTop (mkF m_ 12 #[.val (.int c1), .val (.int k1), .val (.int c2), .val (.int k2), .val (.int lens), .val (.int mode), .val (.int la), .unset, .unset, .unset, .unset, .unset, .unset, .unset, .unset, .unset, .unset] [(.int ((lens.toUInt32 >>> ((2 : Int32) &&& 31).toUInt32).toInt32))]))
  refine Go.st (fun _ => XS.iconst W0.here W0.ex rfl (hb hby at_12)) ?_
  show Go p_ e_ bl_ _ (T0.setTop (mkF m_ 13 #[.val (.int c1), .val (.int k1), .val (.int c2), .val (.int k2), .val (.int lens), .val (.int mode), .val (.int la), .unset, .unset, .unset, .unset, .unset, .unset, .unset, .unset, .unset, .unset] [(.int (3 : Int32)), (.int ((lens.toUInt32 >>> ((2 : Int32) &&& 31).toUInt32).toInt32))]))
  refine Go.st (fun _ => XS.iand W0.here W0.ex rfl (hb hby at_13) rfl) ?_
  show Go p_ e_ bl_ _ (T0.setTop (mkF m_ 14 #[.val (.int c1), .val (.int k1), .val (.int c2), .val (.int k2), .val (.int lens), .val (.int mode), .val (.int la), .unset, .unset, .unset, .unset, .unset, .unset, .unset, .unset, .unset, .unset] [(.int (((lens.toUInt32 >>> ((2 : Int32) &&& 31).toUInt32).toInt32) &&& (3 : Int32)))]))
  refine Go.st (fun _ => XS.iconst W0.here W0.ex rfl (hb hby at_14)) ?_
  show Go p_ e_ bl_ _ (T0.setTop (mkF m_ 15 #[.val (.int c1), .val (.int k1), .val (.int c2), .val (.int k2), .val (.int lens), .val (.int mode), .val (.int la), .unset, .unset, .unset, .unset, .unset, .unset, .unset, .unset, .unset, .unset] [(.int (3 : Int32)), (.int (((lens.toUInt32 >>> ((2 : Int32) &&& 31).toUInt32).toInt32) &&& (3 : Int32)))]))
  refine Go.st (fun _ => iremM W0.X W0.ex rfl (hb hby at_15) rfl (by decide)) ?_
  show Go p_ e_ bl_ _ (T0.setTop (mkF m_ 16 #[.val (.int c1), .val (.int k1), .val (.int c2), .val (.int k2), .val (.int lens), .val (.int mode), .val (.int la), .unset, .unset, .unset, .unset, .unset, .unset, .unset, .unset, .unset, .unset] [(.int ((((lens.toUInt32 >>> ((2 : Int32) &&& 31).toUInt32).toInt32) &&& (3 : Int32)) % (3 : Int32)))]))
  have h3_lb : L3 ((((lens.toUInt32 >>> ((2 : Int32) &&& 31).toUInt32).toInt32) &&& (3 : Int32)) % (3 : Int32)) := l3_of _
  generalize ((((lens.toUInt32 >>> ((2 : Int32) &&& 31).toUInt32).toInt32) &&& (3 : Int32)) % (3 : Int32)) = lb at h3_lb ⊢
  show Go p_ e_ bl_ _ (T0.setTop (mkF m_ 16 #[.val (.int c1), .val (.int k1), .val (.int c2), .val (.int k2), .val (.int lens), .val (.int mode), .val (.int la), .unset, .unset, .unset, .unset, .unset, .unset, .unset, .unset, .unset, .unset] [(.int lb)]))
  refine Go.st (fun _ => XS.istore W0.here W0.ex rfl (hb hby at_16) rfl (l' := #[.val (.int c1), .val (.int k1), .val (.int c2), .val (.int k2), .val (.int lens), .val (.int mode), .val (.int la), .val (.int lb), .unset, .unset, .unset, .unset, .unset, .unset, .unset, .unset, .unset]) rfl) ?_
  show Go p_ e_ bl_ _ (T0.setTop (mkF m_ 18 #[.val (.int c1), .val (.int k1), .val (.int c2), .val (.int k2), .val (.int lens), .val (.int mode), .val (.int la), .val (.int lb), .unset, .unset, .unset, .unset, .unset, .unset, .unset, .unset, .unset] []))
  refine Go.st (fun _ => XS.iload W0.here W0.ex rfl (hb hby at_18) rfl) ?_
  show Go p_ e_ bl_ _ (T0.setTop (mkF m_ 20 #[.val (.int c1), .val (.int k1), .val (.int c2), .val (.int k2), .val (.int lens), .val (.int mode), .val (.int la), .val (.int lb), .unset, .unset, .unset, .unset, .unset, .unset, .unset, .unset, .unset] [(.int lens)]))
  refine Go.st (fun _ => XS.iconst W0.here W0.ex rfl (hb hby at_20)) ?_
  show Go p_ e_ bl_ _ (T0.setTop (mkF m_ 21 #[.val (.int c1), .val (.int k1), .val (.int c2), .val (.int k2), .val (.int lens), .val (.int mode), .val (.int la), .val (.int lb), .unset, .unset, .unset, .unset, .unset, .unset, .unset, .unset, .unset] [(.int (4 : Int32)), (.int lens)]))
  refine Go.st (fun _ => XS.iushr W0.here W0.ex rfl (hb hby at_21) rfl) ?_
  show Go p_ e_ bl_ _ (T0.setTop (mkF m_ 22 #[.val (.int c1), .val (.int k1), .val (.int c2), .val (.int k2), .val (.int lens), .val (.int mode), .val (.int la), .val (.int lb), .unset, .unset, .unset, .unset, .unset, .unset, .unset, .unset, .unset] [(.int ((lens.toUInt32 >>> ((4 : Int32) &&& 31).toUInt32).toInt32))]))
  refine Go.st (fun _ => XS.iconst W0.here W0.ex rfl (hb hby at_22)) ?_
  show Go p_ e_ bl_ _ (T0.setTop (mkF m_ 23 #[.val (.int c1), .val (.int k1), .val (.int c2), .val (.int k2), .val (.int lens), .val (.int mode), .val (.int la), .val (.int lb), .unset, .unset, .unset, .unset, .unset, .unset, .unset, .unset, .unset] [(.int (3 : Int32)), (.int ((lens.toUInt32 >>> ((4 : Int32) &&& 31).toUInt32).toInt32))]))
  refine Go.st (fun _ => XS.iand W0.here W0.ex rfl (hb hby at_23) rfl) ?_
  show Go p_ e_ bl_ _ (T0.setTop (mkF m_ 24 #[.val (.int c1), .val (.int k1), .val (.int c2), .val (.int k2), .val (.int lens), .val (.int mode), .val (.int la), .val (.int lb), .unset, .unset, .unset, .unset, .unset, .unset, .unset, .unset, .unset] [(.int (((lens.toUInt32 >>> ((4 : Int32) &&& 31).toUInt32).toInt32) &&& (3 : Int32)))]))
  refine Go.st (fun _ => XS.iconst W0.here W0.ex rfl (hb hby at_24)) ?_
  show Go p_ e_ bl_ _ (T0.setTop (mkF m_ 25 #[.val (.int c1), .val (.int k1), .val (.int c2), .val (.int k2), .val (.int lens), .val (.int mode), .val (.int la), .val (.int lb), .unset, .unset, .unset, .unset, .unset, .unset, .unset, .unset, .unset] [(.int (3 : Int32)), (.int (((lens.toUInt32 >>> ((4 : Int32) &&& 31).toUInt32).toInt32) &&& (3 : Int32)))]))
  refine Go.st (fun _ => iremM W0.X W0.ex rfl (hb hby at_25) rfl (by decide)) ?_
  show Go p_ e_ bl_ _ (T0.setTop (mkF m_ 26 #[.val (.int c1), .val (.int k1), .val (.int c2), .val (.int k2), .val (.int lens), .val (.int mode), .val (.int la), .val (.int lb), .unset, .unset, .unset, .unset, .unset, .unset, .unset, .unset, .unset] [(.int ((((lens.toUInt32 >>> ((4 : Int32) &&& 31).toUInt32).toInt32) &&& (3 : Int32)) % (3 : Int32)))]))
  have h3_lc : L3 ((((lens.toUInt32 >>> ((4 : Int32) &&& 31).toUInt32).toInt32) &&& (3 : Int32)) % (3 : Int32)) := l3_of _
  generalize ((((lens.toUInt32 >>> ((4 : Int32) &&& 31).toUInt32).toInt32) &&& (3 : Int32)) % (3 : Int32)) = lc at h3_lc ⊢
  show Go p_ e_ bl_ _ (T0.setTop (mkF m_ 26 #[.val (.int c1), .val (.int k1), .val (.int c2), .val (.int k2), .val (.int lens), .val (.int mode), .val (.int la), .val (.int lb), .unset, .unset, .unset, .unset, .unset, .unset, .unset, .unset, .unset] [(.int lc)]))
  refine Go.st (fun _ => XS.istore W0.here W0.ex rfl (hb hby at_26) rfl (l' := #[.val (.int c1), .val (.int k1), .val (.int c2), .val (.int k2), .val (.int lens), .val (.int mode), .val (.int la), .val (.int lb), .val (.int lc), .unset, .unset, .unset, .unset, .unset, .unset, .unset, .unset]) rfl) ?_
  show Go p_ e_ bl_ _ (T0.setTop (mkF m_ 28 #[.val (.int c1), .val (.int k1), .val (.int c2), .val (.int k2), .val (.int lens), .val (.int mode), .val (.int la), .val (.int lb), .val (.int lc), .unset, .unset, .unset, .unset, .unset, .unset, .unset, .unset] []))
  refine Go.st (fun _ => XS.iload W0.here W0.ex rfl (hb hby at_28) rfl) ?_
  show Go p_ e_ bl_ _ (T0.setTop (mkF m_ 30 #[.val (.int c1), .val (.int k1), .val (.int c2), .val (.int k2), .val (.int lens), .val (.int mode), .val (.int la), .val (.int lb), .val (.int lc), .unset, .unset, .unset, .unset, .unset, .unset, .unset, .unset] [(.int lens)]))
  refine Go.st (fun _ => XS.bipush W0.here W0.ex rfl (hb hby at_30)) ?_
  show Go p_ e_ bl_ _ (T0.setTop (mkF m_ 32 #[.val (.int c1), .val (.int k1), .val (.int c2), .val (.int k2), .val (.int lens), .val (.int mode), .val (.int la), .val (.int lb), .val (.int lc), .unset, .unset, .unset, .unset, .unset, .unset, .unset, .unset] [(.int (6 : Int32)), (.int lens)]))
  refine Go.st (fun _ => XS.iushr W0.here W0.ex rfl (hb hby at_32) rfl) ?_
  show Go p_ e_ bl_ _ (T0.setTop (mkF m_ 33 #[.val (.int c1), .val (.int k1), .val (.int c2), .val (.int k2), .val (.int lens), .val (.int mode), .val (.int la), .val (.int lb), .val (.int lc), .unset, .unset, .unset, .unset, .unset, .unset, .unset, .unset] [(.int ((lens.toUInt32 >>> ((6 : Int32) &&& 31).toUInt32).toInt32))]))
  refine Go.st (fun _ => XS.iconst W0.here W0.ex rfl (hb hby at_33)) ?_
  show Go p_ e_ bl_ _ (T0.setTop (mkF m_ 34 #[.val (.int c1), .val (.int k1), .val (.int c2), .val (.int k2), .val (.int lens), .val (.int mode), .val (.int la), .val (.int lb), .val (.int lc), .unset, .unset, .unset, .unset, .unset, .unset, .unset, .unset] [(.int (3 : Int32)), (.int ((lens.toUInt32 >>> ((6 : Int32) &&& 31).toUInt32).toInt32))]))
  refine Go.st (fun _ => XS.iand W0.here W0.ex rfl (hb hby at_34) rfl) ?_
  show Go p_ e_ bl_ _ (T0.setTop (mkF m_ 35 #[.val (.int c1), .val (.int k1), .val (.int c2), .val (.int k2), .val (.int lens), .val (.int mode), .val (.int la), .val (.int lb), .val (.int lc), .unset, .unset, .unset, .unset, .unset, .unset, .unset, .unset] [(.int (((lens.toUInt32 >>> ((6 : Int32) &&& 31).toUInt32).toInt32) &&& (3 : Int32)))]))
  refine Go.st (fun _ => XS.iconst W0.here W0.ex rfl (hb hby at_35)) ?_
  show Go p_ e_ bl_ _ (T0.setTop (mkF m_ 36 #[.val (.int c1), .val (.int k1), .val (.int c2), .val (.int k2), .val (.int lens), .val (.int mode), .val (.int la), .val (.int lb), .val (.int lc), .unset, .unset, .unset, .unset, .unset, .unset, .unset, .unset] [(.int (3 : Int32)), (.int (((lens.toUInt32 >>> ((6 : Int32) &&& 31).toUInt32).toInt32) &&& (3 : Int32)))]))
  refine Go.st (fun _ => iremM W0.X W0.ex rfl (hb hby at_36) rfl (by decide)) ?_
  show Go p_ e_ bl_ _ (T0.setTop (mkF m_ 37 #[.val (.int c1), .val (.int k1), .val (.int c2), .val (.int k2), .val (.int lens), .val (.int mode), .val (.int la), .val (.int lb), .val (.int lc), .unset, .unset, .unset, .unset, .unset, .unset, .unset, .unset] [(.int ((((lens.toUInt32 >>> ((6 : Int32) &&& 31).toUInt32).toInt32) &&& (3 : Int32)) % (3 : Int32)))]))
  have h3_ld : L3 ((((lens.toUInt32 >>> ((6 : Int32) &&& 31).toUInt32).toInt32) &&& (3 : Int32)) % (3 : Int32)) := l3_of _
  generalize ((((lens.toUInt32 >>> ((6 : Int32) &&& 31).toUInt32).toInt32) &&& (3 : Int32)) % (3 : Int32)) = ld at h3_ld ⊢
  show Go p_ e_ bl_ _ (T0.setTop (mkF m_ 37 #[.val (.int c1), .val (.int k1), .val (.int c2), .val (.int k2), .val (.int lens), .val (.int mode), .val (.int la), .val (.int lb), .val (.int lc), .unset, .unset, .unset, .unset, .unset, .unset, .unset, .unset] [(.int ld)]))
  refine Go.st (fun _ => XS.istore W0.here W0.ex rfl (hb hby at_37) rfl (l' := #[.val (.int c1), .val (.int k1), .val (.int c2), .val (.int k2), .val (.int lens), .val (.int mode), .val (.int la), .val (.int lb), .val (.int lc), .val (.int ld), .unset, .unset, .unset, .unset, .unset, .unset, .unset]) rfl) ?_
  show Go p_ e_ bl_ _ (T0.setTop (mkF m_ 39 #[.val (.int c1), .val (.int k1), .val (.int c2), .val (.int k2), .val (.int lens), .val (.int mode), .val (.int la), .val (.int lb), .val (.int lc), .val (.int ld), .unset, .unset, .unset, .unset, .unset, .unset, .unset] []))
  refine Go.st (fun _ => XS.iload W0.here W0.ex rfl (hb hby at_39) rfl) ?_
  show Go p_ e_ bl_ _ (T0.setTop (mkF m_ 41 #[.val (.int c1), .val (.int k1), .val (.int c2), .val (.int k2), .val (.int lens), .val (.int mode), .val (.int la), .val (.int lb), .val (.int lc), .val (.int ld), .unset, .unset, .unset, .unset, .unset, .unset, .unset] [(.int mode)]))
  refine Go.st (fun _ => XS.iconst W0.here W0.ex rfl (hb hby at_41)) ?_
  show Go p_ e_ bl_ _ (T0.setTop (mkF m_ 42 #[.val (.int c1), .val (.int k1), .val (.int c2), .val (.int k2), .val (.int lens), .val (.int mode), .val (.int la), .val (.int lb), .val (.int lc), .val (.int ld), .unset, .unset, .unset, .unset, .unset, .unset, .unset] [(.int (2 : Int32)), (.int mode)]))
  refine Go.st (fun _ => XS.iushr W0.here W0.ex rfl (hb hby at_42) rfl) ?_
  show Go p_ e_ bl_ _ (T0.setTop (mkF m_ 43 #[.val (.int c1), .val (.int k1), .val (.int c2), .val (.int k2), .val (.int lens), .val (.int mode), .val (.int la), .val (.int lb), .val (.int lc), .val (.int ld), .unset, .unset, .unset, .unset, .unset, .unset, .unset] [(.int ((mode.toUInt32 >>> ((2 : Int32) &&& 31).toUInt32).toInt32))]))
  refine Go.st (fun _ => XS.iconst W0.here W0.ex rfl (hb hby at_43)) ?_
  show Go p_ e_ bl_ _ (T0.setTop (mkF m_ 44 #[.val (.int c1), .val (.int k1), .val (.int c2), .val (.int k2), .val (.int lens), .val (.int mode), .val (.int la), .val (.int lb), .val (.int lc), .val (.int ld), .unset, .unset, .unset, .unset, .unset, .unset, .unset] [(.int (1 : Int32)), (.int ((mode.toUInt32 >>> ((2 : Int32) &&& 31).toUInt32).toInt32))]))
  refine Go.st (fun _ => XS.iand W0.here W0.ex rfl (hb hby at_44) rfl) ?_
  show Go p_ e_ bl_ _ (T0.setTop (mkF m_ 45 #[.val (.int c1), .val (.int k1), .val (.int c2), .val (.int k2), .val (.int lens), .val (.int mode), .val (.int la), .val (.int lb), .val (.int lc), .val (.int ld), .unset, .unset, .unset, .unset, .unset, .unset, .unset] [(.int (((mode.toUInt32 >>> ((2 : Int32) &&& 31).toUInt32).toInt32) &&& (1 : Int32)))]))
  have rest : ∀ cc kk : Int32, Go p_ e_ bl_ (Pst Z consts_1 n0 s_ room_1.cells room_1.slots (fun v _ _ => v = some (.int 1))) (T0.setTop (mkF m_ 71 #[.val (.int c1), .val (.int k1), .val (.int c2), .val (.int k2), .val (.int lens), .val (.int mode), .val (.int la), .val (.int lb), .val (.int lc), .val (.int ld), .val (.int cc), .val (.int kk), .unset, .unset, .unset, .unset, .unset] [])) := by
    intro cc kk
    show Go p_ e_ bl_ _ (T0.setTop (mkF m_ 71 #[.val (.int c1), .val (.int k1), .val (.int c2), .val (.int k2), .val (.int lens), .val (.int mode), .val (.int la), .val (.int lb), .val (.int lc), .val (.int ld), .val (.int cc), .val (.int kk), .unset, .unset, .unset, .unset, .unset] []))
    refine Go.st (fun _ => XS.iloadN W0.here W0.ex rfl (hb hby at_71) rfl) ?_
    show Go p_ e_ bl_ _ (T0.setTop (mkF m_ 72 #[.val (.int c1), .val (.int k1), .val (.int c2), .val (.int k2), .val (.int lens), .val (.int mode), .val (.int la), .val (.int lb), .val (.int lc), .val (.int ld), .val (.int cc), .val (.int kk), .unset, .unset, .unset, .unset, .unset] [(.int k1)]))
    refine Go.st (fun _ => XS.iload W0.here W0.ex rfl (hb hby at_72) rfl) ?_
    show Go p_ e_ bl_ _ (T0.setTop (mkF m_ 74 #[.val (.int c1), .val (.int k1), .val (.int c2), .val (.int k2), .val (.int lens), .val (.int mode), .val (.int la), .val (.int lb), .val (.int lc), .val (.int ld), .val (.int cc), .val (.int kk), .unset, .unset, .unset, .unset, .unset] [(.int lb), (.int k1)]))
    refine W0.callS (y := (⟨"com/example/rudia/rudia/ScopedKeyEqualsPinLaw", "mk", "(II)Ljava/lang/String;"⟩ : MethodName)) (cx.w 0 rfl) (cx.w 1 rfl) (cx.w 2 rfl) (cx.w 3 rfl) (by decide) (ct_mk cx W0.old k1 lb) all0 (by decide) (Wd := 0) (by decide) (k' := 6) (n' := 12) rfl rfl (by decide) (by decide) (by rw [hml]; rfl) (argsL := [(.int k1), (.int lb)]) (rest := []) rfl (lenOf pd8 rfl) rfl (Nat.le_of_eq rfl) (hb hby at_74) ?_
    intro v2 vm2 T2 h2 L2 W2 q2
    obtain ⟨ky, tky, rfl, hz_ky, g_ky, Kq1, S_ky⟩ := q2
    show Go p_ e_ bl_ _ (T2.setTop (mkF m_ 77 #[.val (.int c1), .val (.int k1), .val (.int c2), .val (.int k2), .val (.int lens), .val (.int mode), .val (.int la), .val (.int lb), .val (.int lc), .val (.int ld), .val (.int cc), .val (.int kk), .unset, .unset, .unset, .unset, .unset] [(.ref ky)]))
    refine Go.st (fun _ => XS.astore W2.here W2.ex rfl (hb hby at_77) rfl rfl (l' := #[.val (.int c1), .val (.int k1), .val (.int c2), .val (.int k2), .val (.int lens), .val (.int mode), .val (.int la), .val (.int lb), .val (.int lc), .val (.int ld), .val (.int cc), .val (.int kk), .val (.ref ky), .unset, .unset, .unset, .unset]) rfl) ?_
    show Go p_ e_ bl_ _ (T2.setTop (mkF m_ 79 #[.val (.int c1), .val (.int k1), .val (.int c2), .val (.int k2), .val (.int lens), .val (.int mode), .val (.int la), .val (.int lb), .val (.int lc), .val (.int ld), .val (.int cc), .val (.int kk), .val (.ref ky), .unset, .unset, .unset, .unset] []))
    refine W2.newO (cx.w 26 rfl) (cx.w 27 rfl) (cx.w 28 rfl) (hb hby at_79) (k' := 7) (n' := 14) rfl rfl (by decide) (by decide) ?_
    intro T3 h3 b3 hb3 g_b3 W3 E3 E_b3 D3
    have ne_ky_b3 : ky ≠ b3 := Nat.ne_of_lt (Nat.lt_of_lt_of_le S_ky.lt (Nat.le_of_eq hb3.symm))
    have ne_tky_b3 : tky ≠ b3 := Nat.ne_of_lt (Nat.lt_of_lt_of_le S_ky.ltt (Nat.le_of_eq hb3.symm))
    replace S_ky := S_ky.ext E3
    have F_client_b3 : Fld Z h3 b3 "com/example/rudia/rudia/ScopedKey" "client" "Ljava/lang/String;" .null := D3 (Or.inr (cx.w 40 rfl)) (ty := (.object "java/lang/String")) (by decide)
    have F_key_b3 : Fld Z h3 b3 "com/example/rudia/rudia/ScopedKey" "key" "Ljava/lang/String;" .null := D3 (Or.inr (cx.w 43 rfl)) (ty := (.object "java/lang/String")) (by decide)
    show Go p_ e_ bl_ _ (T3.setTop (mkF m_ 82 #[.val (.int c1), .val (.int k1), .val (.int c2), .val (.int k2), .val (.int lens), .val (.int mode), .val (.int la), .val (.int lb), .val (.int lc), .val (.int ld), .val (.int cc), .val (.int kk), .val (.ref ky), .unset, .unset, .unset, .unset] [(.ref b3)]))
    refine Go.st (fun _ => XS.dup W3.here W3.ex rfl (hb hby at_82) rfl rfl) ?_
    show Go p_ e_ bl_ _ (T3.setTop (mkF m_ 83 #[.val (.int c1), .val (.int k1), .val (.int c2), .val (.int k2), .val (.int lens), .val (.int mode), .val (.int la), .val (.int lb), .val (.int lc), .val (.int ld), .val (.int cc), .val (.int kk), .val (.ref ky), .unset, .unset, .unset, .unset] [(.ref b3), (.ref b3)]))
    refine Go.st (fun _ => XS.iloadN W3.here W3.ex rfl (hb hby at_83) rfl) ?_
    show Go p_ e_ bl_ _ (T3.setTop (mkF m_ 84 #[.val (.int c1), .val (.int k1), .val (.int c2), .val (.int k2), .val (.int lens), .val (.int mode), .val (.int la), .val (.int lb), .val (.int lc), .val (.int ld), .val (.int cc), .val (.int kk), .val (.ref ky), .unset, .unset, .unset, .unset] [(.int c1), (.ref b3), (.ref b3)]))
    refine Go.st (fun _ => XS.iload W3.here W3.ex rfl (hb hby at_84) rfl) ?_
    show Go p_ e_ bl_ _ (T3.setTop (mkF m_ 86 #[.val (.int c1), .val (.int k1), .val (.int c2), .val (.int k2), .val (.int lens), .val (.int mode), .val (.int la), .val (.int lb), .val (.int lc), .val (.int ld), .val (.int cc), .val (.int kk), .val (.ref ky), .unset, .unset, .unset, .unset] [(.int la), (.int c1), (.ref b3), (.ref b3)]))
    refine W3.callS (y := (⟨"com/example/rudia/rudia/ScopedKeyEqualsPinLaw", "mk", "(II)Ljava/lang/String;"⟩ : MethodName)) (cx.w 0 rfl) (cx.w 1 rfl) (cx.w 2 rfl) (cx.w 3 rfl) (by decide) (ct_mk cx W3.old c1 la) all0 (by decide) (Wd := 2) (by decide) (k' := 13) (n' := 26) rfl rfl (by decide) (by decide) (by rw [hml]; rfl) (argsL := [(.int c1), (.int la)]) (rest := [(.ref b3), (.ref b3)]) rfl (lenOf pd8 rfl) rfl (Nat.le_of_eq rfl) (hb hby at_86) ?_
    intro v5 vm5 T5 h5 L5 W5 q5
    obtain ⟨cy, tcy, rfl, hz_cy, g_cy, Kq4, S_cy⟩ := q5
    have ne_ky_cy : ky ≠ cy := Nat.ne_of_lt (Nat.lt_of_lt_of_le S_ky.lt hz_cy)
    have ne_tky_cy : tky ≠ cy := Nat.ne_of_lt (Nat.lt_of_lt_of_le S_ky.ltt hz_cy)
    have ne_b3_cy : b3 ≠ cy := Nat.ne_of_lt (Nat.lt_of_lt_of_le E_b3.lt hz_cy)
    replace S_ky := S_ky.keep Kq4 nin0 nin0
    replace E_b3 := E_b3.keep Kq4
    replace F_client_b3 := F_client_b3.keep Kq4 nin0
    replace F_key_b3 := F_key_b3.keep Kq4 nin0
    show Go p_ e_ bl_ _ (T5.setTop (mkF m_ 89 #[.val (.int c1), .val (.int k1), .val (.int c2), .val (.int k2), .val (.int lens), .val (.int mode), .val (.int la), .val (.int lb), .val (.int lc), .val (.int ld), .val (.int cc), .val (.int kk), .val (.ref ky), .unset, .unset, .unset, .unset] [(.ref cy), (.ref b3), (.ref b3)]))
    refine Go.st (fun _ => XS.aload W5.here W5.ex rfl (hb hby at_89) rfl rfl) ?_
    show Go p_ e_ bl_ _ (T5.setTop (mkF m_ 91 #[.val (.int c1), .val (.int k1), .val (.int c2), .val (.int k2), .val (.int lens), .val (.int mode), .val (.int la), .val (.int lb), .val (.int lc), .val (.int ld), .val (.int cc), .val (.int kk), .val (.ref ky), .unset, .unset, .unset, .unset] [(.ref ky), (.ref cy), (.ref b3), (.ref b3)]))
    refine W5.callI (y := (⟨"com/example/rudia/rudia/ScopedKey", "<init>", "(Ljava/lang/String;Ljava/lang/String;)V"⟩ : MethodName)) rfl (cx.w 29 rfl) (cx.w 30 rfl) (cx.w 28 rfl) (cx.w 31 rfl) (by decide) (ct_sk cx W5.old b3 cy ky tcy tky _ _ E_b3 F_client_b3 F_key_b3 g_b3 S_cy S_ky) (allS (List.mem_of_getElem? (i := 0) rfl) all0) (by decide) (Wd := 1) (by decide) (k' := 17) (n' := 70) rfl rfl (by decide) (by decide) (by rw [hml]; rfl) (a := b3) (argsL := [(.ref cy), (.ref ky)]) (rest := [(.ref b3)]) rfl (lenOf pd9 rfl) rfl (Nat.le_of_eq rfl) (hb hby at_91) ?_
    intro v7 vm7 T7 h7 L7 W7 q7
    obtain ⟨rfl, Ks6, E_n6, F_client1, F_key1⟩ := q7
    have ne_tcy_b3 : tcy ≠ b3 := (Ne.symm (Ne.symm (S_cy.neT E_b3 (cx.w 27 rfl))))
    replace S_ky := S_ky.keep Ks6 (ninS ne_ky_b3 nin0) (ninS ne_tky_b3 nin0)
    replace E_b3 := E_b3.keep Ks6
    replace S_cy := S_cy.keep Ks6 (ninS (Ne.symm ne_b3_cy) nin0) (ninS ne_tcy_b3 nin0)
    show Go p_ e_ bl_ _ (T7.setTop (mkF m_ 94 #[.val (.int c1), .val (.int k1), .val (.int c2), .val (.int k2), .val (.int lens), .val (.int mode), .val (.int la), .val (.int lb), .val (.int lc), .val (.int ld), .val (.int cc), .val (.int kk), .val (.ref ky), .unset, .unset, .unset, .unset] [(.ref b3)]))
    refine Go.st (fun _ => XS.astore W7.here W7.ex rfl (hb hby at_94) rfl rfl (l' := #[.val (.int c1), .val (.int k1), .val (.int c2), .val (.int k2), .val (.int lens), .val (.int mode), .val (.int la), .val (.int lb), .val (.int lc), .val (.int ld), .val (.int cc), .val (.int kk), .val (.ref ky), .val (.ref b3), .unset, .unset, .unset]) rfl) ?_
    show Go p_ e_ bl_ _ (T7.setTop (mkF m_ 96 #[.val (.int c1), .val (.int k1), .val (.int c2), .val (.int k2), .val (.int lens), .val (.int mode), .val (.int la), .val (.int lb), .val (.int lc), .val (.int ld), .val (.int cc), .val (.int kk), .val (.ref ky), .val (.ref b3), .unset, .unset, .unset] []))
    refine Go.st (fun _ => XS.iload W7.here W7.ex rfl (hb hby at_96) rfl) ?_
    show Go p_ e_ bl_ _ (T7.setTop (mkF m_ 98 #[.val (.int c1), .val (.int k1), .val (.int c2), .val (.int k2), .val (.int lens), .val (.int mode), .val (.int la), .val (.int lb), .val (.int lc), .val (.int ld), .val (.int cc), .val (.int kk), .val (.ref ky), .val (.ref b3), .unset, .unset, .unset] [(.int mode)]))
    refine Go.st (fun _ => XS.iconst W7.here W7.ex rfl (hb hby at_98)) ?_
    show Go p_ e_ bl_ _ (T7.setTop (mkF m_ 99 #[.val (.int c1), .val (.int k1), .val (.int c2), .val (.int k2), .val (.int lens), .val (.int mode), .val (.int la), .val (.int lb), .val (.int lc), .val (.int ld), .val (.int cc), .val (.int kk), .val (.ref ky), .val (.ref b3), .unset, .unset, .unset] [(.int (3 : Int32)), (.int mode)]))
    refine Go.st (fun _ => XS.iand W7.here W7.ex rfl (hb hby at_99) rfl) ?_
    show Go p_ e_ bl_ _ (T7.setTop (mkF m_ 100 #[.val (.int c1), .val (.int k1), .val (.int c2), .val (.int k2), .val (.int lens), .val (.int mode), .val (.int la), .val (.int lb), .val (.int lc), .val (.int ld), .val (.int cc), .val (.int kk), .val (.ref ky), .val (.ref b3), .unset, .unset, .unset] [(.int (mode &&& (3 : Int32)))]))
    refine Go.st (fun _ => XS.istore W7.here W7.ex rfl (hb hby at_100) rfl (l' := #[.val (.int c1), .val (.int k1), .val (.int c2), .val (.int k2), .val (.int lens), .val (.int mode), .val (.int la), .val (.int lb), .val (.int lc), .val (.int ld), .val (.int cc), .val (.int kk), .val (.ref ky), .val (.ref b3), .val (.int (mode &&& (3 : Int32))), .unset, .unset]) rfl) ?_
    show Go p_ e_ bl_ _ (T7.setTop (mkF m_ 102 #[.val (.int c1), .val (.int k1), .val (.int c2), .val (.int k2), .val (.int lens), .val (.int mode), .val (.int la), .val (.int lb), .val (.int lc), .val (.int ld), .val (.int cc), .val (.int kk), .val (.ref ky), .val (.ref b3), .val (.int (mode &&& (3 : Int32))), .unset, .unset] []))
    refine Go.st (fun _ => XS.iload W7.here W7.ex rfl (hb hby at_102) rfl) ?_
    show Go p_ e_ bl_ _ (T7.setTop (mkF m_ 104 #[.val (.int c1), .val (.int k1), .val (.int c2), .val (.int k2), .val (.int lens), .val (.int mode), .val (.int la), .val (.int lb), .val (.int lc), .val (.int ld), .val (.int cc), .val (.int kk), .val (.ref ky), .val (.ref b3), .val (.int (mode &&& (3 : Int32))), .unset, .unset] [(.int (mode &&& (3 : Int32)))]))
    refine Go.st (fun _ => XS.iconst W7.here W7.ex rfl (hb hby at_104)) ?_
    show Go p_ e_ bl_ _ (T7.setTop (mkF m_ 105 #[.val (.int c1), .val (.int k1), .val (.int c2), .val (.int k2), .val (.int lens), .val (.int mode), .val (.int la), .val (.int lb), .val (.int lc), .val (.int ld), .val (.int cc), .val (.int kk), .val (.ref ky), .val (.ref b3), .val (.int (mode &&& (3 : Int32))), .unset, .unset] [(.int (1 : Int32)), (.int (mode &&& (3 : Int32)))]))
    by_cases hm1 : (mode &&& (3 : Int32)) = (1 : Int32)
    · refine Go.st (fun _ => XS.icmpNo W7.here W7.ex rfl (hb hby at_105) rfl (teq (hm1 : (mode &&& (3 : Int32)) = (1 : Int32))).2) ?_
      show Go p_ e_ bl_ _ (T7.setTop (mkF m_ 108 #[.val (.int c1), .val (.int k1), .val (.int c2), .val (.int k2), .val (.int lens), .val (.int mode), .val (.int la), .val (.int lb), .val (.int lc), .val (.int ld), .val (.int cc), .val (.int kk), .val (.ref ky), .val (.ref b3), .val (.int (mode &&& (3 : Int32))), .unset, .unset] []))
      refine Go.st (fun _ => XS.aload W7.here W7.ex rfl (hb hby at_108) rfl rfl) ?_
      show Go p_ e_ bl_ _ (T7.setTop (mkF m_ 110 #[.val (.int c1), .val (.int k1), .val (.int c2), .val (.int k2), .val (.int lens), .val (.int mode), .val (.int la), .val (.int lb), .val (.int lc), .val (.int ld), .val (.int cc), .val (.int kk), .val (.ref ky), .val (.ref b3), .val (.int (mode &&& (3 : Int32))), .unset, .unset] [(.ref b3)]))
      refine Go.st (fun _ => XS.aconstNull W7.here W7.ex rfl (hb hby at_110)) ?_
      show Go p_ e_ bl_ _ (T7.setTop (mkF m_ 111 #[.val (.int c1), .val (.int k1), .val (.int c2), .val (.int k2), .val (.int lens), .val (.int mode), .val (.int la), .val (.int lb), .val (.int lc), .val (.int ld), .val (.int cc), .val (.int kk), .val (.ref ky), .val (.ref b3), .val (.int (mode &&& (3 : Int32))), .unset, .unset] [.null, (.ref b3)]))
      refine W7.callV (y := (⟨"com/example/rudia/rudia/ScopedKey", "equals", "(Ljava/lang/Object;)Z"⟩ : MethodName)) (z := (⟨"com/example/rudia/rudia/ScopedKey", "equals", "(Ljava/lang/Object;)Z"⟩ : MethodName)) (cx.w 44 rfl) (cx.w 45 rfl) (cx.w 47 rfl) (cx.w 46 rfl) (cx.w 28 rfl) (cx.w 48 rfl) (W7.nf (cx.w 47 rfl)) (by decide) E_b3 (ct_eqNull cx W7.old b3) all0 (by decide) (Wd := 0) (by decide) (k' := 17) (n' := 70) rfl rfl (by decide) (by decide) (by rw [hml]; rfl) (a := b3) (argsL := [.null]) (rest := []) rfl (lenOf pd7 rfl) rfl (Nat.le_of_eq rfl) (hb hby at_111) ?_
      intro v8 vm8 T8 h8 L8 W8 q8
      obtain ⟨rfl, eh_⟩ := q8
      subst h8
      show Go p_ e_ bl_ _ (T8.setTop (mkF m_ 114 #[.val (.int c1), .val (.int k1), .val (.int c2), .val (.int k2), .val (.int lens), .val (.int mode), .val (.int la), .val (.int lb), .val (.int lc), .val (.int ld), .val (.int cc), .val (.int kk), .val (.ref ky), .val (.ref b3), .val (.int (mode &&& (3 : Int32))), .unset, .unset] [(.int (0 : Int32))]))
      refine Go.st (fun _ => XS.ifNo W8.here W8.ex rfl (hb hby at_114) rfl ((if0 _ _).trans (teq (rfl : (0 : Int32) = (0 : Int32))).2)) ?_
      show Go p_ e_ bl_ _ (T8.setTop (mkF m_ 117 #[.val (.int c1), .val (.int k1), .val (.int c2), .val (.int k2), .val (.int lens), .val (.int mode), .val (.int la), .val (.int lb), .val (.int lc), .val (.int ld), .val (.int cc), .val (.int kk), .val (.ref ky), .val (.ref b3), .val (.int (mode &&& (3 : Int32))), .unset, .unset] []))
      refine Go.st (fun _ => XS.iconst W8.here W8.ex rfl (hb hby at_117)) ?_
      show Go p_ e_ bl_ _ (T8.setTop (mkF m_ 118 #[.val (.int c1), .val (.int k1), .val (.int c2), .val (.int k2), .val (.int lens), .val (.int mode), .val (.int la), .val (.int lb), .val (.int lc), .val (.int ld), .val (.int cc), .val (.int kk), .val (.ref ky), .val (.ref b3), .val (.int (mode &&& (3 : Int32))), .unset, .unset] [(.int (1 : Int32))]))
      refine Go.st (fun _ => XS.goto W8.here W8.ex rfl (pc0 := 118) (pc' := 122) rfl (hb hby at_118) (by decide) (by decide)) ?_
      show Go p_ e_ bl_ _ (T8.setTop (mkF m_ 122 #[.val (.int c1), .val (.int k1), .val (.int c2), .val (.int k2), .val (.int lens), .val (.int mode), .val (.int la), .val (.int lb), .val (.int lc), .val (.int ld), .val (.int cc), .val (.int kk), .val (.ref ky), .val (.ref b3), .val (.int (mode &&& (3 : Int32))), .unset, .unset] [(.int (1 : Int32))]))
      exact W8.retN hret (by simp) (hb hby at_122) (by decide) (by decide) fun _ _ => rfl
    · refine Go.st (fun _ => XS.icmpYes W7.here W7.ex rfl (pc0 := 105) (pc' := 123) rfl (hb hby at_105) rfl (feq (hm1 : ¬ ((mode &&& (3 : Int32)) = (1 : Int32)))).2 (by decide) (by decide)) ?_
      show Go p_ e_ bl_ _ (T7.setTop (mkF m_ 123 #[.val (.int c1), .val (.int k1), .val (.int c2), .val (.int k2), .val (.int lens), .val (.int mode), .val (.int la), .val (.int lb), .val (.int lc), .val (.int ld), .val (.int cc), .val (.int kk), .val (.ref ky), .val (.ref b3), .val (.int (mode &&& (3 : Int32))), .unset, .unset] []))
      refine Go.st (fun _ => XS.iload W7.here W7.ex rfl (hb hby at_123) rfl) ?_
      show Go p_ e_ bl_ _ (T7.setTop (mkF m_ 125 #[.val (.int c1), .val (.int k1), .val (.int c2), .val (.int k2), .val (.int lens), .val (.int mode), .val (.int la), .val (.int lb), .val (.int lc), .val (.int ld), .val (.int cc), .val (.int kk), .val (.ref ky), .val (.ref b3), .val (.int (mode &&& (3 : Int32))), .unset, .unset] [(.int (mode &&& (3 : Int32)))]))
      refine Go.st (fun _ => XS.iconst W7.here W7.ex rfl (hb hby at_125)) ?_
      show Go p_ e_ bl_ _ (T7.setTop (mkF m_ 126 #[.val (.int c1), .val (.int k1), .val (.int c2), .val (.int k2), .val (.int lens), .val (.int mode), .val (.int la), .val (.int lb), .val (.int lc), .val (.int ld), .val (.int cc), .val (.int kk), .val (.ref ky), .val (.ref b3), .val (.int (mode &&& (3 : Int32))), .unset, .unset] [(.int (2 : Int32)), (.int (mode &&& (3 : Int32)))]))
      by_cases hmb : (mode &&& (3 : Int32)) = (2 : Int32)
      · refine Go.st (fun _ => XS.icmpNo W7.here W7.ex rfl (hb hby at_126) rfl (teq (hmb : (mode &&& (3 : Int32)) = (2 : Int32))).2) ?_
        show Go p_ e_ bl_ _ (T7.setTop (mkF m_ 129 #[.val (.int c1), .val (.int k1), .val (.int c2), .val (.int k2), .val (.int lens), .val (.int mode), .val (.int la), .val (.int lb), .val (.int lc), .val (.int ld), .val (.int cc), .val (.int kk), .val (.ref ky), .val (.ref b3), .val (.int (mode &&& (3 : Int32))), .unset, .unset] []))
        refine Go.st (fun _ => XS.aload W7.here W7.ex rfl (hb hby at_129) rfl rfl) ?_
        show Go p_ e_ bl_ _ (T7.setTop (mkF m_ 131 #[.val (.int c1), .val (.int k1), .val (.int c2), .val (.int k2), .val (.int lens), .val (.int mode), .val (.int la), .val (.int lb), .val (.int lc), .val (.int ld), .val (.int cc), .val (.int kk), .val (.ref ky), .val (.ref b3), .val (.int (mode &&& (3 : Int32))), .unset, .unset] [(.ref b3)]))
        refine Go.st (fun _ => XS.aload W7.here W7.ex rfl (hb hby at_131) rfl rfl) ?_
        show Go p_ e_ bl_ _ (T7.setTop (mkF m_ 133 #[.val (.int c1), .val (.int k1), .val (.int c2), .val (.int k2), .val (.int lens), .val (.int mode), .val (.int la), .val (.int lb), .val (.int lc), .val (.int ld), .val (.int cc), .val (.int kk), .val (.ref ky), .val (.ref b3), .val (.int (mode &&& (3 : Int32))), .unset, .unset] [(.ref ky), (.ref b3)]))
        refine W7.callV (y := (⟨"com/example/rudia/rudia/ScopedKey", "equals", "(Ljava/lang/Object;)Z"⟩ : MethodName)) (z := (⟨"com/example/rudia/rudia/ScopedKey", "equals", "(Ljava/lang/Object;)Z"⟩ : MethodName)) (cx.w 44 rfl) (cx.w 45 rfl) (cx.w 47 rfl) (cx.w 46 rfl) (cx.w 28 rfl) (cx.w 48 rfl) (W7.nf (cx.w 47 rfl)) (by decide) E_b3 (ct_eqStr cx W7.old b3 ky tky _ S_ky) all0 (by decide) (Wd := 0) (by decide) (k' := 17) (n' := 70) rfl rfl (by decide) (by decide) (by rw [hml]; rfl) (a := b3) (argsL := [(.ref ky)]) (rest := []) rfl (lenOf pd7 rfl) rfl (Nat.le_of_eq rfl) (hb hby at_133) ?_
        intro v9 vm9 T9 h9 L9 W9 q9
        obtain ⟨rfl, eh_⟩ := q9
        subst h9
        show Go p_ e_ bl_ _ (T9.setTop (mkF m_ 136 #[.val (.int c1), .val (.int k1), .val (.int c2), .val (.int k2), .val (.int lens), .val (.int mode), .val (.int la), .val (.int lb), .val (.int lc), .val (.int ld), .val (.int cc), .val (.int kk), .val (.ref ky), .val (.ref b3), .val (.int (mode &&& (3 : Int32))), .unset, .unset] [(.int (0 : Int32))]))
        refine Go.st (fun _ => XS.ifNo W9.here W9.ex rfl (hb hby at_136) rfl ((if0 _ _).trans (teq (rfl : (0 : Int32) = (0 : Int32))).2)) ?_
        show Go p_ e_ bl_ _ (T9.setTop (mkF m_ 139 #[.val (.int c1), .val (.int k1), .val (.int c2), .val (.int k2), .val (.int lens), .val (.int mode), .val (.int la), .val (.int lb), .val (.int lc), .val (.int ld), .val (.int cc), .val (.int kk), .val (.ref ky), .val (.ref b3), .val (.int (mode &&& (3 : Int32))), .unset, .unset] []))
        refine Go.st (fun _ => XS.iconst W9.here W9.ex rfl (hb hby at_139)) ?_
        show Go p_ e_ bl_ _ (T9.setTop (mkF m_ 140 #[.val (.int c1), .val (.int k1), .val (.int c2), .val (.int k2), .val (.int lens), .val (.int mode), .val (.int la), .val (.int lb), .val (.int lc), .val (.int ld), .val (.int cc), .val (.int kk), .val (.ref ky), .val (.ref b3), .val (.int (mode &&& (3 : Int32))), .unset, .unset] [(.int (1 : Int32))]))
        refine Go.st (fun _ => XS.goto W9.here W9.ex rfl (pc0 := 140) (pc' := 144) rfl (hb hby at_140) (by decide) (by decide)) ?_
        show Go p_ e_ bl_ _ (T9.setTop (mkF m_ 144 #[.val (.int c1), .val (.int k1), .val (.int c2), .val (.int k2), .val (.int lens), .val (.int mode), .val (.int la), .val (.int lb), .val (.int lc), .val (.int ld), .val (.int cc), .val (.int kk), .val (.ref ky), .val (.ref b3), .val (.int (mode &&& (3 : Int32))), .unset, .unset] [(.int (1 : Int32))]))
        exact W9.retN hret (by simp) (hb hby at_144) (by decide) (by decide) fun _ _ => rfl
      · refine Go.st (fun _ => XS.icmpYes W7.here W7.ex rfl (pc0 := 126) (pc' := 145) rfl (hb hby at_126) rfl (feq (hmb : ¬ ((mode &&& (3 : Int32)) = (2 : Int32)))).2 (by decide) (by decide)) ?_
        show Go p_ e_ bl_ _ (T7.setTop (mkF m_ 145 #[.val (.int c1), .val (.int k1), .val (.int c2), .val (.int k2), .val (.int lens), .val (.int mode), .val (.int la), .val (.int lb), .val (.int lc), .val (.int ld), .val (.int cc), .val (.int kk), .val (.ref ky), .val (.ref b3), .val (.int (mode &&& (3 : Int32))), .unset, .unset] []))
        refine Go.st (fun _ => XS.iload W7.here W7.ex rfl (hb hby at_145) rfl) ?_
        show Go p_ e_ bl_ _ (T7.setTop (mkF m_ 147 #[.val (.int c1), .val (.int k1), .val (.int c2), .val (.int k2), .val (.int lens), .val (.int mode), .val (.int la), .val (.int lb), .val (.int lc), .val (.int ld), .val (.int cc), .val (.int kk), .val (.ref ky), .val (.ref b3), .val (.int (mode &&& (3 : Int32))), .unset, .unset] [(.int (mode &&& (3 : Int32)))]))
        refine Go.st (fun _ => XS.iconst W7.here W7.ex rfl (hb hby at_147)) ?_
        show Go p_ e_ bl_ _ (T7.setTop (mkF m_ 148 #[.val (.int c1), .val (.int k1), .val (.int c2), .val (.int k2), .val (.int lens), .val (.int mode), .val (.int la), .val (.int lb), .val (.int lc), .val (.int ld), .val (.int cc), .val (.int kk), .val (.ref ky), .val (.ref b3), .val (.int (mode &&& (3 : Int32))), .unset, .unset] [(.int (3 : Int32)), (.int (mode &&& (3 : Int32)))]))
        by_cases hmc : (mode &&& (3 : Int32)) = (3 : Int32)
        · refine Go.st (fun _ => XS.icmpNo W7.here W7.ex rfl (hb hby at_148) rfl (teq (hmc : (mode &&& (3 : Int32)) = (3 : Int32))).2) ?_
          show Go p_ e_ bl_ _ (T7.setTop (mkF m_ 151 #[.val (.int c1), .val (.int k1), .val (.int c2), .val (.int k2), .val (.int lens), .val (.int mode), .val (.int la), .val (.int lb), .val (.int lc), .val (.int ld), .val (.int cc), .val (.int kk), .val (.ref ky), .val (.ref b3), .val (.int (mode &&& (3 : Int32))), .unset, .unset] []))
          refine Go.st (fun _ => XS.aload W7.here W7.ex rfl (hb hby at_151) rfl rfl) ?_
          show Go p_ e_ bl_ _ (T7.setTop (mkF m_ 153 #[.val (.int c1), .val (.int k1), .val (.int c2), .val (.int k2), .val (.int lens), .val (.int mode), .val (.int la), .val (.int lb), .val (.int lc), .val (.int ld), .val (.int cc), .val (.int kk), .val (.ref ky), .val (.ref b3), .val (.int (mode &&& (3 : Int32))), .unset, .unset] [(.ref b3)]))
          refine Go.st (fun _ => XS.aload W7.here W7.ex rfl (hb hby at_153) rfl rfl) ?_
          show Go p_ e_ bl_ _ (T7.setTop (mkF m_ 155 #[.val (.int c1), .val (.int k1), .val (.int c2), .val (.int k2), .val (.int lens), .val (.int mode), .val (.int la), .val (.int lb), .val (.int lc), .val (.int ld), .val (.int cc), .val (.int kk), .val (.ref ky), .val (.ref b3), .val (.int (mode &&& (3 : Int32))), .unset, .unset] [(.ref b3), (.ref b3)]))
          refine W7.callV (y := (⟨"com/example/rudia/rudia/ScopedKey", "equals", "(Ljava/lang/Object;)Z"⟩ : MethodName)) (z := (⟨"com/example/rudia/rudia/ScopedKey", "equals", "(Ljava/lang/Object;)Z"⟩ : MethodName)) (cx.w 44 rfl) (cx.w 45 rfl) (cx.w 47 rfl) (cx.w 46 rfl) (cx.w 28 rfl) (cx.w 48 rfl) (W7.nf (cx.w 47 rfl)) (by decide) E_b3 (ct_eq cx W7.old b3 cy ky b3 cy ky tcy tky tcy tky _ _ _ _ E_b3 F_client1 F_key1 E_b3 F_client1 F_key1 S_cy S_ky S_cy S_ky) all0 (by decide) (Wd := 0) (by decide) (k' := 17) (n' := 70) rfl rfl (by decide) (by decide) (by rw [hml]; rfl) (a := b3) (argsL := [(.ref b3)]) (rest := []) rfl (lenOf pd7 rfl) rfl (Nat.le_of_eq rfl) (hb hby at_155) ?_
          intro v10 vm10 T10 h10 L10 W10 q10
          rcases q10 with ⟨⟨rfl, he, hf⟩ | ⟨rfl, he⟩, eh_⟩
          · subst h10
            show Go p_ e_ bl_ _ (T10.setTop (mkF m_ 158 #[.val (.int c1), .val (.int k1), .val (.int c2), .val (.int k2), .val (.int lens), .val (.int mode), .val (.int la), .val (.int lb), .val (.int lc), .val (.int ld), .val (.int cc), .val (.int kk), .val (.ref ky), .val (.ref b3), .val (.int (mode &&& (3 : Int32))), .unset, .unset] [(.int (1 : Int32))]))
            exact W10.retN hret (by simp) (hb hby at_158) (by decide) (by decide) fun _ _ => rfl
          · subst h10
            show Go p_ e_ bl_ _ (T10.setTop (mkF m_ 158 #[.val (.int c1), .val (.int k1), .val (.int c2), .val (.int k2), .val (.int lens), .val (.int mode), .val (.int la), .val (.int lb), .val (.int lc), .val (.int ld), .val (.int cc), .val (.int kk), .val (.ref ky), .val (.ref b3), .val (.int (mode &&& (3 : Int32))), .unset, .unset] [(.int (0 : Int32))]))
            exact absurd ⟨rfl, rfl⟩ he
        · refine Go.st (fun _ => XS.icmpYes W7.here W7.ex rfl (pc0 := 148) (pc' := 159) rfl (hb hby at_148) rfl (feq (hmc : ¬ ((mode &&& (3 : Int32)) = (3 : Int32)))).2 (by decide) (by decide)) ?_
          show Go p_ e_ bl_ _ (T7.setTop (mkF m_ 159 #[.val (.int c1), .val (.int k1), .val (.int c2), .val (.int k2), .val (.int lens), .val (.int mode), .val (.int la), .val (.int lb), .val (.int lc), .val (.int ld), .val (.int cc), .val (.int kk), .val (.ref ky), .val (.ref b3), .val (.int (mode &&& (3 : Int32))), .unset, .unset] []))
          refine W7.newO (cx.w 26 rfl) (cx.w 27 rfl) (cx.w 28 rfl) (hb hby at_159) (k' := 18) (n' := 72) rfl rfl (by decide) (by decide) ?_
          intro T11 h11 b11 hb11 g_b11 W11 E11 E_b11 D11
          have ne_ky_b11 : ky ≠ b11 := Nat.ne_of_lt (Nat.lt_of_lt_of_le S_ky.lt (Nat.le_of_eq hb11.symm))
          have ne_tky_b11 : tky ≠ b11 := Nat.ne_of_lt (Nat.lt_of_lt_of_le S_ky.ltt (Nat.le_of_eq hb11.symm))
          have ne_b3_b11 : b3 ≠ b11 := Nat.ne_of_lt (Nat.lt_of_lt_of_le E_b3.lt (Nat.le_of_eq hb11.symm))
          have ne_cy_b11 : cy ≠ b11 := Nat.ne_of_lt (Nat.lt_of_lt_of_le S_cy.lt (Nat.le_of_eq hb11.symm))
          have ne_tcy_b11 : tcy ≠ b11 := Nat.ne_of_lt (Nat.lt_of_lt_of_le S_cy.ltt (Nat.le_of_eq hb11.symm))
          replace S_ky := S_ky.ext E11
          replace E_b3 := E_b3.ext E11
          replace S_cy := S_cy.ext E11
          replace F_client1 := F_client1.ext E11
          replace F_key1 := F_key1.ext E11
          have F_client_b11 : Fld Z h11 b11 "com/example/rudia/rudia/ScopedKey" "client" "Ljava/lang/String;" .null := D11 (Or.inr (cx.w 40 rfl)) (ty := (.object "java/lang/String")) (by decide)
          have F_key_b11 : Fld Z h11 b11 "com/example/rudia/rudia/ScopedKey" "key" "Ljava/lang/String;" .null := D11 (Or.inr (cx.w 43 rfl)) (ty := (.object "java/lang/String")) (by decide)
          show Go p_ e_ bl_ _ (T11.setTop (mkF m_ 162 #[.val (.int c1), .val (.int k1), .val (.int c2), .val (.int k2), .val (.int lens), .val (.int mode), .val (.int la), .val (.int lb), .val (.int lc), .val (.int ld), .val (.int cc), .val (.int kk), .val (.ref ky), .val (.ref b3), .val (.int (mode &&& (3 : Int32))), .unset, .unset] [(.ref b11)]))
          refine Go.st (fun _ => XS.dup W11.here W11.ex rfl (hb hby at_162) rfl rfl) ?_
          show Go p_ e_ bl_ _ (T11.setTop (mkF m_ 163 #[.val (.int c1), .val (.int k1), .val (.int c2), .val (.int k2), .val (.int lens), .val (.int mode), .val (.int la), .val (.int lb), .val (.int lc), .val (.int ld), .val (.int cc), .val (.int kk), .val (.ref ky), .val (.ref b3), .val (.int (mode &&& (3 : Int32))), .unset, .unset] [(.ref b11), (.ref b11)]))
          refine Go.st (fun _ => XS.iload W11.here W11.ex rfl (hb hby at_163) rfl) ?_
          show Go p_ e_ bl_ _ (T11.setTop (mkF m_ 165 #[.val (.int c1), .val (.int k1), .val (.int c2), .val (.int k2), .val (.int lens), .val (.int mode), .val (.int la), .val (.int lb), .val (.int lc), .val (.int ld), .val (.int cc), .val (.int kk), .val (.ref ky), .val (.ref b3), .val (.int (mode &&& (3 : Int32))), .unset, .unset] [(.int cc), (.ref b11), (.ref b11)]))
          refine Go.st (fun _ => XS.iload W11.here W11.ex rfl (hb hby at_165) rfl) ?_
          show Go p_ e_ bl_ _ (T11.setTop (mkF m_ 167 #[.val (.int c1), .val (.int k1), .val (.int c2), .val (.int k2), .val (.int lens), .val (.int mode), .val (.int la), .val (.int lb), .val (.int lc), .val (.int ld), .val (.int cc), .val (.int kk), .val (.ref ky), .val (.ref b3), .val (.int (mode &&& (3 : Int32))), .unset, .unset] [(.int lc), (.int cc), (.ref b11), (.ref b11)]))
          refine W11.callS (y := (⟨"com/example/rudia/rudia/ScopedKeyEqualsPinLaw", "mk", "(II)Ljava/lang/String;"⟩ : MethodName)) (cx.w 0 rfl) (cx.w 1 rfl) (cx.w 2 rfl) (cx.w 3 rfl) (by decide) (ct_mk cx W11.old cc lc) all0 (by decide) (Wd := 2) (by decide) (k' := 24) (n' := 84) rfl rfl (by decide) (by decide) (by rw [hml]; rfl) (argsL := [(.int cc), (.int lc)]) (rest := [(.ref b11), (.ref b11)]) rfl (lenOf pd8 rfl) rfl (Nat.le_of_eq rfl) (hb hby at_167) ?_
          intro v13 vm13 T13 h13 L13 W13 q13
          obtain ⟨cz, tcz, rfl, hz_cz, g_cz, Kq12, S_cz⟩ := q13
          have ne_ky_cz : ky ≠ cz := Nat.ne_of_lt (Nat.lt_of_lt_of_le S_ky.lt hz_cz)
          have ne_tky_cz : tky ≠ cz := Nat.ne_of_lt (Nat.lt_of_lt_of_le S_ky.ltt hz_cz)
          have ne_b3_cz : b3 ≠ cz := Nat.ne_of_lt (Nat.lt_of_lt_of_le E_b3.lt hz_cz)
          have ne_cy_cz : cy ≠ cz := Nat.ne_of_lt (Nat.lt_of_lt_of_le S_cy.lt hz_cz)
          have ne_tcy_cz : tcy ≠ cz := Nat.ne_of_lt (Nat.lt_of_lt_of_le S_cy.ltt hz_cz)
          have ne_b11_cz : b11 ≠ cz := Nat.ne_of_lt (Nat.lt_of_lt_of_le E_b11.lt hz_cz)
          replace S_ky := S_ky.keep Kq12 nin0 nin0
          replace E_b3 := E_b3.keep Kq12
          replace S_cy := S_cy.keep Kq12 nin0 nin0
          replace F_client1 := F_client1.keep Kq12 nin0
          replace F_key1 := F_key1.keep Kq12 nin0
          replace E_b11 := E_b11.keep Kq12
          replace F_client_b11 := F_client_b11.keep Kq12 nin0
          replace F_key_b11 := F_key_b11.keep Kq12 nin0
          show Go p_ e_ bl_ _ (T13.setTop (mkF m_ 170 #[.val (.int c1), .val (.int k1), .val (.int c2), .val (.int k2), .val (.int lens), .val (.int mode), .val (.int la), .val (.int lb), .val (.int lc), .val (.int ld), .val (.int cc), .val (.int kk), .val (.ref ky), .val (.ref b3), .val (.int (mode &&& (3 : Int32))), .unset, .unset] [(.ref cz), (.ref b11), (.ref b11)]))
          refine Go.st (fun _ => XS.iload W13.here W13.ex rfl (hb hby at_170) rfl) ?_
          show Go p_ e_ bl_ _ (T13.setTop (mkF m_ 172 #[.val (.int c1), .val (.int k1), .val (.int c2), .val (.int k2), .val (.int lens), .val (.int mode), .val (.int la), .val (.int lb), .val (.int lc), .val (.int ld), .val (.int cc), .val (.int kk), .val (.ref ky), .val (.ref b3), .val (.int (mode &&& (3 : Int32))), .unset, .unset] [(.int kk), (.ref cz), (.ref b11), (.ref b11)]))
          refine Go.st (fun _ => XS.iload W13.here W13.ex rfl (hb hby at_172) rfl) ?_
          show Go p_ e_ bl_ _ (T13.setTop (mkF m_ 174 #[.val (.int c1), .val (.int k1), .val (.int c2), .val (.int k2), .val (.int lens), .val (.int mode), .val (.int la), .val (.int lb), .val (.int lc), .val (.int ld), .val (.int cc), .val (.int kk), .val (.ref ky), .val (.ref b3), .val (.int (mode &&& (3 : Int32))), .unset, .unset] [(.int ld), (.int kk), (.ref cz), (.ref b11), (.ref b11)]))
          refine W13.callS (y := (⟨"com/example/rudia/rudia/ScopedKeyEqualsPinLaw", "mk", "(II)Ljava/lang/String;"⟩ : MethodName)) (cx.w 0 rfl) (cx.w 1 rfl) (cx.w 2 rfl) (cx.w 3 rfl) (by decide) (ct_mk cx W13.old kk ld) all0 (by decide) (Wd := 3) (by decide) (k' := 30) (n' := 96) rfl rfl (by decide) (by decide) (by rw [hml]; rfl) (argsL := [(.int kk), (.int ld)]) (rest := [(.ref cz), (.ref b11), (.ref b11)]) rfl (lenOf pd8 rfl) rfl (Nat.le_of_eq rfl) (hb hby at_174) ?_
          intro v15 vm15 T15 h15 L15 W15 q15
          obtain ⟨kz, tkz, rfl, hz_kz, g_kz, Kq14, S_kz⟩ := q15
          have ne_ky_kz : ky ≠ kz := Nat.ne_of_lt (Nat.lt_of_lt_of_le S_ky.lt hz_kz)
          have ne_tky_kz : tky ≠ kz := Nat.ne_of_lt (Nat.lt_of_lt_of_le S_ky.ltt hz_kz)
          have ne_b3_kz : b3 ≠ kz := Nat.ne_of_lt (Nat.lt_of_lt_of_le E_b3.lt hz_kz)
          have ne_cy_kz : cy ≠ kz := Nat.ne_of_lt (Nat.lt_of_lt_of_le S_cy.lt hz_kz)
          have ne_tcy_kz : tcy ≠ kz := Nat.ne_of_lt (Nat.lt_of_lt_of_le S_cy.ltt hz_kz)
          have ne_b11_kz : b11 ≠ kz := Nat.ne_of_lt (Nat.lt_of_lt_of_le E_b11.lt hz_kz)
          have ne_cz_kz : cz ≠ kz := Nat.ne_of_lt (Nat.lt_of_lt_of_le S_cz.lt hz_kz)
          have ne_tcz_kz : tcz ≠ kz := Nat.ne_of_lt (Nat.lt_of_lt_of_le S_cz.ltt hz_kz)
          replace S_ky := S_ky.keep Kq14 nin0 nin0
          replace E_b3 := E_b3.keep Kq14
          replace S_cy := S_cy.keep Kq14 nin0 nin0
          replace F_client1 := F_client1.keep Kq14 nin0
          replace F_key1 := F_key1.keep Kq14 nin0
          replace E_b11 := E_b11.keep Kq14
          replace F_client_b11 := F_client_b11.keep Kq14 nin0
          replace F_key_b11 := F_key_b11.keep Kq14 nin0
          replace S_cz := S_cz.keep Kq14 nin0 nin0
          show Go p_ e_ bl_ _ (T15.setTop (mkF m_ 177 #[.val (.int c1), .val (.int k1), .val (.int c2), .val (.int k2), .val (.int lens), .val (.int mode), .val (.int la), .val (.int lb), .val (.int lc), .val (.int ld), .val (.int cc), .val (.int kk), .val (.ref ky), .val (.ref b3), .val (.int (mode &&& (3 : Int32))), .unset, .unset] [(.ref kz), (.ref cz), (.ref b11), (.ref b11)]))
          refine W15.callI (y := (⟨"com/example/rudia/rudia/ScopedKey", "<init>", "(Ljava/lang/String;Ljava/lang/String;)V"⟩ : MethodName)) rfl (cx.w 29 rfl) (cx.w 30 rfl) (cx.w 28 rfl) (cx.w 31 rfl) (by decide) (ct_sk cx W15.old b11 cz kz tcz tkz _ _ E_b11 F_client_b11 F_key_b11 g_b11 S_cz S_kz) (allS (List.mem_of_getElem? (i := 0) rfl) all0) (by decide) (Wd := 1) (by decide) (k' := 34) (n' := 140) rfl rfl (by decide) (by decide) (by rw [hml]; rfl) (a := b11) (argsL := [(.ref cz), (.ref kz)]) (rest := [(.ref b11)]) rfl (lenOf pd9 rfl) rfl (Nat.le_of_eq rfl) (hb hby at_177) ?_
          intro v17 vm17 T17 h17 L17 W17 q17
          obtain ⟨rfl, Ks16, E_n16, F_client2, F_key2⟩ := q17
          have ne_tcz_b11 : tcz ≠ b11 := (Ne.symm (Ne.symm (S_cz.neT E_b11 (cx.w 27 rfl))))
          have ne_tkz_b11 : tkz ≠ b11 := (Ne.symm (Ne.symm (S_kz.neT E_b11 (cx.w 27 rfl))))
          replace S_ky := S_ky.keep Ks16 (ninS ne_ky_b11 nin0) (ninS ne_tky_b11 nin0)
          replace E_b3 := E_b3.keep Ks16
          replace S_cy := S_cy.keep Ks16 (ninS ne_cy_b11 nin0) (ninS ne_tcy_b11 nin0)
          replace F_client1 := F_client1.keep Ks16 (ninS ne_b3_b11 nin0)
          replace F_key1 := F_key1.keep Ks16 (ninS ne_b3_b11 nin0)
          replace E_b11 := E_b11.keep Ks16
          replace S_cz := S_cz.keep Ks16 (ninS (Ne.symm ne_b11_cz) nin0) (ninS ne_tcz_b11 nin0)
          replace S_kz := S_kz.keep Ks16 (ninS (Ne.symm ne_b11_kz) nin0) (ninS ne_tkz_b11 nin0)
          show Go p_ e_ bl_ _ (T17.setTop (mkF m_ 180 #[.val (.int c1), .val (.int k1), .val (.int c2), .val (.int k2), .val (.int lens), .val (.int mode), .val (.int la), .val (.int lb), .val (.int lc), .val (.int ld), .val (.int cc), .val (.int kk), .val (.ref ky), .val (.ref b3), .val (.int (mode &&& (3 : Int32))), .unset, .unset] [(.ref b11)]))
          refine Go.st (fun _ => XS.astore W17.here W17.ex rfl (hb hby at_180) rfl rfl (l' := #[.val (.int c1), .val (.int k1), .val (.int c2), .val (.int k2), .val (.int lens), .val (.int mode), .val (.int la), .val (.int lb), .val (.int lc), .val (.int ld), .val (.int cc), .val (.int kk), .val (.ref ky), .val (.ref b3), .val (.int (mode &&& (3 : Int32))), .val (.ref b11), .unset]) rfl) ?_
          show Go p_ e_ bl_ _ (T17.setTop (mkF m_ 182 #[.val (.int c1), .val (.int k1), .val (.int c2), .val (.int k2), .val (.int lens), .val (.int mode), .val (.int la), .val (.int lb), .val (.int lc), .val (.int ld), .val (.int cc), .val (.int kk), .val (.ref ky), .val (.ref b3), .val (.int (mode &&& (3 : Int32))), .val (.ref b11), .unset] []))
          refine Go.st (fun _ => XS.iloadN W17.here W17.ex rfl (hb hby at_182) rfl) ?_
          show Go p_ e_ bl_ _ (T17.setTop (mkF m_ 183 #[.val (.int c1), .val (.int k1), .val (.int c2), .val (.int k2), .val (.int lens), .val (.int mode), .val (.int la), .val (.int lb), .val (.int lc), .val (.int ld), .val (.int cc), .val (.int kk), .val (.ref ky), .val (.ref b3), .val (.int (mode &&& (3 : Int32))), .val (.ref b11), .unset] [(.int c1)]))
          refine Go.st (fun _ => XS.iload W17.here W17.ex rfl (hb hby at_183) rfl) ?_
          show Go p_ e_ bl_ _ (T17.setTop (mkF m_ 185 #[.val (.int c1), .val (.int k1), .val (.int c2), .val (.int k2), .val (.int lens), .val (.int mode), .val (.int la), .val (.int lb), .val (.int lc), .val (.int ld), .val (.int cc), .val (.int kk), .val (.ref ky), .val (.ref b3), .val (.int (mode &&& (3 : Int32))), .val (.ref b11), .unset] [(.int la), (.int c1)]))
          refine Go.st (fun _ => XS.iload W17.here W17.ex rfl (hb hby at_185) rfl) ?_
          show Go p_ e_ bl_ _ (T17.setTop (mkF m_ 187 #[.val (.int c1), .val (.int k1), .val (.int c2), .val (.int k2), .val (.int lens), .val (.int mode), .val (.int la), .val (.int lb), .val (.int lc), .val (.int ld), .val (.int cc), .val (.int kk), .val (.ref ky), .val (.ref b3), .val (.int (mode &&& (3 : Int32))), .val (.ref b11), .unset] [(.int cc), (.int la), (.int c1)]))
          refine Go.st (fun _ => XS.iload W17.here W17.ex rfl (hb hby at_187) rfl) ?_
          show Go p_ e_ bl_ _ (T17.setTop (mkF m_ 189 #[.val (.int c1), .val (.int k1), .val (.int c2), .val (.int k2), .val (.int lens), .val (.int mode), .val (.int la), .val (.int lb), .val (.int lc), .val (.int ld), .val (.int cc), .val (.int kk), .val (.ref ky), .val (.ref b3), .val (.int (mode &&& (3 : Int32))), .val (.ref b11), .unset] [(.int lc), (.int cc), (.int la), (.int c1)]))
          refine W17.callS (y := (⟨"com/example/rudia/rudia/ScopedKeyEqualsPinLaw", "same", "(IIII)Z"⟩ : MethodName)) (cx.w 83 rfl) (cx.w 84 rfl) (cx.w 2 rfl) (cx.w 85 rfl) (by decide) (ct_same cx W17.old c1 la cc lc h3_la h3_lc) all0 (by decide) (Wd := 0) (by decide) (k' := 34) (n' := 140) rfl rfl (by decide) (by decide) (by rw [hml]; rfl) (argsL := [(.int c1), (.int la), (.int cc), (.int lc)]) (rest := []) rfl (lenOf pd10 rfl) rfl (Nat.le_of_eq rfl) (hb hby at_189) ?_
          intro v18 vm18 T18 h18 L18 W18 q18
          rcases q18 with ⟨⟨rfl, hs1⟩ | ⟨rfl, hs1⟩, eh_⟩
          · subst h18
            show Go p_ e_ bl_ _ (T18.setTop (mkF m_ 192 #[.val (.int c1), .val (.int k1), .val (.int c2), .val (.int k2), .val (.int lens), .val (.int mode), .val (.int la), .val (.int lb), .val (.int lc), .val (.int ld), .val (.int cc), .val (.int kk), .val (.ref ky), .val (.ref b3), .val (.int (mode &&& (3 : Int32))), .val (.ref b11), .unset] [(.int (1 : Int32))]))
            refine Go.st (fun _ => XS.ifNo W18.here W18.ex rfl (hb hby at_192) rfl ((if0 _ _).trans (feq ((by decide) : ¬ ((1 : Int32) = (0 : Int32)))).1)) ?_
            show Go p_ e_ bl_ _ (T18.setTop (mkF m_ 195 #[.val (.int c1), .val (.int k1), .val (.int c2), .val (.int k2), .val (.int lens), .val (.int mode), .val (.int la), .val (.int lb), .val (.int lc), .val (.int ld), .val (.int cc), .val (.int kk), .val (.ref ky), .val (.ref b3), .val (.int (mode &&& (3 : Int32))), .val (.ref b11), .unset] []))
            refine Go.st (fun _ => XS.iloadN W18.here W18.ex rfl (hb hby at_195) rfl) ?_
            show Go p_ e_ bl_ _ (T18.setTop (mkF m_ 196 #[.val (.int c1), .val (.int k1), .val (.int c2), .val (.int k2), .val (.int lens), .val (.int mode), .val (.int la), .val (.int lb), .val (.int lc), .val (.int ld), .val (.int cc), .val (.int kk), .val (.ref ky), .val (.ref b3), .val (.int (mode &&& (3 : Int32))), .val (.ref b11), .unset] [(.int k1)]))
            refine Go.st (fun _ => XS.iload W18.here W18.ex rfl (hb hby at_196) rfl) ?_
            show Go p_ e_ bl_ _ (T18.setTop (mkF m_ 198 #[.val (.int c1), .val (.int k1), .val (.int c2), .val (.int k2), .val (.int lens), .val (.int mode), .val (.int la), .val (.int lb), .val (.int lc), .val (.int ld), .val (.int cc), .val (.int kk), .val (.ref ky), .val (.ref b3), .val (.int (mode &&& (3 : Int32))), .val (.ref b11), .unset] [(.int lb), (.int k1)]))
            refine Go.st (fun _ => XS.iload W18.here W18.ex rfl (hb hby at_198) rfl) ?_
            show Go p_ e_ bl_ _ (T18.setTop (mkF m_ 200 #[.val (.int c1), .val (.int k1), .val (.int c2), .val (.int k2), .val (.int lens), .val (.int mode), .val (.int la), .val (.int lb), .val (.int lc), .val (.int ld), .val (.int cc), .val (.int kk), .val (.ref ky), .val (.ref b3), .val (.int (mode &&& (3 : Int32))), .val (.ref b11), .unset] [(.int kk), (.int lb), (.int k1)]))
            refine Go.st (fun _ => XS.iload W18.here W18.ex rfl (hb hby at_200) rfl) ?_
            show Go p_ e_ bl_ _ (T18.setTop (mkF m_ 202 #[.val (.int c1), .val (.int k1), .val (.int c2), .val (.int k2), .val (.int lens), .val (.int mode), .val (.int la), .val (.int lb), .val (.int lc), .val (.int ld), .val (.int cc), .val (.int kk), .val (.ref ky), .val (.ref b3), .val (.int (mode &&& (3 : Int32))), .val (.ref b11), .unset] [(.int ld), (.int kk), (.int lb), (.int k1)]))
            refine W18.callS (y := (⟨"com/example/rudia/rudia/ScopedKeyEqualsPinLaw", "same", "(IIII)Z"⟩ : MethodName)) (cx.w 83 rfl) (cx.w 84 rfl) (cx.w 2 rfl) (cx.w 85 rfl) (by decide) (ct_same cx W18.old k1 lb kk ld h3_lb h3_ld) all0 (by decide) (Wd := 0) (by decide) (k' := 34) (n' := 140) rfl rfl (by decide) (by decide) (by rw [hml]; rfl) (argsL := [(.int k1), (.int lb), (.int kk), (.int ld)]) (rest := []) rfl (lenOf pd10 rfl) rfl (Nat.le_of_eq rfl) (hb hby at_202) ?_
            intro v21 vm21 T21 h21 L21 W21 q21
            rcases q21 with ⟨⟨rfl, hs2⟩ | ⟨rfl, hs2⟩, eh_⟩
            · subst h21
              show Go p_ e_ bl_ _ (T21.setTop (mkF m_ 205 #[.val (.int c1), .val (.int k1), .val (.int c2), .val (.int k2), .val (.int lens), .val (.int mode), .val (.int la), .val (.int lb), .val (.int lc), .val (.int ld), .val (.int cc), .val (.int kk), .val (.ref ky), .val (.ref b3), .val (.int (mode &&& (3 : Int32))), .val (.ref b11), .unset] [(.int (1 : Int32))]))
              refine Go.st (fun _ => XS.ifNo W21.here W21.ex rfl (hb hby at_205) rfl ((if0 _ _).trans (feq ((by decide) : ¬ ((1 : Int32) = (0 : Int32)))).1)) ?_
              show Go p_ e_ bl_ _ (T21.setTop (mkF m_ 208 #[.val (.int c1), .val (.int k1), .val (.int c2), .val (.int k2), .val (.int lens), .val (.int mode), .val (.int la), .val (.int lb), .val (.int lc), .val (.int ld), .val (.int cc), .val (.int kk), .val (.ref ky), .val (.ref b3), .val (.int (mode &&& (3 : Int32))), .val (.ref b11), .unset] []))
              refine Go.st (fun _ => XS.iconst W21.here W21.ex rfl (hb hby at_208)) ?_
              show Go p_ e_ bl_ _ (T21.setTop (mkF m_ 209 #[.val (.int c1), .val (.int k1), .val (.int c2), .val (.int k2), .val (.int lens), .val (.int mode), .val (.int la), .val (.int lb), .val (.int lc), .val (.int ld), .val (.int cc), .val (.int kk), .val (.ref ky), .val (.ref b3), .val (.int (mode &&& (3 : Int32))), .val (.ref b11), .unset] [(.int (1 : Int32))]))
              refine Go.st (fun _ => XS.goto W21.here W21.ex rfl (pc0 := 209) (pc' := 213) rfl (hb hby at_209) (by decide) (by decide)) ?_
              show Go p_ e_ bl_ _ (T21.setTop (mkF m_ 213 #[.val (.int c1), .val (.int k1), .val (.int c2), .val (.int k2), .val (.int lens), .val (.int mode), .val (.int la), .val (.int lb), .val (.int lc), .val (.int ld), .val (.int cc), .val (.int kk), .val (.ref ky), .val (.ref b3), .val (.int (mode &&& (3 : Int32))), .val (.ref b11), .unset] [(.int (1 : Int32))]))
              refine Go.st (fun _ => XS.istore W21.here W21.ex rfl (hb hby at_213) rfl (l' := #[.val (.int c1), .val (.int k1), .val (.int c2), .val (.int k2), .val (.int lens), .val (.int mode), .val (.int la), .val (.int lb), .val (.int lc), .val (.int ld), .val (.int cc), .val (.int kk), .val (.ref ky), .val (.ref b3), .val (.int (mode &&& (3 : Int32))), .val (.ref b11), .val (.int (1 : Int32))]) rfl) ?_
              show Go p_ e_ bl_ _ (T21.setTop (mkF m_ 215 #[.val (.int c1), .val (.int k1), .val (.int c2), .val (.int k2), .val (.int lens), .val (.int mode), .val (.int la), .val (.int lb), .val (.int lc), .val (.int ld), .val (.int cc), .val (.int kk), .val (.ref ky), .val (.ref b3), .val (.int (mode &&& (3 : Int32))), .val (.ref b11), .val (.int (1 : Int32))] []))
              refine Go.st (fun _ => XS.aload W21.here W21.ex rfl (hb hby at_215) rfl rfl) ?_
              show Go p_ e_ bl_ _ (T21.setTop (mkF m_ 217 #[.val (.int c1), .val (.int k1), .val (.int c2), .val (.int k2), .val (.int lens), .val (.int mode), .val (.int la), .val (.int lb), .val (.int lc), .val (.int ld), .val (.int cc), .val (.int kk), .val (.ref ky), .val (.ref b3), .val (.int (mode &&& (3 : Int32))), .val (.ref b11), .val (.int (1 : Int32))] [(.ref b3)]))
              refine Go.st (fun _ => XS.aload W21.here W21.ex rfl (hb hby at_217) rfl rfl) ?_
              show Go p_ e_ bl_ _ (T21.setTop (mkF m_ 219 #[.val (.int c1), .val (.int k1), .val (.int c2), .val (.int k2), .val (.int lens), .val (.int mode), .val (.int la), .val (.int lb), .val (.int lc), .val (.int ld), .val (.int cc), .val (.int kk), .val (.ref ky), .val (.ref b3), .val (.int (mode &&& (3 : Int32))), .val (.ref b11), .val (.int (1 : Int32))] [(.ref b11), (.ref b3)]))
              refine W21.callV (y := (⟨"com/example/rudia/rudia/ScopedKey", "equals", "(Ljava/lang/Object;)Z"⟩ : MethodName)) (z := (⟨"com/example/rudia/rudia/ScopedKey", "equals", "(Ljava/lang/Object;)Z"⟩ : MethodName)) (cx.w 44 rfl) (cx.w 45 rfl) (cx.w 47 rfl) (cx.w 46 rfl) (cx.w 28 rfl) (cx.w 48 rfl) (W21.nf (cx.w 47 rfl)) (by decide) E_b3 (ct_eq cx W21.old b3 cy ky b11 cz kz tcy tky tcz tkz _ _ _ _ E_b3 F_client1 F_key1 E_b11 F_client2 F_key2 S_cy S_ky S_cz S_kz) all0 (by decide) (Wd := 0) (by decide) (k' := 34) (n' := 140) rfl rfl (by decide) (by decide) (by rw [hml]; rfl) (a := b3) (argsL := [(.ref b11)]) (rest := []) rfl (lenOf pd7 rfl) rfl (Nat.le_of_eq rfl) (hb hby at_219) ?_
              intro v22 vm22 T22 h22 L22 W22 q22
              rcases q22 with ⟨⟨rfl, he⟩ | ⟨rfl, he⟩, eh_⟩
              · subst h22
                show Go p_ e_ bl_ _ (T22.setTop (mkF m_ 222 #[.val (.int c1), .val (.int k1), .val (.int c2), .val (.int k2), .val (.int lens), .val (.int mode), .val (.int la), .val (.int lb), .val (.int lc), .val (.int ld), .val (.int cc), .val (.int kk), .val (.ref ky), .val (.ref b3), .val (.int (mode &&& (3 : Int32))), .val (.ref b11), .val (.int (1 : Int32))] [(.int (1 : Int32))]))
                refine Go.st (fun _ => XS.iload W22.here W22.ex rfl (hb hby at_222) rfl) ?_
                show Go p_ e_ bl_ _ (T22.setTop (mkF m_ 224 #[.val (.int c1), .val (.int k1), .val (.int c2), .val (.int k2), .val (.int lens), .val (.int mode), .val (.int la), .val (.int lb), .val (.int lc), .val (.int ld), .val (.int cc), .val (.int kk), .val (.ref ky), .val (.ref b3), .val (.int (mode &&& (3 : Int32))), .val (.ref b11), .val (.int (1 : Int32))] [(.int (1 : Int32)), (.int (1 : Int32))]))
                refine Go.st (fun _ => XS.icmpNo W22.here W22.ex rfl (hb hby at_224) rfl (teq (rfl : (1 : Int32) = (1 : Int32))).2) ?_
                show Go p_ e_ bl_ _ (T22.setTop (mkF m_ 227 #[.val (.int c1), .val (.int k1), .val (.int c2), .val (.int k2), .val (.int lens), .val (.int mode), .val (.int la), .val (.int lb), .val (.int lc), .val (.int ld), .val (.int cc), .val (.int kk), .val (.ref ky), .val (.ref b3), .val (.int (mode &&& (3 : Int32))), .val (.ref b11), .val (.int (1 : Int32))] []))
                refine Go.st (fun _ => XS.aload W22.here W22.ex rfl (hb hby at_227) rfl rfl) ?_
                show Go p_ e_ bl_ _ (T22.setTop (mkF m_ 229 #[.val (.int c1), .val (.int k1), .val (.int c2), .val (.int k2), .val (.int lens), .val (.int mode), .val (.int la), .val (.int lb), .val (.int lc), .val (.int ld), .val (.int cc), .val (.int kk), .val (.ref ky), .val (.ref b3), .val (.int (mode &&& (3 : Int32))), .val (.ref b11), .val (.int (1 : Int32))] [(.ref b11)]))
                refine Go.st (fun _ => XS.aload W22.here W22.ex rfl (hb hby at_229) rfl rfl) ?_
                show Go p_ e_ bl_ _ (T22.setTop (mkF m_ 231 #[.val (.int c1), .val (.int k1), .val (.int c2), .val (.int k2), .val (.int lens), .val (.int mode), .val (.int la), .val (.int lb), .val (.int lc), .val (.int ld), .val (.int cc), .val (.int kk), .val (.ref ky), .val (.ref b3), .val (.int (mode &&& (3 : Int32))), .val (.ref b11), .val (.int (1 : Int32))] [(.ref b3), (.ref b11)]))
                refine W22.callV (y := (⟨"com/example/rudia/rudia/ScopedKey", "equals", "(Ljava/lang/Object;)Z"⟩ : MethodName)) (z := (⟨"com/example/rudia/rudia/ScopedKey", "equals", "(Ljava/lang/Object;)Z"⟩ : MethodName)) (cx.w 44 rfl) (cx.w 45 rfl) (cx.w 47 rfl) (cx.w 46 rfl) (cx.w 28 rfl) (cx.w 48 rfl) (W22.nf (cx.w 47 rfl)) (by decide) E_b11 (ct_eq cx W22.old b11 cz kz b3 cy ky tcz tkz tcy tky _ _ _ _ E_b11 F_client2 F_key2 E_b3 F_client1 F_key1 S_cz S_kz S_cy S_ky) all0 (by decide) (Wd := 0) (by decide) (k' := 34) (n' := 140) rfl rfl (by decide) (by decide) (by rw [hml]; rfl) (a := b11) (argsL := [(.ref b3)]) (rest := []) rfl (lenOf pd7 rfl) rfl (Nat.le_of_eq rfl) (hb hby at_231) ?_
                intro v23 vm23 T23 h23 L23 W23 q23
                rcases q23 with ⟨⟨rfl, hg⟩ | ⟨rfl, hg⟩, eh_⟩
                · subst h23
                  show Go p_ e_ bl_ _ (T23.setTop (mkF m_ 234 #[.val (.int c1), .val (.int k1), .val (.int c2), .val (.int k2), .val (.int lens), .val (.int mode), .val (.int la), .val (.int lb), .val (.int lc), .val (.int ld), .val (.int cc), .val (.int kk), .val (.ref ky), .val (.ref b3), .val (.int (mode &&& (3 : Int32))), .val (.ref b11), .val (.int (1 : Int32))] [(.int (1 : Int32))]))
                  refine Go.st (fun _ => XS.iload W23.here W23.ex rfl (hb hby at_234) rfl) ?_
                  show Go p_ e_ bl_ _ (T23.setTop (mkF m_ 236 #[.val (.int c1), .val (.int k1), .val (.int c2), .val (.int k2), .val (.int lens), .val (.int mode), .val (.int la), .val (.int lb), .val (.int lc), .val (.int ld), .val (.int cc), .val (.int kk), .val (.ref ky), .val (.ref b3), .val (.int (mode &&& (3 : Int32))), .val (.ref b11), .val (.int (1 : Int32))] [(.int (1 : Int32)), (.int (1 : Int32))]))
                  refine Go.st (fun _ => XS.icmpNo W23.here W23.ex rfl (hb hby at_236) rfl (teq (rfl : (1 : Int32) = (1 : Int32))).2) ?_
                  show Go p_ e_ bl_ _ (T23.setTop (mkF m_ 239 #[.val (.int c1), .val (.int k1), .val (.int c2), .val (.int k2), .val (.int lens), .val (.int mode), .val (.int la), .val (.int lb), .val (.int lc), .val (.int ld), .val (.int cc), .val (.int kk), .val (.ref ky), .val (.ref b3), .val (.int (mode &&& (3 : Int32))), .val (.ref b11), .val (.int (1 : Int32))] []))
                  refine Go.st (fun _ => XS.iconst W23.here W23.ex rfl (hb hby at_239)) ?_
                  show Go p_ e_ bl_ _ (T23.setTop (mkF m_ 240 #[.val (.int c1), .val (.int k1), .val (.int c2), .val (.int k2), .val (.int lens), .val (.int mode), .val (.int la), .val (.int lb), .val (.int lc), .val (.int ld), .val (.int cc), .val (.int kk), .val (.ref ky), .val (.ref b3), .val (.int (mode &&& (3 : Int32))), .val (.ref b11), .val (.int (1 : Int32))] [(.int (1 : Int32))]))
                  refine Go.st (fun _ => XS.goto W23.here W23.ex rfl (pc0 := 240) (pc' := 244) rfl (hb hby at_240) (by decide) (by decide)) ?_
                  show Go p_ e_ bl_ _ (T23.setTop (mkF m_ 244 #[.val (.int c1), .val (.int k1), .val (.int c2), .val (.int k2), .val (.int lens), .val (.int mode), .val (.int la), .val (.int lb), .val (.int lc), .val (.int ld), .val (.int cc), .val (.int kk), .val (.ref ky), .val (.ref b3), .val (.int (mode &&& (3 : Int32))), .val (.ref b11), .val (.int (1 : Int32))] [(.int (1 : Int32))]))
                  exact W23.retN hret (by simp) (hb hby at_244) (by decide) (by decide) fun _ _ => rfl
                · subst h23
                  show Go p_ e_ bl_ _ (T23.setTop (mkF m_ 234 #[.val (.int c1), .val (.int k1), .val (.int c2), .val (.int k2), .val (.int lens), .val (.int mode), .val (.int la), .val (.int lb), .val (.int lc), .val (.int ld), .val (.int cc), .val (.int kk), .val (.ref ky), .val (.ref b3), .val (.int (mode &&& (3 : Int32))), .val (.ref b11), .val (.int (1 : Int32))] [(.int (0 : Int32))]))
                  exact absurd ⟨(⟨hs1, hs2⟩ : mkL c1 la = mkL cc lc ∧ mkL k1 lb = mkL kk ld).1.symm, (⟨hs1, hs2⟩ : mkL c1 la = mkL cc lc ∧ mkL k1 lb = mkL kk ld).2.symm⟩ hg
              · subst h22
                show Go p_ e_ bl_ _ (T22.setTop (mkF m_ 222 #[.val (.int c1), .val (.int k1), .val (.int c2), .val (.int k2), .val (.int lens), .val (.int mode), .val (.int la), .val (.int lb), .val (.int lc), .val (.int ld), .val (.int cc), .val (.int kk), .val (.ref ky), .val (.ref b3), .val (.int (mode &&& (3 : Int32))), .val (.ref b11), .val (.int (1 : Int32))] [(.int (0 : Int32))]))
                exact absurd (⟨hs1, hs2⟩ : mkL c1 la = mkL cc lc ∧ mkL k1 lb = mkL kk ld) he
            · subst h21
              show Go p_ e_ bl_ _ (T21.setTop (mkF m_ 205 #[.val (.int c1), .val (.int k1), .val (.int c2), .val (.int k2), .val (.int lens), .val (.int mode), .val (.int la), .val (.int lb), .val (.int lc), .val (.int ld), .val (.int cc), .val (.int kk), .val (.ref ky), .val (.ref b3), .val (.int (mode &&& (3 : Int32))), .val (.ref b11), .unset] [(.int (0 : Int32))]))
              refine Go.st (fun _ => XS.ifYes W21.here W21.ex rfl (pc0 := 205) (pc' := 212) rfl (hb hby at_205) rfl ((if0 _ _).trans (teq (rfl : (0 : Int32) = (0 : Int32))).1) (by decide) (by decide)) ?_
              show Go p_ e_ bl_ _ (T21.setTop (mkF m_ 212 #[.val (.int c1), .val (.int k1), .val (.int c2), .val (.int k2), .val (.int lens), .val (.int mode), .val (.int la), .val (.int lb), .val (.int lc), .val (.int ld), .val (.int cc), .val (.int kk), .val (.ref ky), .val (.ref b3), .val (.int (mode &&& (3 : Int32))), .val (.ref b11), .unset] []))
              refine Go.st (fun _ => XS.iconst W21.here W21.ex rfl (hb hby at_212)) ?_
              show Go p_ e_ bl_ _ (T21.setTop (mkF m_ 213 #[.val (.int c1), .val (.int k1), .val (.int c2), .val (.int k2), .val (.int lens), .val (.int mode), .val (.int la), .val (.int lb), .val (.int lc), .val (.int ld), .val (.int cc), .val (.int kk), .val (.ref ky), .val (.ref b3), .val (.int (mode &&& (3 : Int32))), .val (.ref b11), .unset] [(.int (0 : Int32))]))
              refine Go.st (fun _ => XS.istore W21.here W21.ex rfl (hb hby at_213) rfl (l' := #[.val (.int c1), .val (.int k1), .val (.int c2), .val (.int k2), .val (.int lens), .val (.int mode), .val (.int la), .val (.int lb), .val (.int lc), .val (.int ld), .val (.int cc), .val (.int kk), .val (.ref ky), .val (.ref b3), .val (.int (mode &&& (3 : Int32))), .val (.ref b11), .val (.int (0 : Int32))]) rfl) ?_
              show Go p_ e_ bl_ _ (T21.setTop (mkF m_ 215 #[.val (.int c1), .val (.int k1), .val (.int c2), .val (.int k2), .val (.int lens), .val (.int mode), .val (.int la), .val (.int lb), .val (.int lc), .val (.int ld), .val (.int cc), .val (.int kk), .val (.ref ky), .val (.ref b3), .val (.int (mode &&& (3 : Int32))), .val (.ref b11), .val (.int (0 : Int32))] []))
              refine Go.st (fun _ => XS.aload W21.here W21.ex rfl (hb hby at_215) rfl rfl) ?_
              show Go p_ e_ bl_ _ (T21.setTop (mkF m_ 217 #[.val (.int c1), .val (.int k1), .val (.int c2), .val (.int k2), .val (.int lens), .val (.int mode), .val (.int la), .val (.int lb), .val (.int lc), .val (.int ld), .val (.int cc), .val (.int kk), .val (.ref ky), .val (.ref b3), .val (.int (mode &&& (3 : Int32))), .val (.ref b11), .val (.int (0 : Int32))] [(.ref b3)]))
              refine Go.st (fun _ => XS.aload W21.here W21.ex rfl (hb hby at_217) rfl rfl) ?_
              show Go p_ e_ bl_ _ (T21.setTop (mkF m_ 219 #[.val (.int c1), .val (.int k1), .val (.int c2), .val (.int k2), .val (.int lens), .val (.int mode), .val (.int la), .val (.int lb), .val (.int lc), .val (.int ld), .val (.int cc), .val (.int kk), .val (.ref ky), .val (.ref b3), .val (.int (mode &&& (3 : Int32))), .val (.ref b11), .val (.int (0 : Int32))] [(.ref b11), (.ref b3)]))
              refine W21.callV (y := (⟨"com/example/rudia/rudia/ScopedKey", "equals", "(Ljava/lang/Object;)Z"⟩ : MethodName)) (z := (⟨"com/example/rudia/rudia/ScopedKey", "equals", "(Ljava/lang/Object;)Z"⟩ : MethodName)) (cx.w 44 rfl) (cx.w 45 rfl) (cx.w 47 rfl) (cx.w 46 rfl) (cx.w 28 rfl) (cx.w 48 rfl) (W21.nf (cx.w 47 rfl)) (by decide) E_b3 (ct_eq cx W21.old b3 cy ky b11 cz kz tcy tky tcz tkz _ _ _ _ E_b3 F_client1 F_key1 E_b11 F_client2 F_key2 S_cy S_ky S_cz S_kz) all0 (by decide) (Wd := 0) (by decide) (k' := 34) (n' := 140) rfl rfl (by decide) (by decide) (by rw [hml]; rfl) (a := b3) (argsL := [(.ref b11)]) (rest := []) rfl (lenOf pd7 rfl) rfl (Nat.le_of_eq rfl) (hb hby at_219) ?_
              intro v24 vm24 T24 h24 L24 W24 q24
              rcases q24 with ⟨⟨rfl, he⟩ | ⟨rfl, he⟩, eh_⟩
              · subst h24
                show Go p_ e_ bl_ _ (T24.setTop (mkF m_ 222 #[.val (.int c1), .val (.int k1), .val (.int c2), .val (.int k2), .val (.int lens), .val (.int mode), .val (.int la), .val (.int lb), .val (.int lc), .val (.int ld), .val (.int cc), .val (.int kk), .val (.ref ky), .val (.ref b3), .val (.int (mode &&& (3 : Int32))), .val (.ref b11), .val (.int (0 : Int32))] [(.int (1 : Int32))]))
                exact absurd he (fun (q : mkL c1 la = mkL cc lc ∧ mkL k1 lb = mkL kk ld) => hs2 q.2)
              · subst h24
                show Go p_ e_ bl_ _ (T24.setTop (mkF m_ 222 #[.val (.int c1), .val (.int k1), .val (.int c2), .val (.int k2), .val (.int lens), .val (.int mode), .val (.int la), .val (.int lb), .val (.int lc), .val (.int ld), .val (.int cc), .val (.int kk), .val (.ref ky), .val (.ref b3), .val (.int (mode &&& (3 : Int32))), .val (.ref b11), .val (.int (0 : Int32))] [(.int (0 : Int32))]))
                refine Go.st (fun _ => XS.iload W24.here W24.ex rfl (hb hby at_222) rfl) ?_
                show Go p_ e_ bl_ _ (T24.setTop (mkF m_ 224 #[.val (.int c1), .val (.int k1), .val (.int c2), .val (.int k2), .val (.int lens), .val (.int mode), .val (.int la), .val (.int lb), .val (.int lc), .val (.int ld), .val (.int cc), .val (.int kk), .val (.ref ky), .val (.ref b3), .val (.int (mode &&& (3 : Int32))), .val (.ref b11), .val (.int (0 : Int32))] [(.int (0 : Int32)), (.int (0 : Int32))]))
                refine Go.st (fun _ => XS.icmpNo W24.here W24.ex rfl (hb hby at_224) rfl (teq (rfl : (0 : Int32) = (0 : Int32))).2) ?_
                show Go p_ e_ bl_ _ (T24.setTop (mkF m_ 227 #[.val (.int c1), .val (.int k1), .val (.int c2), .val (.int k2), .val (.int lens), .val (.int mode), .val (.int la), .val (.int lb), .val (.int lc), .val (.int ld), .val (.int cc), .val (.int kk), .val (.ref ky), .val (.ref b3), .val (.int (mode &&& (3 : Int32))), .val (.ref b11), .val (.int (0 : Int32))] []))
                refine Go.st (fun _ => XS.aload W24.here W24.ex rfl (hb hby at_227) rfl rfl) ?_
                show Go p_ e_ bl_ _ (T24.setTop (mkF m_ 229 #[.val (.int c1), .val (.int k1), .val (.int c2), .val (.int k2), .val (.int lens), .val (.int mode), .val (.int la), .val (.int lb), .val (.int lc), .val (.int ld), .val (.int cc), .val (.int kk), .val (.ref ky), .val (.ref b3), .val (.int (mode &&& (3 : Int32))), .val (.ref b11), .val (.int (0 : Int32))] [(.ref b11)]))
                refine Go.st (fun _ => XS.aload W24.here W24.ex rfl (hb hby at_229) rfl rfl) ?_
                show Go p_ e_ bl_ _ (T24.setTop (mkF m_ 231 #[.val (.int c1), .val (.int k1), .val (.int c2), .val (.int k2), .val (.int lens), .val (.int mode), .val (.int la), .val (.int lb), .val (.int lc), .val (.int ld), .val (.int cc), .val (.int kk), .val (.ref ky), .val (.ref b3), .val (.int (mode &&& (3 : Int32))), .val (.ref b11), .val (.int (0 : Int32))] [(.ref b3), (.ref b11)]))
                refine W24.callV (y := (⟨"com/example/rudia/rudia/ScopedKey", "equals", "(Ljava/lang/Object;)Z"⟩ : MethodName)) (z := (⟨"com/example/rudia/rudia/ScopedKey", "equals", "(Ljava/lang/Object;)Z"⟩ : MethodName)) (cx.w 44 rfl) (cx.w 45 rfl) (cx.w 47 rfl) (cx.w 46 rfl) (cx.w 28 rfl) (cx.w 48 rfl) (W24.nf (cx.w 47 rfl)) (by decide) E_b11 (ct_eq cx W24.old b11 cz kz b3 cy ky tcz tkz tcy tky _ _ _ _ E_b11 F_client2 F_key2 E_b3 F_client1 F_key1 S_cz S_kz S_cy S_ky) all0 (by decide) (Wd := 0) (by decide) (k' := 34) (n' := 140) rfl rfl (by decide) (by decide) (by rw [hml]; rfl) (a := b11) (argsL := [(.ref b3)]) (rest := []) rfl (lenOf pd7 rfl) rfl (Nat.le_of_eq rfl) (hb hby at_231) ?_
                intro v25 vm25 T25 h25 L25 W25 q25
                rcases q25 with ⟨⟨rfl, hg⟩ | ⟨rfl, hg⟩, eh_⟩
                · subst h25
                  show Go p_ e_ bl_ _ (T25.setTop (mkF m_ 234 #[.val (.int c1), .val (.int k1), .val (.int c2), .val (.int k2), .val (.int lens), .val (.int mode), .val (.int la), .val (.int lb), .val (.int lc), .val (.int ld), .val (.int cc), .val (.int kk), .val (.ref ky), .val (.ref b3), .val (.int (mode &&& (3 : Int32))), .val (.ref b11), .val (.int (0 : Int32))] [(.int (1 : Int32))]))
                  exact absurd ⟨hg.1.symm, hg.2.symm⟩ (fun (q : mkL c1 la = mkL cc lc ∧ mkL k1 lb = mkL kk ld) => hs2 q.2)
                · subst h25
                  show Go p_ e_ bl_ _ (T25.setTop (mkF m_ 234 #[.val (.int c1), .val (.int k1), .val (.int c2), .val (.int k2), .val (.int lens), .val (.int mode), .val (.int la), .val (.int lb), .val (.int lc), .val (.int ld), .val (.int cc), .val (.int kk), .val (.ref ky), .val (.ref b3), .val (.int (mode &&& (3 : Int32))), .val (.ref b11), .val (.int (0 : Int32))] [(.int (0 : Int32))]))
                  refine Go.st (fun _ => XS.iload W25.here W25.ex rfl (hb hby at_234) rfl) ?_
                  show Go p_ e_ bl_ _ (T25.setTop (mkF m_ 236 #[.val (.int c1), .val (.int k1), .val (.int c2), .val (.int k2), .val (.int lens), .val (.int mode), .val (.int la), .val (.int lb), .val (.int lc), .val (.int ld), .val (.int cc), .val (.int kk), .val (.ref ky), .val (.ref b3), .val (.int (mode &&& (3 : Int32))), .val (.ref b11), .val (.int (0 : Int32))] [(.int (0 : Int32)), (.int (0 : Int32))]))
                  refine Go.st (fun _ => XS.icmpNo W25.here W25.ex rfl (hb hby at_236) rfl (teq (rfl : (0 : Int32) = (0 : Int32))).2) ?_
                  show Go p_ e_ bl_ _ (T25.setTop (mkF m_ 239 #[.val (.int c1), .val (.int k1), .val (.int c2), .val (.int k2), .val (.int lens), .val (.int mode), .val (.int la), .val (.int lb), .val (.int lc), .val (.int ld), .val (.int cc), .val (.int kk), .val (.ref ky), .val (.ref b3), .val (.int (mode &&& (3 : Int32))), .val (.ref b11), .val (.int (0 : Int32))] []))
                  refine Go.st (fun _ => XS.iconst W25.here W25.ex rfl (hb hby at_239)) ?_
                  show Go p_ e_ bl_ _ (T25.setTop (mkF m_ 240 #[.val (.int c1), .val (.int k1), .val (.int c2), .val (.int k2), .val (.int lens), .val (.int mode), .val (.int la), .val (.int lb), .val (.int lc), .val (.int ld), .val (.int cc), .val (.int kk), .val (.ref ky), .val (.ref b3), .val (.int (mode &&& (3 : Int32))), .val (.ref b11), .val (.int (0 : Int32))] [(.int (1 : Int32))]))
                  refine Go.st (fun _ => XS.goto W25.here W25.ex rfl (pc0 := 240) (pc' := 244) rfl (hb hby at_240) (by decide) (by decide)) ?_
                  show Go p_ e_ bl_ _ (T25.setTop (mkF m_ 244 #[.val (.int c1), .val (.int k1), .val (.int c2), .val (.int k2), .val (.int lens), .val (.int mode), .val (.int la), .val (.int lb), .val (.int lc), .val (.int ld), .val (.int cc), .val (.int kk), .val (.ref ky), .val (.ref b3), .val (.int (mode &&& (3 : Int32))), .val (.ref b11), .val (.int (0 : Int32))] [(.int (1 : Int32))]))
                  exact W25.retN hret (by simp) (hb hby at_244) (by decide) (by decide) fun _ _ => rfl
          · subst h18
            show Go p_ e_ bl_ _ (T18.setTop (mkF m_ 192 #[.val (.int c1), .val (.int k1), .val (.int c2), .val (.int k2), .val (.int lens), .val (.int mode), .val (.int la), .val (.int lb), .val (.int lc), .val (.int ld), .val (.int cc), .val (.int kk), .val (.ref ky), .val (.ref b3), .val (.int (mode &&& (3 : Int32))), .val (.ref b11), .unset] [(.int (0 : Int32))]))
            refine Go.st (fun _ => XS.ifYes W18.here W18.ex rfl (pc0 := 192) (pc' := 212) rfl (hb hby at_192) rfl ((if0 _ _).trans (teq (rfl : (0 : Int32) = (0 : Int32))).1) (by decide) (by decide)) ?_
            show Go p_ e_ bl_ _ (T18.setTop (mkF m_ 212 #[.val (.int c1), .val (.int k1), .val (.int c2), .val (.int k2), .val (.int lens), .val (.int mode), .val (.int la), .val (.int lb), .val (.int lc), .val (.int ld), .val (.int cc), .val (.int kk), .val (.ref ky), .val (.ref b3), .val (.int (mode &&& (3 : Int32))), .val (.ref b11), .unset] []))
            refine Go.st (fun _ => XS.iconst W18.here W18.ex rfl (hb hby at_212)) ?_
            show Go p_ e_ bl_ _ (T18.setTop (mkF m_ 213 #[.val (.int c1), .val (.int k1), .val (.int c2), .val (.int k2), .val (.int lens), .val (.int mode), .val (.int la), .val (.int lb), .val (.int lc), .val (.int ld), .val (.int cc), .val (.int kk), .val (.ref ky), .val (.ref b3), .val (.int (mode &&& (3 : Int32))), .val (.ref b11), .unset] [(.int (0 : Int32))]))
            refine Go.st (fun _ => XS.istore W18.here W18.ex rfl (hb hby at_213) rfl (l' := #[.val (.int c1), .val (.int k1), .val (.int c2), .val (.int k2), .val (.int lens), .val (.int mode), .val (.int la), .val (.int lb), .val (.int lc), .val (.int ld), .val (.int cc), .val (.int kk), .val (.ref ky), .val (.ref b3), .val (.int (mode &&& (3 : Int32))), .val (.ref b11), .val (.int (0 : Int32))]) rfl) ?_
            show Go p_ e_ bl_ _ (T18.setTop (mkF m_ 215 #[.val (.int c1), .val (.int k1), .val (.int c2), .val (.int k2), .val (.int lens), .val (.int mode), .val (.int la), .val (.int lb), .val (.int lc), .val (.int ld), .val (.int cc), .val (.int kk), .val (.ref ky), .val (.ref b3), .val (.int (mode &&& (3 : Int32))), .val (.ref b11), .val (.int (0 : Int32))] []))
            refine Go.st (fun _ => XS.aload W18.here W18.ex rfl (hb hby at_215) rfl rfl) ?_
            show Go p_ e_ bl_ _ (T18.setTop (mkF m_ 217 #[.val (.int c1), .val (.int k1), .val (.int c2), .val (.int k2), .val (.int lens), .val (.int mode), .val (.int la), .val (.int lb), .val (.int lc), .val (.int ld), .val (.int cc), .val (.int kk), .val (.ref ky), .val (.ref b3), .val (.int (mode &&& (3 : Int32))), .val (.ref b11), .val (.int (0 : Int32))] [(.ref b3)]))
            refine Go.st (fun _ => XS.aload W18.here W18.ex rfl (hb hby at_217) rfl rfl) ?_
            show Go p_ e_ bl_ _ (T18.setTop (mkF m_ 219 #[.val (.int c1), .val (.int k1), .val (.int c2), .val (.int k2), .val (.int lens), .val (.int mode), .val (.int la), .val (.int lb), .val (.int lc), .val (.int ld), .val (.int cc), .val (.int kk), .val (.ref ky), .val (.ref b3), .val (.int (mode &&& (3 : Int32))), .val (.ref b11), .val (.int (0 : Int32))] [(.ref b11), (.ref b3)]))
            refine W18.callV (y := (⟨"com/example/rudia/rudia/ScopedKey", "equals", "(Ljava/lang/Object;)Z"⟩ : MethodName)) (z := (⟨"com/example/rudia/rudia/ScopedKey", "equals", "(Ljava/lang/Object;)Z"⟩ : MethodName)) (cx.w 44 rfl) (cx.w 45 rfl) (cx.w 47 rfl) (cx.w 46 rfl) (cx.w 28 rfl) (cx.w 48 rfl) (W18.nf (cx.w 47 rfl)) (by decide) E_b3 (ct_eq cx W18.old b3 cy ky b11 cz kz tcy tky tcz tkz _ _ _ _ E_b3 F_client1 F_key1 E_b11 F_client2 F_key2 S_cy S_ky S_cz S_kz) all0 (by decide) (Wd := 0) (by decide) (k' := 34) (n' := 140) rfl rfl (by decide) (by decide) (by rw [hml]; rfl) (a := b3) (argsL := [(.ref b11)]) (rest := []) rfl (lenOf pd7 rfl) rfl (Nat.le_of_eq rfl) (hb hby at_219) ?_
            intro v19 vm19 T19 h19 L19 W19 q19
            rcases q19 with ⟨⟨rfl, he⟩ | ⟨rfl, he⟩, eh_⟩
            · subst h19
              show Go p_ e_ bl_ _ (T19.setTop (mkF m_ 222 #[.val (.int c1), .val (.int k1), .val (.int c2), .val (.int k2), .val (.int lens), .val (.int mode), .val (.int la), .val (.int lb), .val (.int lc), .val (.int ld), .val (.int cc), .val (.int kk), .val (.ref ky), .val (.ref b3), .val (.int (mode &&& (3 : Int32))), .val (.ref b11), .val (.int (0 : Int32))] [(.int (1 : Int32))]))
              exact absurd he (fun (q : mkL c1 la = mkL cc lc ∧ mkL k1 lb = mkL kk ld) => hs1 q.1)
            · subst h19
              show Go p_ e_ bl_ _ (T19.setTop (mkF m_ 222 #[.val (.int c1), .val (.int k1), .val (.int c2), .val (.int k2), .val (.int lens), .val (.int mode), .val (.int la), .val (.int lb), .val (.int lc), .val (.int ld), .val (.int cc), .val (.int kk), .val (.ref ky), .val (.ref b3), .val (.int (mode &&& (3 : Int32))), .val (.ref b11), .val (.int (0 : Int32))] [(.int (0 : Int32))]))
              refine Go.st (fun _ => XS.iload W19.here W19.ex rfl (hb hby at_222) rfl) ?_
              show Go p_ e_ bl_ _ (T19.setTop (mkF m_ 224 #[.val (.int c1), .val (.int k1), .val (.int c2), .val (.int k2), .val (.int lens), .val (.int mode), .val (.int la), .val (.int lb), .val (.int lc), .val (.int ld), .val (.int cc), .val (.int kk), .val (.ref ky), .val (.ref b3), .val (.int (mode &&& (3 : Int32))), .val (.ref b11), .val (.int (0 : Int32))] [(.int (0 : Int32)), (.int (0 : Int32))]))
              refine Go.st (fun _ => XS.icmpNo W19.here W19.ex rfl (hb hby at_224) rfl (teq (rfl : (0 : Int32) = (0 : Int32))).2) ?_
              show Go p_ e_ bl_ _ (T19.setTop (mkF m_ 227 #[.val (.int c1), .val (.int k1), .val (.int c2), .val (.int k2), .val (.int lens), .val (.int mode), .val (.int la), .val (.int lb), .val (.int lc), .val (.int ld), .val (.int cc), .val (.int kk), .val (.ref ky), .val (.ref b3), .val (.int (mode &&& (3 : Int32))), .val (.ref b11), .val (.int (0 : Int32))] []))
              refine Go.st (fun _ => XS.aload W19.here W19.ex rfl (hb hby at_227) rfl rfl) ?_
              show Go p_ e_ bl_ _ (T19.setTop (mkF m_ 229 #[.val (.int c1), .val (.int k1), .val (.int c2), .val (.int k2), .val (.int lens), .val (.int mode), .val (.int la), .val (.int lb), .val (.int lc), .val (.int ld), .val (.int cc), .val (.int kk), .val (.ref ky), .val (.ref b3), .val (.int (mode &&& (3 : Int32))), .val (.ref b11), .val (.int (0 : Int32))] [(.ref b11)]))
              refine Go.st (fun _ => XS.aload W19.here W19.ex rfl (hb hby at_229) rfl rfl) ?_
              show Go p_ e_ bl_ _ (T19.setTop (mkF m_ 231 #[.val (.int c1), .val (.int k1), .val (.int c2), .val (.int k2), .val (.int lens), .val (.int mode), .val (.int la), .val (.int lb), .val (.int lc), .val (.int ld), .val (.int cc), .val (.int kk), .val (.ref ky), .val (.ref b3), .val (.int (mode &&& (3 : Int32))), .val (.ref b11), .val (.int (0 : Int32))] [(.ref b3), (.ref b11)]))
              refine W19.callV (y := (⟨"com/example/rudia/rudia/ScopedKey", "equals", "(Ljava/lang/Object;)Z"⟩ : MethodName)) (z := (⟨"com/example/rudia/rudia/ScopedKey", "equals", "(Ljava/lang/Object;)Z"⟩ : MethodName)) (cx.w 44 rfl) (cx.w 45 rfl) (cx.w 47 rfl) (cx.w 46 rfl) (cx.w 28 rfl) (cx.w 48 rfl) (W19.nf (cx.w 47 rfl)) (by decide) E_b11 (ct_eq cx W19.old b11 cz kz b3 cy ky tcz tkz tcy tky _ _ _ _ E_b11 F_client2 F_key2 E_b3 F_client1 F_key1 S_cz S_kz S_cy S_ky) all0 (by decide) (Wd := 0) (by decide) (k' := 34) (n' := 140) rfl rfl (by decide) (by decide) (by rw [hml]; rfl) (a := b11) (argsL := [(.ref b3)]) (rest := []) rfl (lenOf pd7 rfl) rfl (Nat.le_of_eq rfl) (hb hby at_231) ?_
              intro v20 vm20 T20 h20 L20 W20 q20
              rcases q20 with ⟨⟨rfl, hg⟩ | ⟨rfl, hg⟩, eh_⟩
              · subst h20
                show Go p_ e_ bl_ _ (T20.setTop (mkF m_ 234 #[.val (.int c1), .val (.int k1), .val (.int c2), .val (.int k2), .val (.int lens), .val (.int mode), .val (.int la), .val (.int lb), .val (.int lc), .val (.int ld), .val (.int cc), .val (.int kk), .val (.ref ky), .val (.ref b3), .val (.int (mode &&& (3 : Int32))), .val (.ref b11), .val (.int (0 : Int32))] [(.int (1 : Int32))]))
                exact absurd ⟨hg.1.symm, hg.2.symm⟩ (fun (q : mkL c1 la = mkL cc lc ∧ mkL k1 lb = mkL kk ld) => hs1 q.1)
              · subst h20
                show Go p_ e_ bl_ _ (T20.setTop (mkF m_ 234 #[.val (.int c1), .val (.int k1), .val (.int c2), .val (.int k2), .val (.int lens), .val (.int mode), .val (.int la), .val (.int lb), .val (.int lc), .val (.int ld), .val (.int cc), .val (.int kk), .val (.ref ky), .val (.ref b3), .val (.int (mode &&& (3 : Int32))), .val (.ref b11), .val (.int (0 : Int32))] [(.int (0 : Int32))]))
                refine Go.st (fun _ => XS.iload W20.here W20.ex rfl (hb hby at_234) rfl) ?_
                show Go p_ e_ bl_ _ (T20.setTop (mkF m_ 236 #[.val (.int c1), .val (.int k1), .val (.int c2), .val (.int k2), .val (.int lens), .val (.int mode), .val (.int la), .val (.int lb), .val (.int lc), .val (.int ld), .val (.int cc), .val (.int kk), .val (.ref ky), .val (.ref b3), .val (.int (mode &&& (3 : Int32))), .val (.ref b11), .val (.int (0 : Int32))] [(.int (0 : Int32)), (.int (0 : Int32))]))
                refine Go.st (fun _ => XS.icmpNo W20.here W20.ex rfl (hb hby at_236) rfl (teq (rfl : (0 : Int32) = (0 : Int32))).2) ?_
                show Go p_ e_ bl_ _ (T20.setTop (mkF m_ 239 #[.val (.int c1), .val (.int k1), .val (.int c2), .val (.int k2), .val (.int lens), .val (.int mode), .val (.int la), .val (.int lb), .val (.int lc), .val (.int ld), .val (.int cc), .val (.int kk), .val (.ref ky), .val (.ref b3), .val (.int (mode &&& (3 : Int32))), .val (.ref b11), .val (.int (0 : Int32))] []))
                refine Go.st (fun _ => XS.iconst W20.here W20.ex rfl (hb hby at_239)) ?_
                show Go p_ e_ bl_ _ (T20.setTop (mkF m_ 240 #[.val (.int c1), .val (.int k1), .val (.int c2), .val (.int k2), .val (.int lens), .val (.int mode), .val (.int la), .val (.int lb), .val (.int lc), .val (.int ld), .val (.int cc), .val (.int kk), .val (.ref ky), .val (.ref b3), .val (.int (mode &&& (3 : Int32))), .val (.ref b11), .val (.int (0 : Int32))] [(.int (1 : Int32))]))
                refine Go.st (fun _ => XS.goto W20.here W20.ex rfl (pc0 := 240) (pc' := 244) rfl (hb hby at_240) (by decide) (by decide)) ?_
                show Go p_ e_ bl_ _ (T20.setTop (mkF m_ 244 #[.val (.int c1), .val (.int k1), .val (.int c2), .val (.int k2), .val (.int lens), .val (.int mode), .val (.int la), .val (.int lb), .val (.int lc), .val (.int ld), .val (.int cc), .val (.int kk), .val (.ref ky), .val (.ref b3), .val (.int (mode &&& (3 : Int32))), .val (.ref b11), .val (.int (0 : Int32))] [(.int (1 : Int32))]))
                exact W20.retN hret (by simp) (hb hby at_244) (by decide) (by decide) fun _ _ => rfl
  by_cases hm2 : (((mode.toUInt32 >>> ((2 : Int32) &&& 31).toUInt32).toInt32) &&& (1 : Int32)) = (0 : Int32)
  · refine Go.st (fun _ => XS.ifYes W0.here W0.ex rfl (pc0 := 45) (pc' := 52) rfl (hb hby at_45) rfl ((if0 _ _).trans (teq (hm2 : (((mode.toUInt32 >>> ((2 : Int32) &&& 31).toUInt32).toInt32) &&& (1 : Int32)) = (0 : Int32))).1) (by decide) (by decide)) ?_
    show Go p_ e_ bl_ _ (T0.setTop (mkF m_ 52 #[.val (.int c1), .val (.int k1), .val (.int c2), .val (.int k2), .val (.int lens), .val (.int mode), .val (.int la), .val (.int lb), .val (.int lc), .val (.int ld), .unset, .unset, .unset, .unset, .unset, .unset, .unset] []))
    refine Go.st (fun _ => XS.iloadN W0.here W0.ex rfl (hb hby at_52) rfl) ?_
    show Go p_ e_ bl_ _ (T0.setTop (mkF m_ 53 #[.val (.int c1), .val (.int k1), .val (.int c2), .val (.int k2), .val (.int lens), .val (.int mode), .val (.int la), .val (.int lb), .val (.int lc), .val (.int ld), .unset, .unset, .unset, .unset, .unset, .unset, .unset] [(.int c2)]))
    refine Go.st (fun _ => XS.istore W0.here W0.ex rfl (hb hby at_53) rfl (l' := #[.val (.int c1), .val (.int k1), .val (.int c2), .val (.int k2), .val (.int lens), .val (.int mode), .val (.int la), .val (.int lb), .val (.int lc), .val (.int ld), .val (.int c2), .unset, .unset, .unset, .unset, .unset, .unset]) rfl) ?_
    show Go p_ e_ bl_ _ (T0.setTop (mkF m_ 55 #[.val (.int c1), .val (.int k1), .val (.int c2), .val (.int k2), .val (.int lens), .val (.int mode), .val (.int la), .val (.int lb), .val (.int lc), .val (.int ld), .val (.int c2), .unset, .unset, .unset, .unset, .unset, .unset] []))
    refine Go.st (fun _ => XS.iload W0.here W0.ex rfl (hb hby at_55) rfl) ?_
    show Go p_ e_ bl_ _ (T0.setTop (mkF m_ 57 #[.val (.int c1), .val (.int k1), .val (.int c2), .val (.int k2), .val (.int lens), .val (.int mode), .val (.int la), .val (.int lb), .val (.int lc), .val (.int ld), .val (.int c2), .unset, .unset, .unset, .unset, .unset, .unset] [(.int mode)]))
    refine Go.st (fun _ => XS.iconst W0.here W0.ex rfl (hb hby at_57)) ?_
    show Go p_ e_ bl_ _ (T0.setTop (mkF m_ 58 #[.val (.int c1), .val (.int k1), .val (.int c2), .val (.int k2), .val (.int lens), .val (.int mode), .val (.int la), .val (.int lb), .val (.int lc), .val (.int ld), .val (.int c2), .unset, .unset, .unset, .unset, .unset, .unset] [(.int (3 : Int32)), (.int mode)]))
    refine Go.st (fun _ => XS.iushr W0.here W0.ex rfl (hb hby at_58) rfl) ?_
    show Go p_ e_ bl_ _ (T0.setTop (mkF m_ 59 #[.val (.int c1), .val (.int k1), .val (.int c2), .val (.int k2), .val (.int lens), .val (.int mode), .val (.int la), .val (.int lb), .val (.int lc), .val (.int ld), .val (.int c2), .unset, .unset, .unset, .unset, .unset, .unset] [(.int ((mode.toUInt32 >>> ((3 : Int32) &&& 31).toUInt32).toInt32))]))
    refine Go.st (fun _ => XS.iconst W0.here W0.ex rfl (hb hby at_59)) ?_
    show Go p_ e_ bl_ _ (T0.setTop (mkF m_ 60 #[.val (.int c1), .val (.int k1), .val (.int c2), .val (.int k2), .val (.int lens), .val (.int mode), .val (.int la), .val (.int lb), .val (.int lc), .val (.int ld), .val (.int c2), .unset, .unset, .unset, .unset, .unset, .unset] [(.int (1 : Int32)), (.int ((mode.toUInt32 >>> ((3 : Int32) &&& 31).toUInt32).toInt32))]))
    refine Go.st (fun _ => XS.iand W0.here W0.ex rfl (hb hby at_60) rfl) ?_
    show Go p_ e_ bl_ _ (T0.setTop (mkF m_ 61 #[.val (.int c1), .val (.int k1), .val (.int c2), .val (.int k2), .val (.int lens), .val (.int mode), .val (.int la), .val (.int lb), .val (.int lc), .val (.int ld), .val (.int c2), .unset, .unset, .unset, .unset, .unset, .unset] [(.int (((mode.toUInt32 >>> ((3 : Int32) &&& 31).toUInt32).toInt32) &&& (1 : Int32)))]))
    by_cases hm3 : (((mode.toUInt32 >>> ((3 : Int32) &&& 31).toUInt32).toInt32) &&& (1 : Int32)) = (0 : Int32)
    · refine Go.st (fun _ => XS.ifYes W0.here W0.ex rfl (pc0 := 61) (pc' := 68) rfl (hb hby at_61) rfl ((if0 _ _).trans (teq (hm3 : (((mode.toUInt32 >>> ((3 : Int32) &&& 31).toUInt32).toInt32) &&& (1 : Int32)) = (0 : Int32))).1) (by decide) (by decide)) ?_
      show Go p_ e_ bl_ _ (T0.setTop (mkF m_ 68 #[.val (.int c1), .val (.int k1), .val (.int c2), .val (.int k2), .val (.int lens), .val (.int mode), .val (.int la), .val (.int lb), .val (.int lc), .val (.int ld), .val (.int c2), .unset, .unset, .unset, .unset, .unset, .unset] []))
      refine Go.st (fun _ => XS.iloadN W0.here W0.ex rfl (hb hby at_68) rfl) ?_
      show Go p_ e_ bl_ _ (T0.setTop (mkF m_ 69 #[.val (.int c1), .val (.int k1), .val (.int c2), .val (.int k2), .val (.int lens), .val (.int mode), .val (.int la), .val (.int lb), .val (.int lc), .val (.int ld), .val (.int c2), .unset, .unset, .unset, .unset, .unset, .unset] [(.int k2)]))
      refine Go.st (fun _ => XS.istore W0.here W0.ex rfl (hb hby at_69) rfl (l' := #[.val (.int c1), .val (.int k1), .val (.int c2), .val (.int k2), .val (.int lens), .val (.int mode), .val (.int la), .val (.int lb), .val (.int lc), .val (.int ld), .val (.int c2), .val (.int k2), .unset, .unset, .unset, .unset, .unset]) rfl) ?_
      show Go p_ e_ bl_ _ (T0.setTop (mkF m_ 71 #[.val (.int c1), .val (.int k1), .val (.int c2), .val (.int k2), .val (.int lens), .val (.int mode), .val (.int la), .val (.int lb), .val (.int lc), .val (.int ld), .val (.int c2), .val (.int k2), .unset, .unset, .unset, .unset, .unset] []))
      exact rest c2 k2
    · refine Go.st (fun _ => XS.ifNo W0.here W0.ex rfl (hb hby at_61) rfl ((if0 _ _).trans (feq (hm3 : ¬ ((((mode.toUInt32 >>> ((3 : Int32) &&& 31).toUInt32).toInt32) &&& (1 : Int32)) = (0 : Int32)))).1)) ?_
      show Go p_ e_ bl_ _ (T0.setTop (mkF m_ 64 #[.val (.int c1), .val (.int k1), .val (.int c2), .val (.int k2), .val (.int lens), .val (.int mode), .val (.int la), .val (.int lb), .val (.int lc), .val (.int ld), .val (.int c2), .unset, .unset, .unset, .unset, .unset, .unset] []))
      refine Go.st (fun _ => XS.iloadN W0.here W0.ex rfl (hb hby at_64) rfl) ?_
      show Go p_ e_ bl_ _ (T0.setTop (mkF m_ 65 #[.val (.int c1), .val (.int k1), .val (.int c2), .val (.int k2), .val (.int lens), .val (.int mode), .val (.int la), .val (.int lb), .val (.int lc), .val (.int ld), .val (.int c2), .unset, .unset, .unset, .unset, .unset, .unset] [(.int k1)]))
      refine Go.st (fun _ => XS.goto W0.here W0.ex rfl (pc0 := 65) (pc' := 69) rfl (hb hby at_65) (by decide) (by decide)) ?_
      show Go p_ e_ bl_ _ (T0.setTop (mkF m_ 69 #[.val (.int c1), .val (.int k1), .val (.int c2), .val (.int k2), .val (.int lens), .val (.int mode), .val (.int la), .val (.int lb), .val (.int lc), .val (.int ld), .val (.int c2), .unset, .unset, .unset, .unset, .unset, .unset] [(.int k1)]))
      refine Go.st (fun _ => XS.istore W0.here W0.ex rfl (hb hby at_69) rfl (l' := #[.val (.int c1), .val (.int k1), .val (.int c2), .val (.int k2), .val (.int lens), .val (.int mode), .val (.int la), .val (.int lb), .val (.int lc), .val (.int ld), .val (.int c2), .val (.int k1), .unset, .unset, .unset, .unset, .unset]) rfl) ?_
      show Go p_ e_ bl_ _ (T0.setTop (mkF m_ 71 #[.val (.int c1), .val (.int k1), .val (.int c2), .val (.int k2), .val (.int lens), .val (.int mode), .val (.int la), .val (.int lb), .val (.int lc), .val (.int ld), .val (.int c2), .val (.int k1), .unset, .unset, .unset, .unset, .unset] []))
      exact rest c2 k1
  · refine Go.st (fun _ => XS.ifNo W0.here W0.ex rfl (hb hby at_45) rfl ((if0 _ _).trans (feq (hm2 : ¬ ((((mode.toUInt32 >>> ((2 : Int32) &&& 31).toUInt32).toInt32) &&& (1 : Int32)) = (0 : Int32)))).1)) ?_
    show Go p_ e_ bl_ _ (T0.setTop (mkF m_ 48 #[.val (.int c1), .val (.int k1), .val (.int c2), .val (.int k2), .val (.int lens), .val (.int mode), .val (.int la), .val (.int lb), .val (.int lc), .val (.int ld), .unset, .unset, .unset, .unset, .unset, .unset, .unset] []))
    refine Go.st (fun _ => XS.iloadN W0.here W0.ex rfl (hb hby at_48) rfl) ?_
    show Go p_ e_ bl_ _ (T0.setTop (mkF m_ 49 #[.val (.int c1), .val (.int k1), .val (.int c2), .val (.int k2), .val (.int lens), .val (.int mode), .val (.int la), .val (.int lb), .val (.int lc), .val (.int ld), .unset, .unset, .unset, .unset, .unset, .unset, .unset] [(.int c1)]))
    refine Go.st (fun _ => XS.goto W0.here W0.ex rfl (pc0 := 49) (pc' := 53) rfl (hb hby at_49) (by decide) (by decide)) ?_
    show Go p_ e_ bl_ _ (T0.setTop (mkF m_ 53 #[.val (.int c1), .val (.int k1), .val (.int c2), .val (.int k2), .val (.int lens), .val (.int mode), .val (.int la), .val (.int lb), .val (.int lc), .val (.int ld), .unset, .unset, .unset, .unset, .unset, .unset, .unset] [(.int c1)]))
    refine Go.st (fun _ => XS.istore W0.here W0.ex rfl (hb hby at_53) rfl (l' := #[.val (.int c1), .val (.int k1), .val (.int c2), .val (.int k2), .val (.int lens), .val (.int mode), .val (.int la), .val (.int lb), .val (.int lc), .val (.int ld), .val (.int c1), .unset, .unset, .unset, .unset, .unset, .unset]) rfl) ?_
    show Go p_ e_ bl_ _ (T0.setTop (mkF m_ 55 #[.val (.int c1), .val (.int k1), .val (.int c2), .val (.int k2), .val (.int lens), .val (.int mode), .val (.int la), .val (.int lb), .val (.int lc), .val (.int ld), .val (.int c1), .unset, .unset, .unset, .unset, .unset, .unset] []))
    refine Go.st (fun _ => XS.iload W0.here W0.ex rfl (hb hby at_55) rfl) ?_
    show Go p_ e_ bl_ _ (T0.setTop (mkF m_ 57 #[.val (.int c1), .val (.int k1), .val (.int c2), .val (.int k2), .val (.int lens), .val (.int mode), .val (.int la), .val (.int lb), .val (.int lc), .val (.int ld), .val (.int c1), .unset, .unset, .unset, .unset, .unset, .unset] [(.int mode)]))
    refine Go.st (fun _ => XS.iconst W0.here W0.ex rfl (hb hby at_57)) ?_
    show Go p_ e_ bl_ _ (T0.setTop (mkF m_ 58 #[.val (.int c1), .val (.int k1), .val (.int c2), .val (.int k2), .val (.int lens), .val (.int mode), .val (.int la), .val (.int lb), .val (.int lc), .val (.int ld), .val (.int c1), .unset, .unset, .unset, .unset, .unset, .unset] [(.int (3 : Int32)), (.int mode)]))
    refine Go.st (fun _ => XS.iushr W0.here W0.ex rfl (hb hby at_58) rfl) ?_
    show Go p_ e_ bl_ _ (T0.setTop (mkF m_ 59 #[.val (.int c1), .val (.int k1), .val (.int c2), .val (.int k2), .val (.int lens), .val (.int mode), .val (.int la), .val (.int lb), .val (.int lc), .val (.int ld), .val (.int c1), .unset, .unset, .unset, .unset, .unset, .unset] [(.int ((mode.toUInt32 >>> ((3 : Int32) &&& 31).toUInt32).toInt32))]))
    refine Go.st (fun _ => XS.iconst W0.here W0.ex rfl (hb hby at_59)) ?_
    show Go p_ e_ bl_ _ (T0.setTop (mkF m_ 60 #[.val (.int c1), .val (.int k1), .val (.int c2), .val (.int k2), .val (.int lens), .val (.int mode), .val (.int la), .val (.int lb), .val (.int lc), .val (.int ld), .val (.int c1), .unset, .unset, .unset, .unset, .unset, .unset] [(.int (1 : Int32)), (.int ((mode.toUInt32 >>> ((3 : Int32) &&& 31).toUInt32).toInt32))]))
    refine Go.st (fun _ => XS.iand W0.here W0.ex rfl (hb hby at_60) rfl) ?_
    show Go p_ e_ bl_ _ (T0.setTop (mkF m_ 61 #[.val (.int c1), .val (.int k1), .val (.int c2), .val (.int k2), .val (.int lens), .val (.int mode), .val (.int la), .val (.int lb), .val (.int lc), .val (.int ld), .val (.int c1), .unset, .unset, .unset, .unset, .unset, .unset] [(.int (((mode.toUInt32 >>> ((3 : Int32) &&& 31).toUInt32).toInt32) &&& (1 : Int32)))]))
    by_cases hm3 : (((mode.toUInt32 >>> ((3 : Int32) &&& 31).toUInt32).toInt32) &&& (1 : Int32)) = (0 : Int32)
    · refine Go.st (fun _ => XS.ifYes W0.here W0.ex rfl (pc0 := 61) (pc' := 68) rfl (hb hby at_61) rfl ((if0 _ _).trans (teq (hm3 : (((mode.toUInt32 >>> ((3 : Int32) &&& 31).toUInt32).toInt32) &&& (1 : Int32)) = (0 : Int32))).1) (by decide) (by decide)) ?_
      show Go p_ e_ bl_ _ (T0.setTop (mkF m_ 68 #[.val (.int c1), .val (.int k1), .val (.int c2), .val (.int k2), .val (.int lens), .val (.int mode), .val (.int la), .val (.int lb), .val (.int lc), .val (.int ld), .val (.int c1), .unset, .unset, .unset, .unset, .unset, .unset] []))
      refine Go.st (fun _ => XS.iloadN W0.here W0.ex rfl (hb hby at_68) rfl) ?_
      show Go p_ e_ bl_ _ (T0.setTop (mkF m_ 69 #[.val (.int c1), .val (.int k1), .val (.int c2), .val (.int k2), .val (.int lens), .val (.int mode), .val (.int la), .val (.int lb), .val (.int lc), .val (.int ld), .val (.int c1), .unset, .unset, .unset, .unset, .unset, .unset] [(.int k2)]))
      refine Go.st (fun _ => XS.istore W0.here W0.ex rfl (hb hby at_69) rfl (l' := #[.val (.int c1), .val (.int k1), .val (.int c2), .val (.int k2), .val (.int lens), .val (.int mode), .val (.int la), .val (.int lb), .val (.int lc), .val (.int ld), .val (.int c1), .val (.int k2), .unset, .unset, .unset, .unset, .unset]) rfl) ?_
      show Go p_ e_ bl_ _ (T0.setTop (mkF m_ 71 #[.val (.int c1), .val (.int k1), .val (.int c2), .val (.int k2), .val (.int lens), .val (.int mode), .val (.int la), .val (.int lb), .val (.int lc), .val (.int ld), .val (.int c1), .val (.int k2), .unset, .unset, .unset, .unset, .unset] []))
      exact rest c1 k2
    · refine Go.st (fun _ => XS.ifNo W0.here W0.ex rfl (hb hby at_61) rfl ((if0 _ _).trans (feq (hm3 : ¬ ((((mode.toUInt32 >>> ((3 : Int32) &&& 31).toUInt32).toInt32) &&& (1 : Int32)) = (0 : Int32)))).1)) ?_
      show Go p_ e_ bl_ _ (T0.setTop (mkF m_ 64 #[.val (.int c1), .val (.int k1), .val (.int c2), .val (.int k2), .val (.int lens), .val (.int mode), .val (.int la), .val (.int lb), .val (.int lc), .val (.int ld), .val (.int c1), .unset, .unset, .unset, .unset, .unset, .unset] []))
      refine Go.st (fun _ => XS.iloadN W0.here W0.ex rfl (hb hby at_64) rfl) ?_
      show Go p_ e_ bl_ _ (T0.setTop (mkF m_ 65 #[.val (.int c1), .val (.int k1), .val (.int c2), .val (.int k2), .val (.int lens), .val (.int mode), .val (.int la), .val (.int lb), .val (.int lc), .val (.int ld), .val (.int c1), .unset, .unset, .unset, .unset, .unset, .unset] [(.int k1)]))
      refine Go.st (fun _ => XS.goto W0.here W0.ex rfl (pc0 := 65) (pc' := 69) rfl (hb hby at_65) (by decide) (by decide)) ?_
      show Go p_ e_ bl_ _ (T0.setTop (mkF m_ 69 #[.val (.int c1), .val (.int k1), .val (.int c2), .val (.int k2), .val (.int lens), .val (.int mode), .val (.int la), .val (.int lb), .val (.int lc), .val (.int ld), .val (.int c1), .unset, .unset, .unset, .unset, .unset, .unset] [(.int k1)]))
      refine Go.st (fun _ => XS.istore W0.here W0.ex rfl (hb hby at_69) rfl (l' := #[.val (.int c1), .val (.int k1), .val (.int c2), .val (.int k2), .val (.int lens), .val (.int mode), .val (.int la), .val (.int lb), .val (.int lc), .val (.int ld), .val (.int c1), .val (.int k1), .unset, .unset, .unset, .unset, .unset]) rfl) ?_
      show Go p_ e_ bl_ _ (T0.setTop (mkF m_ 71 #[.val (.int c1), .val (.int k1), .val (.int c2), .val (.int k2), .val (.int lens), .val (.int mode), .val (.int la), .val (.int lb), .val (.int lc), .val (.int ld), .val (.int c1), .val (.int k1), .unset, .unset, .unset, .unset, .unset] []))
      exact rest c1 k1
set_option maxRecDepth 65536 in
set_option maxHeartbeats 40000000 in
theorem comes_1 {Post : Tables → Env → Array Value → State → Outcome → State → Prop} (hpost : ∀ tb e args s v u, (limb_1_1.after args s (.returned v) u = true ∧ limb_1_2.after args s (.returned v) u = true ∧ True) → FramedW s (.returned v) u (Jvm.fieldLocs frame_1_writes args s ++ Jvm.arrayLocs frame_1_arrays args s ++ Jvm.staticLocs frame_1_statics s) 40 3264 → Post tb e args s (.returned v) u) :
    ArmFor flags0 classFile x code maxLocals ret World_1 tables_1 room_1 Calls_1 rest_1 Pre_1 Post := by
  intro l hfl _ _ p e ha hc hk s m args below hf hA hF happ hP
  obtain ⟨hcalls, hrest, hpre⟩ := hP
  obtain ⟨-, -, -, hnamed, -, -, -, hat⟩ := (Spec.applies_iff hf).mp happ
  obtain ⟨hg, hn⟩ := and_e (Cond.before_iff.mp (show (Jvm.Cond.and given_1 narrow_1).before args s = true from hpre))
  obtain ⟨c0, r0⟩ := and_e hg
  obtain ⟨c1, r1⟩ := and_e r0
  obtain ⟨c2, r2⟩ := and_e r1
  obtain ⟨c3, r3⟩ := and_e r2
  obtain ⟨c4, r4⟩ := and_e r3
  obtain ⟨c5, r5⟩ := and_e r4
  obtain ⟨w0, w1, w2, w3, w4, w5, rfl⟩ : ∃ w0 w1 w2 w3 w4 w5 : Value, args = #[w0, w1, w2, w3, w4, w5] := by
    have hs : args.size = 6 := by simpa [Cond.value, given_1] using c0
    obtain ⟨L⟩ := args
    match L, hs with
    | [w0, w1, w2, w3, w4, w5], _ => exact ⟨w0, w1, w2, w3, w4, w5, rfl⟩
  have hw := fun d (hd : d ∈ tables_1) => atoms_spec (ws := Jvm.Cond.code x code maxLocals ret :: tables_1) hat d (List.mem_cons_of_mem _ hd)
  obtain ⟨hsets, hown0⟩ := atoms_of _ (rest_1_c_eq ▸ (show rest_1_c.before _ s = true from hrest))
  have hr0 := Cond.before_iff.mp hown0
  have hfit : Fit s := fun {y c} hc i hi => by
    obtain ⟨ha, rfl⟩ := Array.getElem?_eq_some_iff.mp hc
    have q := List.all_eq_true.mp ((Array.all_eq_true_iff_forall_mem.mp hF) _ (Array.getElem_mem ha)) i (List.mem_range.mpr hi)
    simpa [Array.getElem?_eq_getElem hi] using q
  obtain ⟨i0, ei0⟩ := is_v c1
  obtain rfl : w0 = (.int i0) := Option.some.inj ei0
  obtain ⟨i1, ei1⟩ := is_v c2
  obtain rfl : w1 = (.int i1) := Option.some.inj ei1
  obtain ⟨i2, ei2⟩ := is_v c3
  obtain rfl : w2 = (.int i2) := Option.some.inj ei2
  obtain ⟨i3, ei3⟩ := is_v c4
  obtain rfl : w3 = (.int i3) := Option.some.inj ei3
  obtain ⟨i4, ei4⟩ := is_v c5
  obtain rfl : w4 = (.int i4) := Option.some.inj ei4
  obtain ⟨i5, ei5⟩ := is_v r5
  obtain rfl : w5 = (.int i5) := Option.some.inj ei5
  have nz := not_v (Cond.before_iff.mp (hsets _ (List.mem_of_getElem? (i := 2) rfl)))
  obtain ⟨g1, eg1⟩ := is_v (Cond.before_iff.mp (hsets _ (List.mem_of_getElem? (i := 1) rfl)))
  have S1 : Sta s s.heap "java/lang/String" "COMPACT_STRINGS" "Z" (.int g1) := Sta.start eg1 (Or.inl (hsets _ (List.mem_of_getElem? (i := 0) rfl)))
  have hg1 : ¬ (g1 = (0 : Int32)) := gotF (Cond.eq_ints eg1 (Term.int_eval (0))) nz
  have hew : EW s #[Value.int i0, Value.int i1, Value.int i2, Value.int i3, Value.int i4, Value.int i5] consts_1 := (EW.cons (hw _ (List.mem_of_getElem? (i := 33) rfl)) (by decide) (EW.cons (hw _ (List.mem_of_getElem? (i := 41) rfl)) (by decide) (EW.cons (hw _ (List.mem_of_getElem? (i := 18) rfl)) (by decide) EW.nil)))
  have hcw : Jvm.Lit.compactW.before #[Value.int i0, Value.int i1, Value.int i2, Value.int i3, Value.int i4, Value.int i5] s = true := (hsets _ (List.mem_of_getElem? (i := 2) rfl))
  have hcv : CHv s consts_1 s.vm s.heap := CHv.start hew (fun p hp => hcalls.1 p hp) hcw (hw _ (List.mem_of_getElem? (i := 19) rfl)) (hw _ (List.mem_of_getElem? (i := 5) rfl))
  have cx : Ctx s _ s.heap.size g1 := ⟨hw, hew, S1, hg1, trivial⟩
  obtain ⟨n, o, h1, h2, h3, _, L, rfl, ⟨rfl, N, -⟩, -, hq⟩ := ct_law (l := l) cx (Old.start s) i0 i1 i2 i3 i4 i5 p e ha hc hk s m _ below hf ((Spec.applies_iff_loose hf).mp happ).1 ⟨rfl, State.Warmed39.refl s, rfl, hcv, all0⟩ trivial
  refine ⟨n, _, h1, h2, h3, hpost _ _ _ _ _ _ ⟨Cond.after_iff.mpr rfl, Cond.after_iff.mpr (eq_i res_at (Term.int_eval (1)) rfl), trivial⟩ ⟨hq.1, hq.2.1, hq.2.2.1, (hq.2.2.2.sift fun y hy => Or.inr (N y hy)).mono (by decide) (by decide)⟩⟩
theorem main_1_1 : Claimed_1_1 := comes_1 fun _ _ _ _ _ _ h hF => ⟨h.1, hF⟩
theorem main_1_2 : Claimed_1_2 := comes_1 fun _ _ _ _ _ _ h hF => ⟨h.2.1, hF⟩
end Jvm.Pilot.@@N@@
namespace Jvm.Pilot.@@N@@
open Jvm Jvm.ClassFile Sem Op Lib Jvm.Free Jvm.Stand Jvm.Pilot.@@N@@.Jvm.D
/-! MADE BY PROGRAM (witnessworld.py) out of the Statement's table words and the real class files: 21 classes; the members and pool entries that the words name. The judged class is class 1, her method 3. -/
namespace start1
open Jvm.ClassFile
def u (s : String) : CpInfo := .utf8 (stringToUtf16 s)
/-- a pool by its gaps: so many unusable entries, then the entry; so many at the end -/
def gap : Nat → List CpInfo → List CpInfo
  | 0, r => r
  | n + 1, r => .unusable :: gap n r
def poolList (es : List (Nat × CpInfo)) (last : Nat) : List CpInfo := es.foldr (fun e r => gap e.1 (e.2 :: r)) (gap last [])
def pool (es : List (Nat × CpInfo)) (last : Nat) : Array CpInfo := ⟨poolList es last⟩
def fileOf (pool : Array CpInfo) (this : Nat) (attrs : Array Attribute := #[]) (ms : Array MethodInfo := #[]) (fl : Nat := 33) (sup : Nat := 0) (ifs : Array Nat := #[]) (fds : Array FieldInfo := #[]) : ClassFile where
  minorVersion := 0
  majorVersion := 65
  constantPool := pool
  accessFlags := fl
  thisClass := this
  superClass := sup
  interfaces := ifs
  fields := fds
  methods := ms
  attributes := attrs
def plain (name : String) (sup : Option ClassId) : Class where
  name := name
  kind := .ordinary
  loader := none
  accessFlags := 33
  super := sup
  interfaces := #[]
  cf := none
  fields := #[]
  methods := #[]
  instanceTypes := #[]
  staticTypes := #[]
  resolved := #[]
  callSites := []
  init := .initialized
  statics := none
  mirror := none

def pool0 : Array CpInfo := pool [(5, u "<init>"), (0, u "()V"), (1, .class_ 10), (1, u "java/lang/Object")] 113

def k0c0 : Code := { maxStack := 0, maxLocals := 1, code := object_method_1_code, exceptionTable := #[], attributes := #[] }
def k0m0 : Method := { name := "<init>", desc := "()V", sig := { parameters := [], returnType := none }, accessFlags := 1, code := some k0c0 }
/-- java/lang/Object -/
def k0 : Class := { plain "java/lang/Object" none with
  accessFlags := 33
  interfaces := #[]
  cf := some (fileOf pool0 8 #[] #[{ accessFlags := 1, nameIndex := 5, descriptorIndex := 6, attributes := #[] }] 33 0 #[] #[])
  fields := #[]
  methods := #[k0m0]
  instanceTypes := #[]
  staticTypes := #[]
  resolved := Array.replicate 124 none
  statics := none }

def pool1 : Array CpInfo := pool [(2, .class_ 4), (1, u "java/lang/Object"), (0, u "<init>"), (0, u "()V"), (0, .class_ 8), (0, u "java/lang/String"), (0, .methodref 7 10), (0, .nameAndType 5 11), (0, u "([C)V"), (0, .methodref 7 13), (0, .nameAndType 14 15), (0, u "valueOf"), (0, u "(C)Ljava/lang/String;"), (0, .methodref 17 18), (0, .class_ 19), (0, .nameAndType 20 21), (0, u "com/example/rudia/rudia/ScopedKeyEqualsPinLaw"), (0, u "mk"), (0, u "(II)Ljava/lang/String;"), (0, .class_ 23), (0, u "com/example/rudia/rudia/ScopedKey"), (0, .methodref 22 25), (0, .nameAndType 5 26), (0, u "(Ljava/lang/String;Ljava/lang/String;)V"), (0, .methodref 22 28), (0, .nameAndType 29 30), (0, u "equals"), (0, u "(Ljava/lang/Object;)Z"), (0, .methodref 17 32), (0, .nameAndType 33 34), (0, u "same"), (0, u "(IIII)Z"), (3, u "law"), (0, u "(IIIIII)Z")] 2

def k1m0 : Method := { name := "<init>", desc := "()V", sig := { parameters := [], returnType := none }, accessFlags := 1, code := none }
def k1c1 : Code := { maxStack := 6, maxLocals := 4, code := method_2_code, exceptionTable := #[], attributes := #[] }
def k1m1 : Method := { name := "mk", desc := "(II)Ljava/lang/String;", sig := { parameters := [.int, .int], returnType := some (.object "java/lang/String") }, accessFlags := 10, code := some k1c1 }
def k1c2 : Code := { maxStack := 3, maxLocals := 4, code := method_3_code, exceptionTable := #[], attributes := #[] }
def k1m2 : Method := { name := "same", desc := "(IIII)Z", sig := { parameters := [.int, .int, .int, .int], returnType := some .boolean }, accessFlags := 10, code := some k1c2 }
def k1c3 : Code := { maxStack := 5, maxLocals := 17, code := code, exceptionTable := #[], attributes := #[] }
def k1m3 : Method := { name := "law", desc := "(IIIIII)Z", sig := { parameters := [.int, .int, .int, .int, .int, .int], returnType := some .boolean }, accessFlags := 9, code := some k1c3 }
/-- com/example/rudia/rudia/ScopedKeyEqualsPinLaw -/
def k1 : Class := { plain "com/example/rudia/rudia/ScopedKeyEqualsPinLaw" (some 0) with
  accessFlags := 49
  interfaces := #[]
  cf := some (fileOf pool1 17 #[] #[{ accessFlags := 1, nameIndex := 5, descriptorIndex := 6, attributes := #[] }, { accessFlags := 10, nameIndex := 20, descriptorIndex := 21, attributes := #[] }, { accessFlags := 10, nameIndex := 33, descriptorIndex := 34, attributes := #[] }, { accessFlags := 9, nameIndex := 38, descriptorIndex := 39, attributes := #[] }] 49 2 #[] #[])
  fields := #[]
  methods := #[k1m0, k1m1, k1m2, k1m3]
  instanceTypes := #[]
  staticTypes := #[]
  resolved := Array.replicate 42 none
  statics := none }

def pool2 : Array CpInfo := pool [(1, .class_ 2), (0, u "java/io/Serializable"), (0, .class_ 4), (0, u "java/lang/Object")] 2

/-- java/io/Serializable -/
def k2 : Class := { plain "java/io/Serializable" (some 0) with
  accessFlags := 1537
  interfaces := #[]
  cf := some (fileOf pool2 1 #[] #[] 1537 3 #[] #[])
  fields := #[]
  methods := #[]
  instanceTypes := #[]
  staticTypes := #[]
  resolved := Array.replicate 7 none
  statics := none }

def pool3 : Array CpInfo := pool [(1, .class_ 2), (0, u "java/lang/Comparable"), (0, .class_ 4), (0, u "java/lang/Object")] 7

/-- java/lang/Comparable -/
def k3 : Class := { plain "java/lang/Comparable" (some 0) with
  accessFlags := 1537
  interfaces := #[]
  cf := some (fileOf pool3 1 #[] #[] 1537 3 #[] #[])
  fields := #[]
  methods := #[]
  instanceTypes := #[]
  staticTypes := #[]
  resolved := Array.replicate 12 none
  statics := none }

def pool4 : Array CpInfo := pool [(2, .class_ 4), (1, u "java/lang/CharSequence"), (42, .class_ 48), (0, u "java/lang/CharSequence$1CodePointIterator"), (10, .class_ 60), (0, u "java/lang/CharSequence$1CharIterator"), (5, .class_ 67), (0, u "java/lang/Object")] 63

/-- java/lang/CharSequence -/
def k4 : Class := { plain "java/lang/CharSequence" (some 0) with
  accessFlags := 1537
  interfaces := #[]
  cf := some (fileOf pool4 2 #[.nestMembers #[47, 59]] #[] 1537 66 #[] #[])
  fields := #[]
  methods := #[]
  instanceTypes := #[]
  staticTypes := #[]
  resolved := Array.replicate 131 none
  statics := none }

def pool5 : Array CpInfo := pool [(1, .class_ 2), (0, u "java/lang/constant/Constable"), (0, .class_ 4), (0, u "java/lang/Object")] 6

/-- java/lang/constant/Constable -/
def k5 : Class := { plain "java/lang/constant/Constable" (some 0) with
  accessFlags := 1537
  interfaces := #[]
  cf := some (fileOf pool5 1 #[] #[] 1537 3 #[] #[])
  fields := #[]
  methods := #[]
  instanceTypes := #[]
  staticTypes := #[]
  resolved := Array.replicate 11 none
  statics := none }

def pool6 : Array CpInfo := pool [(1, .class_ 2), (0, u "java/lang/constant/ConstantDesc"), (0, .class_ 4), (0, u "java/lang/Object")] 32

/-- java/lang/constant/ConstantDesc -/
def k6 : Class := { plain "java/lang/constant/ConstantDesc" (some 0) with
  accessFlags := 1537
  interfaces := #[]
  cf := some (fileOf pool6 1 #[] #[] 1537 3 #[] #[])
  fields := #[]
  methods := #[]
  instanceTypes := #[]
  staticTypes := #[]
  resolved := Array.replicate 37 none
  statics := none }

def pool7 : Array CpInfo := pool [(1, .methodref 2 3), (0, .class_ 4), (0, .nameAndType 5 6), (0, u "java/lang/Object"), (0, u "<init>"), (0, u "()V"), (0, .string 8), (0, u ""), (0, .fieldref 10 11), (0, .class_ 12), (0, .nameAndType 13 14), (0, u "java/lang/String"), (0, u "value"), (0, u "[B"), (0, .fieldref 10 16), (0, .nameAndType 17 18), (0, u "coder"), (0, u "B"), (2, u "hash"), (0, u "I"), (2, u "hashIsZero"), (0, u "Z"), (0, .methodref 10 28), (0, .nameAndType 5 29), (0, u "([CIILjava/lang/Void;)V"), (8, .fieldref 10 39), (0, .nameAndType 40 26), (0, u "COMPACT_STRINGS"), (1, .class_ 44), (1, u "java/lang/StringUTF16"), (0, u "compress"), (1, .methodref 42 48), (0, .nameAndType 49 50), (0, u "coderFromArrayLen"), (0, u "([BI)B"), (2, u "toBytes"), (53, .class_ 109), (1, u "java/lang/StringLatin1"), (67, .methodref 42 178), (0, .nameAndType 45 179), (0, u "([CII)[B"), (29, .methodref 10 210), (0, .nameAndType 5 211), (0, u "([BB)V"), (157, u "(C)Z"), (171, .methodref 107 542), (0, .nameAndType 543 544), (0, u "equals"), (0, u "([B[B)Z"), (28, u "(Ljava/lang/Object;)Z"), (1, .class_ 576), (0, u "java/lang/CharSequence"), (22, u "CASE_INSENSITIVE_ORDER"), (0, u "Ljava/util/Comparator;"), (181, u "valueOf"), (0, u "(C)Ljava/lang/String;"), (226, u "([C)V"), (4, .methodref 107 1016), (0, .nameAndType 1017 369), (0, u "canEncode"), (0, .methodref 107 1019), (0, .nameAndType 53 1020), (0, u "(C)[B"), (80, u "serialPersistentFields"), (0, u "[Ljava/io/ObjectStreamField;"), (0, .class_ 1104), (0, u "java/lang/String$CaseInsensitiveComparator"), (1, .class_ 1107), (0, u "java/io/Serializable"), (0, .class_ 1109), (0, u "java/lang/Comparable"), (0, .class_ 1111), (0, u "java/lang/constant/Constable"), (0, .class_ 1113), (0, u "java/lang/constant/ConstantDesc"), (2, u "serialVersionUID"), (0, u "J"), (3, u "REPL"), (0, u "C"), (2, u "LATIN1"), (1, u "UTF16")] 323

def k7m0 : Method := { name := "<init>", desc := "()V", sig := { parameters := [], returnType := none }, accessFlags := 1, code := none }
def k7c1 : Code := { maxStack := 5, maxLocals := 2, code := jdk_42_method_3_code, exceptionTable := #[], attributes := #[] }
def k7m1 : Method := { name := "<init>", desc := "([C)V", sig := { parameters := [(.array .char)], returnType := none }, accessFlags := 1, code := some k7c1 }
def k7c2 : Code := { maxStack := 2, maxLocals := 3, code := jdk_42_method_66_code, exceptionTable := #[], attributes := #[] }
def k7m2 : Method := { name := "equals", desc := "(Ljava/lang/Object;)Z", sig := { parameters := [(.object "java/lang/Object")], returnType := some .boolean }, accessFlags := 1, code := some k7c2 }
def k7c3 : Code := { maxStack := 4, maxLocals := 1, code := jdk_42_method_139_code, exceptionTable := #[], attributes := #[] }
def k7m3 : Method := { name := "valueOf", desc := "(C)Ljava/lang/String;", sig := { parameters := [.char], returnType := some (.object "java/lang/String") }, accessFlags := 9, code := some k7c3 }
def k7c4 : Code := { maxStack := 4, maxLocals := 6, code := jdk_42_method_149_code, exceptionTable := #[], attributes := #[] }
def k7m4 : Method := { name := "<init>", desc := "([CIILjava/lang/Void;)V", sig := { parameters := [(.array .char), .int, .int, (.object "java/lang/Void")], returnType := none }, accessFlags := 2, code := some k7c4 }
def k7c5 : Code := { maxStack := 2, maxLocals := 3, code := jdk_42_method_151_code, exceptionTable := #[], attributes := #[] }
def k7m5 : Method := { name := "<init>", desc := "([BB)V", sig := { parameters := [(.array .byte), .byte], returnType := none }, accessFlags := 0, code := some k7c5 }
/-- java/lang/String -/
def k7 : Class := { plain "java/lang/String" (some 0) with
  accessFlags := 49
  interfaces := #[2, 3, 4, 5, 6]
  cf := some (fileOf pool7 10 #[.nestMembers #[1103]] #[{ accessFlags := 1, nameIndex := 5, descriptorIndex := 6, attributes := #[] }, { accessFlags := 1, nameIndex := 5, descriptorIndex := 1010, attributes := #[] }, { accessFlags := 1, nameIndex := 543, descriptorIndex := 573, attributes := #[] }, { accessFlags := 9, nameIndex := 782, descriptorIndex := 783, attributes := #[] }, { accessFlags := 2, nameIndex := 5, descriptorIndex := 29, attributes := #[] }, { accessFlags := 0, nameIndex := 5, descriptorIndex := 211, attributes := #[] }] 49 2 #[1106, 1108, 575, 1110, 1112] #[{ accessFlags := 18, nameIndex := 13, descriptorIndex := 14, attributes := #[] }, { accessFlags := 18, nameIndex := 17, descriptorIndex := 18, attributes := #[] }, { accessFlags := 2, nameIndex := 21, descriptorIndex := 22, attributes := #[] }, { accessFlags := 2, nameIndex := 25, descriptorIndex := 26, attributes := #[] }, { accessFlags := 26, nameIndex := 1116, descriptorIndex := 1117, attributes := #[] }, { accessFlags := 24, nameIndex := 40, descriptorIndex := 26, attributes := #[] }, { accessFlags := 26, nameIndex := 1101, descriptorIndex := 1102, attributes := #[] }, { accessFlags := 26, nameIndex := 1121, descriptorIndex := 1122, attributes := #[] }, { accessFlags := 25, nameIndex := 599, descriptorIndex := 600, attributes := #[] }, { accessFlags := 24, nameIndex := 1125, descriptorIndex := 18, attributes := #[] }, { accessFlags := 24, nameIndex := 1127, descriptorIndex := 18, attributes := #[] }])
  fields := #[{ name := "value", type := (.array .byte), accessFlags := 18, slot := 0, constantValue := 0 }, { name := "coder", type := .byte, accessFlags := 18, slot := 1, constantValue := 0 }, { name := "hash", type := .int, accessFlags := 2, slot := 2, constantValue := 0 }, { name := "hashIsZero", type := .boolean, accessFlags := 2, slot := 3, constantValue := 0 }, { name := "serialVersionUID", type := .long, accessFlags := 26, slot := 0, constantValue := 0 }, { name := "COMPACT_STRINGS", type := .boolean, accessFlags := 24, slot := 1, constantValue := 0 }, { name := "serialPersistentFields", type := (.array (.object "java/io/ObjectStreamField")), accessFlags := 26, slot := 2, constantValue := 0 }, { name := "REPL", type := .char, accessFlags := 26, slot := 3, constantValue := 0 }, { name := "CASE_INSENSITIVE_ORDER", type := (.object "java/util/Comparator"), accessFlags := 25, slot := 4, constantValue := 0 }, { name := "LATIN1", type := .byte, accessFlags := 24, slot := 5, constantValue := 0 }, { name := "UTF16", type := .byte, accessFlags := 24, slot := 6, constantValue := 0 }]
  methods := #[k7m0, k7m1, k7m2, k7m3, k7m4, k7m5]
  instanceTypes := #[(.array .byte), .byte, .int, .boolean]
  staticTypes := #[.long, .boolean, (.array (.object "java/io/ObjectStreamField")), .char, (.object "java/util/Comparator"), .byte, .byte]
  resolved := Array.replicate 1451 none
  statics := some 0 }

def pool8 : Array CpInfo := pool [(1, .methodref 2 3), (0, .class_ 4), (0, .nameAndType 5 6), (0, u "java/lang/Object"), (0, u "<init>"), (0, u "()V"), (0, .string 8), (0, u "client"), (0, .methodref 10 11), (0, .class_ 12), (0, .nameAndType 13 14), (0, u "java/util/Objects"), (0, u "requireNonNull"), (0, u "(Ljava/lang/Object;Ljava/lang/String;)Ljava/lang/Object;"), (0, .class_ 16), (0, u "java/lang/String"), (0, .fieldref 18 19), (0, .class_ 20), (0, .nameAndType 8 21), (0, u "com/example/rudia/rudia/ScopedKey"), (0, u "Ljava/lang/String;"), (0, .string 23), (0, u "key"), (0, .fieldref 18 25), (0, .nameAndType 23 21), (0, .methodref 15 27), (0, .nameAndType 28 29), (0, u "equals"), (0, u "(Ljava/lang/Object;)Z"), (12, u "SHARED_SCOPE"), (3, u "(Ljava/lang/String;Ljava/lang/String;)V")] 24

def k8c0 : Code := { maxStack := 3, maxLocals := 3, code := prog_32_method_1_code, exceptionTable := #[], attributes := #[] }
def k8m0 : Method := { name := "<init>", desc := "(Ljava/lang/String;Ljava/lang/String;)V", sig := { parameters := [(.object "java/lang/String"), (.object "java/lang/String")], returnType := none }, accessFlags := 1, code := some k8c0 }
def k8c1 : Code := { maxStack := 2, maxLocals := 3, code := prog_32_method_4_code, exceptionTable := #[], attributes := #[] }
def k8m1 : Method := { name := "equals", desc := "(Ljava/lang/Object;)Z", sig := { parameters := [(.object "java/lang/Object")], returnType := some .boolean }, accessFlags := 1, code := some k8c1 }
/-- com/example/rudia/rudia/ScopedKey -/
def k8 : Class := { plain "com/example/rudia/rudia/ScopedKey" (some 0) with
  accessFlags := 49
  interfaces := #[]
  cf := some (fileOf pool8 18 #[] #[{ accessFlags := 1, nameIndex := 5, descriptorIndex := 46, attributes := #[] }, { accessFlags := 1, nameIndex := 28, descriptorIndex := 29, attributes := #[] }] 49 2 #[] #[{ accessFlags := 25, nameIndex := 42, descriptorIndex := 21, attributes := #[] }, { accessFlags := 18, nameIndex := 8, descriptorIndex := 21, attributes := #[] }, { accessFlags := 18, nameIndex := 23, descriptorIndex := 21, attributes := #[] }])
  fields := #[{ name := "SHARED_SCOPE", type := (.object "java/lang/String"), accessFlags := 25, slot := 0, constantValue := 0 }, { name := "client", type := (.object "java/lang/String"), accessFlags := 18, slot := 0, constantValue := 0 }, { name := "key", type := (.object "java/lang/String"), accessFlags := 18, slot := 1, constantValue := 0 }]
  methods := #[k8m0, k8m1]
  instanceTypes := #[(.object "java/lang/String"), (.object "java/lang/String")]
  staticTypes := #[(.object "java/lang/String")]
  resolved := Array.replicate 71 none
  statics := none }

def pool9 : Array CpInfo := pool [(2, .class_ 4), (1, u "java/lang/Object"), (0, u "<init>"), (0, u "()V"), (35, .class_ 44), (1, u "java/util/Objects"), (0, u "requireNonNull"), (48, u "(Ljava/lang/Object;Ljava/lang/String;)Ljava/lang/Object;")] 89

def k9m0 : Method := { name := "<init>", desc := "()V", sig := { parameters := [], returnType := none }, accessFlags := 2, code := none }
def k9c1 : Code := { maxStack := 3, maxLocals := 2, code := jdk_31_method_11_code, exceptionTable := #[], attributes := #[] }
def k9m1 : Method := { name := "requireNonNull", desc := "(Ljava/lang/Object;Ljava/lang/String;)Ljava/lang/Object;", sig := { parameters := [(.object "java/lang/Object"), (.object "java/lang/String")], returnType := some (.object "java/lang/Object") }, accessFlags := 9, code := some k9c1 }
/-- java/util/Objects -/
def k9 : Class := { plain "java/util/Objects" (some 0) with
  accessFlags := 49
  interfaces := #[]
  cf := some (fileOf pool9 42 #[] #[{ accessFlags := 2, nameIndex := 5, descriptorIndex := 6, attributes := #[] }, { accessFlags := 9, nameIndex := 45, descriptorIndex := 94, attributes := #[] }] 49 2 #[] #[])
  fields := #[]
  methods := #[k9m0, k9m1]
  instanceTypes := #[]
  staticTypes := #[]
  resolved := Array.replicate 184 none
  statics := none }

def pool10 : Array CpInfo := pool [(6, .class_ 8), (1, u "java/lang/Object"), (0, u "<init>"), (0, u "()V"), (1, .class_ 14), (1, u "java/lang/StringUTF16"), (31, u "$assertionsDisabled"), (0, u "Z"), (13, u "HI_BYTE_SHIFT"), (0, u "I"), (2, u "LO_BYTE_SHIFT"), (49, .methodref 12 116), (0, .nameAndType 117 118), (0, u "compress"), (0, u "([CI[BII)I"), (3, u "([CII)[B"), (138, u "coderFromArrayLen"), (0, u "([BI)B"), (106, .class_ 371), (1, u "java/lang/StringUTF16$LinesSpliterator"), (58, u "MAX_LENGTH"), (196, .class_ 628), (0, u "java/lang/StringUTF16$CodePointsSpliterator"), (0, .class_ 630), (0, u "java/lang/StringUTF16$CharsSpliterator")] 4

def k10m0 : Method := { name := "<init>", desc := "()V", sig := { parameters := [], returnType := none }, accessFlags := 0, code := none }
def k10c1 : Code := { maxStack := 2, maxLocals := 2, code := jdk_52_method_15_code, exceptionTable := #[], attributes := #[] }
def k10m1 : Method := { name := "coderFromArrayLen", desc := "([BI)B", sig := { parameters := [(.array .byte), .int], returnType := some .byte }, accessFlags := 8, code := some k10c1 }
def k10c2 : Code := { maxStack := 5, maxLocals := 6, code := jdk_52_method_16_code, exceptionTable := #[], attributes := #[] }
def k10m2 : Method := { name := "compress", desc := "([CII)[B", sig := { parameters := [(.array .char), .int, .int], returnType := some (.array .byte) }, accessFlags := 9, code := some k10c2 }
def k10c3 : Code := { maxStack := 3, maxLocals := 7, code := jdk_52_method_21_code, exceptionTable := #[], attributes := #[] }
def k10m3 : Method := { name := "compress", desc := "([CI[BII)I", sig := { parameters := [(.array .char), .int, (.array .byte), .int, .int], returnType := some .int }, accessFlags := 9, code := some k10c3 }
/-- java/lang/StringUTF16 -/
def k10 : Class := { plain "java/lang/StringUTF16" (some 0) with
  accessFlags := 48
  interfaces := #[]
  cf := some (fileOf pool10 12 #[.nestMembers #[627, 629, 369]] #[{ accessFlags := 0, nameIndex := 9, descriptorIndex := 10, attributes := #[] }, { accessFlags := 8, nameIndex := 261, descriptorIndex := 262, attributes := #[] }, { accessFlags := 9, nameIndex := 117, descriptorIndex := 122, attributes := #[] }, { accessFlags := 9, nameIndex := 117, descriptorIndex := 118, attributes := #[] }] 48 6 #[] #[{ accessFlags := 26, nameIndex := 61, descriptorIndex := 62, attributes := #[] }, { accessFlags := 26, nameIndex := 65, descriptorIndex := 62, attributes := #[] }, { accessFlags := 24, nameIndex := 430, descriptorIndex := 62, attributes := #[] }, { accessFlags := 4120, nameIndex := 46, descriptorIndex := 47, attributes := #[] }])
  fields := #[{ name := "HI_BYTE_SHIFT", type := .int, accessFlags := 26, slot := 0, constantValue := 0 }, { name := "LO_BYTE_SHIFT", type := .int, accessFlags := 26, slot := 1, constantValue := 0 }, { name := "MAX_LENGTH", type := .int, accessFlags := 24, slot := 2, constantValue := 0 }, { name := "$assertionsDisabled", type := .boolean, accessFlags := 4120, slot := 3, constantValue := 0 }]
  methods := #[k10m0, k10m1, k10m2, k10m3]
  instanceTypes := #[]
  staticTypes := #[.int, .int, .int, .boolean]
  resolved := Array.replicate 635 none
  statics := none }

def pool11 : Array CpInfo := pool [(4, .class_ 6), (1, u "java/lang/Object"), (0, u "<init>"), (0, u "()V"), (5, .class_ 16), (1, u "java/lang/StringLatin1"), (73, u "canEncode"), (14, u "(C)Z"), (15, u "$assertionsDisabled"), (0, u "Z"), (98, .class_ 223), (1, u "java/lang/StringLatin1$LinesSpliterator"), (57, u "equals"), (0, u "([B[B)Z"), (97, u "toBytes"), (1, u "(C)[B"), (7, .class_ 391), (0, u "java/lang/StringLatin1$CharsSpliterator")] 3

def k11m0 : Method := { name := "<init>", desc := "()V", sig := { parameters := [], returnType := none }, accessFlags := 0, code := none }
def k11c1 : Code := { maxStack := 2, maxLocals := 1, code := jdk_43_method_3_code, exceptionTable := #[], attributes := #[] }
def k11m1 : Method := { name := "canEncode", desc := "(C)Z", sig := { parameters := [.char], returnType := some .boolean }, accessFlags := 9, code := some k11c1 }
def k11c2 : Code := { maxStack := 3, maxLocals := 3, code := jdk_43_method_13_code, exceptionTable := #[], attributes := #[] }
def k11m2 : Method := { name := "equals", desc := "([B[B)Z", sig := { parameters := [(.array .byte), (.array .byte)], returnType := some .boolean }, accessFlags := 9, code := some k11c2 }
def k11c3 : Code := { maxStack := 4, maxLocals := 1, code := jdk_43_method_46_code, exceptionTable := #[], attributes := #[] }
def k11m3 : Method := { name := "toBytes", desc := "(C)[B", sig := { parameters := [.char], returnType := some (.array .byte) }, accessFlags := 9, code := some k11c3 }
/-- java/lang/StringLatin1 -/
def k11 : Class := { plain "java/lang/StringLatin1" (some 0) with
  accessFlags := 48
  interfaces := #[]
  cf := some (fileOf pool11 14 #[.nestMembers #[390, 221]] #[{ accessFlags := 0, nameIndex := 7, descriptorIndex := 8, attributes := #[] }, { accessFlags := 9, nameIndex := 90, descriptorIndex := 105, attributes := #[] }, { accessFlags := 9, nameIndex := 281, descriptorIndex := 282, attributes := #[] }, { accessFlags := 9, nameIndex := 380, descriptorIndex := 382, attributes := #[] }] 48 4 #[] #[{ accessFlags := 4120, nameIndex := 121, descriptorIndex := 122, attributes := #[] }])
  fields := #[{ name := "$assertionsDisabled", type := .boolean, accessFlags := 4120, slot := 0, constantValue := 0 }]
  methods := #[k11m0, k11m1, k11m2, k11m3]
  instanceTypes := #[]
  staticTypes := #[.boolean]
  resolved := Array.replicate 395 none
  statics := none }

def pool12 : Array CpInfo := pool [(2, .class_ 4), (1, u "java/lang/Object"), (0, u "<init>"), (0, u "()V"), (17, .class_ 26), (1, u "jdk/internal/util/Preconditions"), (28, .class_ 56), (0, u "jdk/internal/util/Preconditions$4"), (57, .class_ 115), (0, u "jdk/internal/util/Preconditions$1"), (7, u "SIOOBE_FORMATTER"), (0, u "Ljava/util/function/BiFunction;"), (0, .class_ 126), (0, u "jdk/internal/util/Preconditions$2"), (3, u "AIOOBE_FORMATTER"), (0, .class_ 132), (0, u "jdk/internal/util/Preconditions$3"), (3, u "IOOBE_FORMATTER")] 57

def k12m0 : Method := { name := "<init>", desc := "()V", sig := { parameters := [], returnType := none }, accessFlags := 1, code := none }
/-- jdk/internal/util/Preconditions -/
def k12 : Class := { plain "jdk/internal/util/Preconditions" (some 0) with
  accessFlags := 33
  interfaces := #[]
  cf := some (fileOf pool12 24 #[.nestMembers #[55, 131, 125, 114]] #[{ accessFlags := 1, nameIndex := 5, descriptorIndex := 6, attributes := #[] }] 33 2 #[] #[{ accessFlags := 25, nameIndex := 123, descriptorIndex := 124, attributes := #[] }, { accessFlags := 25, nameIndex := 130, descriptorIndex := 124, attributes := #[] }, { accessFlags := 25, nameIndex := 136, descriptorIndex := 124, attributes := #[] }])
  fields := #[{ name := "SIOOBE_FORMATTER", type := (.object "java/util/function/BiFunction"), accessFlags := 25, slot := 0, constantValue := 0 }, { name := "AIOOBE_FORMATTER", type := (.object "java/util/function/BiFunction"), accessFlags := 25, slot := 1, constantValue := 0 }, { name := "IOOBE_FORMATTER", type := (.object "java/util/function/BiFunction"), accessFlags := 25, slot := 2, constantValue := 0 }]
  methods := #[k12m0]
  instanceTypes := #[]
  staticTypes := #[(.object "java/util/function/BiFunction"), (.object "java/util/function/BiFunction"), (.object "java/util/function/BiFunction")]
  resolved := Array.replicate 194 none
  statics := some 1 }

def pool13 : Array CpInfo := pool [(9, u "<init>"), (6, .class_ 18), (1, u "java/lang/Object"), (0, u "()V"), (1, .class_ 23), (1, u "jdk/internal/util/ArraysSupport"), (0, u "LOG2_ARRAY_LONG_INDEX_SCALE"), (0, u "I"), (2, u "U"), (0, u "Ljdk/internal/misc/Unsafe;"), (8, u "BIG_ENDIAN"), (0, u "Z"), (8, u "LOG2_BYTE_BIT_SIZE"), (4, u "LOG2_ARRAY_INT_INDEX_SCALE"), (54, u "JLA"), (0, u "Ljdk/internal/access/JavaLangAccess;"), (11, u "LOG2_ARRAY_BOOLEAN_INDEX_SCALE"), (9, u "LOG2_ARRAY_BYTE_INDEX_SCALE"), (5, u "LOG2_ARRAY_CHAR_INDEX_SCALE"), (5, u "LOG2_ARRAY_SHORT_INDEX_SCALE"), (18, u "LOG2_ARRAY_FLOAT_INDEX_SCALE"), (24, u "LOG2_ARRAY_DOUBLE_INDEX_SCALE"), (89, u "T_BOOLEAN"), (2, u "T_CHAR"), (1, u "T_FLOAT"), (1, u "T_DOUBLE"), (1, u "T_BYTE"), (1, u "T_SHORT"), (1, u "T_INT"), (1, u "T_LONG"), (1, u "SOFT_MAX_ARRAY_LENGTH")] 83

def k13m0 : Method := { name := "<init>", desc := "()V", sig := { parameters := [], returnType := none }, accessFlags := 2, code := none }
/-- jdk/internal/util/ArraysSupport -/
def k13 : Class := { plain "jdk/internal/util/ArraysSupport" (some 0) with
  accessFlags := 33
  interfaces := #[]
  cf := some (fileOf pool13 21 #[] #[{ accessFlags := 2, nameIndex := 9, descriptorIndex := 19, attributes := #[] }] 33 16 #[] #[{ accessFlags := 24, nameIndex := 28, descriptorIndex := 29, attributes := #[] }, { accessFlags := 26, nameIndex := 38, descriptorIndex := 39, attributes := #[] }, { accessFlags := 25, nameIndex := 121, descriptorIndex := 25, attributes := #[] }, { accessFlags := 25, nameIndex := 131, descriptorIndex := 25, attributes := #[] }, { accessFlags := 25, nameIndex := 137, descriptorIndex := 25, attributes := #[] }, { accessFlags := 25, nameIndex := 143, descriptorIndex := 25, attributes := #[] }, { accessFlags := 25, nameIndex := 53, descriptorIndex := 25, attributes := #[] }, { accessFlags := 25, nameIndex := 24, descriptorIndex := 25, attributes := #[] }, { accessFlags := 25, nameIndex := 162, descriptorIndex := 25, attributes := #[] }, { accessFlags := 25, nameIndex := 187, descriptorIndex := 25, attributes := #[] }, { accessFlags := 26, nameIndex := 48, descriptorIndex := 25, attributes := #[] }, { accessFlags := 25, nameIndex := 277, descriptorIndex := 25, attributes := #[] }, { accessFlags := 25, nameIndex := 280, descriptorIndex := 25, attributes := #[] }, { accessFlags := 25, nameIndex := 282, descriptorIndex := 25, attributes := #[] }, { accessFlags := 25, nameIndex := 284, descriptorIndex := 25, attributes := #[] }, { accessFlags := 25, nameIndex := 286, descriptorIndex := 25, attributes := #[] }, { accessFlags := 25, nameIndex := 288, descriptorIndex := 25, attributes := #[] }, { accessFlags := 25, nameIndex := 290, descriptorIndex := 25, attributes := #[] }, { accessFlags := 25, nameIndex := 292, descriptorIndex := 25, attributes := #[] }, { accessFlags := 26, nameIndex := 108, descriptorIndex := 109, attributes := #[] }, { accessFlags := 25, nameIndex := 294, descriptorIndex := 25, attributes := #[] }])
  fields := #[{ name := "U", type := (.object "jdk/internal/misc/Unsafe"), accessFlags := 24, slot := 0, constantValue := 0 }, { name := "BIG_ENDIAN", type := .boolean, accessFlags := 26, slot := 1, constantValue := 0 }, { name := "LOG2_ARRAY_BOOLEAN_INDEX_SCALE", type := .int, accessFlags := 25, slot := 2, constantValue := 0 }, { name := "LOG2_ARRAY_BYTE_INDEX_SCALE", type := .int, accessFlags := 25, slot := 3, constantValue := 0 }, { name := "LOG2_ARRAY_CHAR_INDEX_SCALE", type := .int, accessFlags := 25, slot := 4, constantValue := 0 }, { name := "LOG2_ARRAY_SHORT_INDEX_SCALE", type := .int, accessFlags := 25, slot := 5, constantValue := 0 }, { name := "LOG2_ARRAY_INT_INDEX_SCALE", type := .int, accessFlags := 25, slot := 6, constantValue := 0 }, { name := "LOG2_ARRAY_LONG_INDEX_SCALE", type := .int, accessFlags := 25, slot := 7, constantValue := 0 }, { name := "LOG2_ARRAY_FLOAT_INDEX_SCALE", type := .int, accessFlags := 25, slot := 8, constantValue := 0 }, { name := "LOG2_ARRAY_DOUBLE_INDEX_SCALE", type := .int, accessFlags := 25, slot := 9, constantValue := 0 }, { name := "LOG2_BYTE_BIT_SIZE", type := .int, accessFlags := 26, slot := 10, constantValue := 0 }, { name := "T_BOOLEAN", type := .int, accessFlags := 25, slot := 11, constantValue := 0 }, { name := "T_CHAR", type := .int, accessFlags := 25, slot := 12, constantValue := 0 }, { name := "T_FLOAT", type := .int, accessFlags := 25, slot := 13, constantValue := 0 }, { name := "T_DOUBLE", type := .int, accessFlags := 25, slot := 14, constantValue := 0 }, { name := "T_BYTE", type := .int, accessFlags := 25, slot := 15, constantValue := 0 }, { name := "T_SHORT", type := .int, accessFlags := 25, slot := 16, constantValue := 0 }, { name := "T_INT", type := .int, accessFlags := 25, slot := 17, constantValue := 0 }, { name := "T_LONG", type := .int, accessFlags := 25, slot := 18, constantValue := 0 }, { name := "JLA", type := (.object "jdk/internal/access/JavaLangAccess"), accessFlags := 26, slot := 19, constantValue := 0 }, { name := "SOFT_MAX_ARRAY_LENGTH", type := .int, accessFlags := 25, slot := 20, constantValue := 0 }]
  methods := #[k13m0]
  instanceTypes := #[]
  staticTypes := #[(.object "jdk/internal/misc/Unsafe"), .boolean, .int, .int, .int, .int, .int, .int, .int, .int, .int, .int, .int, .int, .int, .int, .int, .int, .int, (.object "jdk/internal/access/JavaLangAccess"), .int]
  resolved := Array.replicate 378 none
  statics := none }

def pool14 : Array CpInfo := pool [(1, u "java/lang/Cloneable"), (0, .class_ 1), (0, u "java/lang/Object"), (0, .class_ 3)] 3

/-- java/lang/Cloneable -/
def k14 : Class := { plain "java/lang/Cloneable" (some 0) with
  accessFlags := 1537
  interfaces := #[]
  cf := some (fileOf pool14 2 #[] #[] 1537 4 #[] #[])
  fields := #[]
  methods := #[]
  instanceTypes := #[]
  staticTypes := #[]
  resolved := Array.replicate 8 none
  statics := none }

/-- the primitive byte -/
def k15 : Class := { plain "byte" none with kind := .primitive 'B', accessFlags := 0x411 }
/-- [B -/
def k16 : Class := { plain "[B" (some 0) with kind := .array 15 .byte, interfaces := #[14, 2], accessFlags := 1041 }

/-- the primitive char -/
def k17 : Class := { plain "char" none with kind := .primitive 'C', accessFlags := 0x411 }
/-- [C -/
def k18 : Class := { plain "[C" (some 0) with kind := .array 17 .char, interfaces := #[14, 2], accessFlags := 1041 }

/-- the primitive int -/
def k19 : Class := { plain "int" none with kind := .primitive 'I', accessFlags := 0x411 }
/-- [I -/
def k20 : Class := { plain "[I" (some 0) with kind := .array 19 .int, interfaces := #[14, 2], accessFlags := 1041 }

def heap : Heap := #[{ cls := 7, slots := #[.long 0, .int 1, .null, .int 0, .null, .int 0, .int 0], vm := .statics 7 },
  { cls := 12, slots := #[.null, .null, .null], vm := .statics 12 }]
def classes : Array Class := #[k0, k1, k2, k3, k4, k5, k6, k7, k8, k9, k10, k11, k12, k13, k14, k15, k16, k17, k18, k19, k20]
def interned : List (Array UInt16 × Addr) := []
def slotsUsed : Nat := 10
def theMethod : MethodId := ⟨1, 3⟩
def args0 : Array Value := #[.int 5, .int 6, .int 2, .int 7, .int 38, .int 4]
def aboutOver (below : List Frame) : State where
  vm := { classes := classes, interned := interned.toArray }
  heap := heap
  slotsUsed := slotsUsed
  threads := #[{ frames := .invoking theMethod args0 :: below }]
def below0 : List Frame := [.native { method := ⟨0, 0⟩, args := #[] }]
def about1 : State := aboutOver below0
def p0 : Program := .bare "" "" ""
def e0 : Env := launch0.env 0 0 0
theorem w_frames : about1.frames = Frame.invoking theMethod args0 :: below0 := rfl
set_option maxRecDepth 65536 in
theorem w_args : argsFit about1.vm theMethod args0 = true := by decide +kernel
set_option maxRecDepth 65536 in
theorem w_heap : heapFits about1 = true := by decide +kernel
set_option maxRecDepth 65536 in
theorem w_runnable : about1.curStatus? = some .runnable := by decide +kernel
set_option maxRecDepth 65536 in
theorem w_alone : about1.alone = true := by decide +kernel
set_option maxRecDepth 65536 in
theorem w_named : about1.methodNamed? x = some theMethod := by decide +kernel
set_option maxRecDepth 65536 in
theorem w_hears : about1.hears theMethod below0 = true := by decide +kernel
set_option maxRecDepth 65536 in
theorem w_ripe : about1.ripe theMethod args0 below0 = true := by decide +kernel
theorem w_running : about1.status = .running := rfl
set_option maxRecDepth 65536 in
theorem w_room : about1.hasRoom e0.platform room_1 = true :=
  launch0.hasRoom_least _ room_1 (by decide +kernel) (by decide +kernel) (by decide +kernel) (by decide +kernel) (by decide +kernel) (by decide +kernel)
theorem allAtoms_all (ts : List Jvm.Cond) (a : Array Jvm.Value) (st : Jvm.State) : (allAtoms ts).before a st = ts.all (fun c => c.before a st) := by
  induction ts with
  | nil => rfl
  | cons c t ih =>
    show (Jvm.Cond.and c (allAtoms t)).before a st = _
    rw [Jvm.Cond.before_and, ih, List.all_cons]
def words1 : List Jvm.Cond := Jvm.Cond.code x code maxLocals ret :: tables_1
/-- a 'code' word, met by the world's own term for the bytes: nothing is compared byte by byte -/
theorem code_word {y : MethodName} {bytes : ByteArray} {mx : Nat} {rt : Option FieldType} {a : Array Value} {s : State} {m : MethodId} {meth : Method} {c : Code} (h1 : s.methodNamed? y = some m) (h2 : s.vm.method? m = some meth) (h3 : meth.code = some c) (h4 : c.code = bytes)
    (h5 : (c.maxLocals == mx && c.exceptionTable.isEmpty && decide (c.maxStack ≤ mostOperands) && decide (meth.sig.returnType = rt) && !meth.locks && decide (parseMethodDescriptor y.desc = some meth.sig)) = true) : (Jvm.Cond.code y bytes mx rt).before a s = true := by
  simp only [Bool.and_eq_true, beq_iff_eq, Bool.not_eq_true', decide_eq_true_eq] at h5
  obtain ⟨⟨⟨⟨⟨g1, g2⟩, g3⟩, g4⟩, g5⟩, g6⟩ := h5
  simp [Cond.before, Cond.holds, Cond.value, h1, h2, h3, h4, g1, g2, g3, g4, g5, g6]
def isCode : Jvm.Cond → Bool
  | .code _ _ _ _ => true
  | _ => false
theorem all_split {L : List Jvm.Cond} {P : Jvm.Cond → Bool} (h1 : L.all (fun c => isCode c || P c) = true) (h2 : ∀ c ∈ L.filter isCode, P c = true) : L.all P = true := by
  refine List.all_eq_true.mpr fun c hc => ?_
  have h := List.all_eq_true.mp h1 c hc
  rcases Bool.eq_false_or_eq_true (isCode c) with hi | hi
  · exact h2 c (List.mem_filter.mpr ⟨hc, hi⟩)
  · simpa [hi] using h
set_option maxRecDepth 65536 in
theorem w_c0 : (Jvm.Cond.code x code maxLocals ret).before args0 about1 = true := code_word (m := ⟨1, 3⟩) (meth := k1m3) (c := k1c3) (by decide +kernel) rfl rfl rfl (by decide +kernel)
set_option maxRecDepth 65536 in
theorem w_c1 : (Jvm.Cond.code ({ cls := "com/example/rudia/rudia/ScopedKeyEqualsPinLaw", name := "mk", desc := "(II)Ljava/lang/String;" } : Jvm.MethodName) method_2_code (4 : Nat) (Option.some (Jvm.ClassFile.FieldType.object "java/lang/String"))).before args0 about1 = true := code_word (m := ⟨1, 1⟩) (meth := k1m1) (c := k1c1) (by decide +kernel) rfl rfl rfl (by decide +kernel)
set_option maxRecDepth 65536 in
theorem w_c2 : (Jvm.Cond.code ({ cls := "java/lang/String", name := "<init>", desc := "([C)V" } : Jvm.MethodName) jdk_42_method_3_code (2 : Nat) (Option.none : Option Jvm.ClassFile.FieldType)).before args0 about1 = true := code_word (m := ⟨7, 1⟩) (meth := k7m1) (c := k7c1) (by decide +kernel) rfl rfl rfl (by decide +kernel)
set_option maxRecDepth 65536 in
theorem w_c3 : (Jvm.Cond.code ({ cls := "java/lang/String", name := "<init>", desc := "([CIILjava/lang/Void;)V" } : Jvm.MethodName) jdk_42_method_149_code (6 : Nat) (Option.none : Option Jvm.ClassFile.FieldType)).before args0 about1 = true := code_word (m := ⟨7, 4⟩) (meth := k7m4) (c := k7c4) (by decide +kernel) rfl rfl rfl (by decide +kernel)
set_option maxRecDepth 65536 in
theorem w_c4 : (Jvm.Cond.code ({ cls := "java/lang/Object", name := "<init>", desc := "()V" } : Jvm.MethodName) object_method_1_code (1 : Nat) (Option.none : Option Jvm.ClassFile.FieldType)).before args0 about1 = true := code_word (m := ⟨0, 0⟩) (meth := k0m0) (c := k0c0) (by decide +kernel) rfl rfl rfl (by decide +kernel)
set_option maxRecDepth 65536 in
theorem w_c5 : (Jvm.Cond.code ({ cls := "com/example/rudia/rudia/ScopedKey", name := "<init>", desc := "(Ljava/lang/String;Ljava/lang/String;)V" } : Jvm.MethodName) prog_32_method_1_code (3 : Nat) (Option.none : Option Jvm.ClassFile.FieldType)).before args0 about1 = true := code_word (m := ⟨8, 0⟩) (meth := k8m0) (c := k8c0) (by decide +kernel) rfl rfl rfl (by decide +kernel)
set_option maxRecDepth 65536 in
theorem w_c6 : (Jvm.Cond.code ({ cls := "java/util/Objects", name := "requireNonNull", desc := "(Ljava/lang/Object;Ljava/lang/String;)Ljava/lang/Object;" } : Jvm.MethodName) jdk_31_method_11_code (2 : Nat) (Option.some (Jvm.ClassFile.FieldType.object "java/lang/Object"))).before args0 about1 = true := code_word (m := ⟨9, 1⟩) (meth := k9m1) (c := k9c1) (by decide +kernel) rfl rfl rfl (by decide +kernel)
set_option maxRecDepth 65536 in
theorem w_c7 : (Jvm.Cond.code ({ cls := "com/example/rudia/rudia/ScopedKey", name := "equals", desc := "(Ljava/lang/Object;)Z" } : Jvm.MethodName) prog_32_method_4_code (3 : Nat) (Option.some Jvm.ClassFile.FieldType.boolean)).before args0 about1 = true := code_word (m := ⟨8, 1⟩) (meth := k8m1) (c := k8c1) (by decide +kernel) rfl rfl rfl (by decide +kernel)
set_option maxRecDepth 65536 in
theorem w_c8 : (Jvm.Cond.code ({ cls := "java/lang/String", name := "equals", desc := "(Ljava/lang/Object;)Z" } : Jvm.MethodName) jdk_42_method_66_code (3 : Nat) (Option.some Jvm.ClassFile.FieldType.boolean)).before args0 about1 = true := code_word (m := ⟨7, 2⟩) (meth := k7m2) (c := k7c2) (by decide +kernel) rfl rfl rfl (by decide +kernel)
set_option maxRecDepth 65536 in
theorem w_c9 : (Jvm.Cond.code ({ cls := "java/lang/StringUTF16", name := "compress", desc := "([CII)[B" } : Jvm.MethodName) jdk_52_method_16_code (6 : Nat) (Option.some (Jvm.ClassFile.FieldType.array Jvm.ClassFile.FieldType.byte))).before args0 about1 = true := code_word (m := ⟨10, 2⟩) (meth := k10m2) (c := k10c2) (by decide +kernel) rfl rfl rfl (by decide +kernel)
set_option maxRecDepth 65536 in
theorem w_c10 : (Jvm.Cond.code ({ cls := "java/lang/StringUTF16", name := "compress", desc := "([CI[BII)I" } : Jvm.MethodName) jdk_52_method_21_code (7 : Nat) (Option.some Jvm.ClassFile.FieldType.int)).before args0 about1 = true := code_word (m := ⟨10, 3⟩) (meth := k10m3) (c := k10c3) (by decide +kernel) rfl rfl rfl (by decide +kernel)
set_option maxRecDepth 65536 in
theorem w_c11 : (Jvm.Cond.code ({ cls := "java/lang/StringUTF16", name := "coderFromArrayLen", desc := "([BI)B" } : Jvm.MethodName) jdk_52_method_15_code (2 : Nat) (Option.some Jvm.ClassFile.FieldType.byte)).before args0 about1 = true := code_word (m := ⟨10, 1⟩) (meth := k10m1) (c := k10c1) (by decide +kernel) rfl rfl rfl (by decide +kernel)
set_option maxRecDepth 65536 in
theorem w_c12 : (Jvm.Cond.code ({ cls := "java/lang/String", name := "valueOf", desc := "(C)Ljava/lang/String;" } : Jvm.MethodName) jdk_42_method_139_code (1 : Nat) (Option.some (Jvm.ClassFile.FieldType.object "java/lang/String"))).before args0 about1 = true := code_word (m := ⟨7, 3⟩) (meth := k7m3) (c := k7c3) (by decide +kernel) rfl rfl rfl (by decide +kernel)
set_option maxRecDepth 65536 in
theorem w_c13 : (Jvm.Cond.code ({ cls := "java/lang/StringLatin1", name := "canEncode", desc := "(C)Z" } : Jvm.MethodName) jdk_43_method_3_code (1 : Nat) (Option.some Jvm.ClassFile.FieldType.boolean)).before args0 about1 = true := code_word (m := ⟨11, 1⟩) (meth := k11m1) (c := k11c1) (by decide +kernel) rfl rfl rfl (by decide +kernel)
set_option maxRecDepth 65536 in
theorem w_c14 : (Jvm.Cond.code ({ cls := "java/lang/StringLatin1", name := "toBytes", desc := "(C)[B" } : Jvm.MethodName) jdk_43_method_46_code (1 : Nat) (Option.some (Jvm.ClassFile.FieldType.array Jvm.ClassFile.FieldType.byte))).before args0 about1 = true := code_word (m := ⟨11, 3⟩) (meth := k11m3) (c := k11c3) (by decide +kernel) rfl rfl rfl (by decide +kernel)
set_option maxRecDepth 65536 in
theorem w_c15 : (Jvm.Cond.code ({ cls := "java/lang/String", name := "<init>", desc := "([BB)V" } : Jvm.MethodName) jdk_42_method_151_code (3 : Nat) (Option.none : Option Jvm.ClassFile.FieldType)).before args0 about1 = true := code_word (m := ⟨7, 5⟩) (meth := k7m5) (c := k7c5) (by decide +kernel) rfl rfl rfl (by decide +kernel)
set_option maxRecDepth 65536 in
theorem w_c16 : (Jvm.Cond.code ({ cls := "com/example/rudia/rudia/ScopedKeyEqualsPinLaw", name := "same", desc := "(IIII)Z" } : Jvm.MethodName) method_3_code (4 : Nat) (Option.some Jvm.ClassFile.FieldType.boolean)).before args0 about1 = true := code_word (m := ⟨1, 2⟩) (meth := k1m2) (c := k1c2) (by decide +kernel) rfl rfl rfl (by decide +kernel)
set_option maxRecDepth 65536 in
theorem w_c17 : (Jvm.Cond.code ({ cls := "java/lang/StringLatin1", name := "equals", desc := "([B[B)Z" } : Jvm.MethodName) jdk_43_method_13_code (3 : Nat) (Option.some Jvm.ClassFile.FieldType.boolean)).before args0 about1 = true := code_word (m := ⟨11, 2⟩) (meth := k11m2) (c := k11c2) (by decide +kernel) rfl rfl rfl (by decide +kernel)
def codes1 : List Jvm.Cond := [Jvm.Cond.code x code maxLocals ret, Jvm.Cond.code ({ cls := "com/example/rudia/rudia/ScopedKeyEqualsPinLaw", name := "mk", desc := "(II)Ljava/lang/String;" } : Jvm.MethodName) method_2_code (4 : Nat) (Option.some (Jvm.ClassFile.FieldType.object "java/lang/String")), Jvm.Cond.code ({ cls := "java/lang/String", name := "<init>", desc := "([C)V" } : Jvm.MethodName) jdk_42_method_3_code (2 : Nat) (Option.none : Option Jvm.ClassFile.FieldType), Jvm.Cond.code ({ cls := "java/lang/String", name := "<init>", desc := "([CIILjava/lang/Void;)V" } : Jvm.MethodName) jdk_42_method_149_code (6 : Nat) (Option.none : Option Jvm.ClassFile.FieldType), Jvm.Cond.code ({ cls := "java/lang/Object", name := "<init>", desc := "()V" } : Jvm.MethodName) object_method_1_code (1 : Nat) (Option.none : Option Jvm.ClassFile.FieldType), Jvm.Cond.code ({ cls := "com/example/rudia/rudia/ScopedKey", name := "<init>", desc := "(Ljava/lang/String;Ljava/lang/String;)V" } : Jvm.MethodName) prog_32_method_1_code (3 : Nat) (Option.none : Option Jvm.ClassFile.FieldType), Jvm.Cond.code ({ cls := "java/util/Objects", name := "requireNonNull", desc := "(Ljava/lang/Object;Ljava/lang/String;)Ljava/lang/Object;" } : Jvm.MethodName) jdk_31_method_11_code (2 : Nat) (Option.some (Jvm.ClassFile.FieldType.object "java/lang/Object")), Jvm.Cond.code ({ cls := "com/example/rudia/rudia/ScopedKey", name := "equals", desc := "(Ljava/lang/Object;)Z" } : Jvm.MethodName) prog_32_method_4_code (3 : Nat) (Option.some Jvm.ClassFile.FieldType.boolean), Jvm.Cond.code ({ cls := "java/lang/String", name := "equals", desc := "(Ljava/lang/Object;)Z" } : Jvm.MethodName) jdk_42_method_66_code (3 : Nat) (Option.some Jvm.ClassFile.FieldType.boolean), Jvm.Cond.code ({ cls := "java/lang/StringUTF16", name := "compress", desc := "([CII)[B" } : Jvm.MethodName) jdk_52_method_16_code (6 : Nat) (Option.some (Jvm.ClassFile.FieldType.array Jvm.ClassFile.FieldType.byte)), Jvm.Cond.code ({ cls := "java/lang/StringUTF16", name := "compress", desc := "([CI[BII)I" } : Jvm.MethodName) jdk_52_method_21_code (7 : Nat) (Option.some Jvm.ClassFile.FieldType.int), Jvm.Cond.code ({ cls := "java/lang/StringUTF16", name := "coderFromArrayLen", desc := "([BI)B" } : Jvm.MethodName) jdk_52_method_15_code (2 : Nat) (Option.some Jvm.ClassFile.FieldType.byte), Jvm.Cond.code ({ cls := "java/lang/String", name := "valueOf", desc := "(C)Ljava/lang/String;" } : Jvm.MethodName) jdk_42_method_139_code (1 : Nat) (Option.some (Jvm.ClassFile.FieldType.object "java/lang/String")), Jvm.Cond.code ({ cls := "java/lang/StringLatin1", name := "canEncode", desc := "(C)Z" } : Jvm.MethodName) jdk_43_method_3_code (1 : Nat) (Option.some Jvm.ClassFile.FieldType.boolean), Jvm.Cond.code ({ cls := "java/lang/StringLatin1", name := "toBytes", desc := "(C)[B" } : Jvm.MethodName) jdk_43_method_46_code (1 : Nat) (Option.some (Jvm.ClassFile.FieldType.array Jvm.ClassFile.FieldType.byte)), Jvm.Cond.code ({ cls := "java/lang/String", name := "<init>", desc := "([BB)V" } : Jvm.MethodName) jdk_42_method_151_code (3 : Nat) (Option.none : Option Jvm.ClassFile.FieldType), Jvm.Cond.code ({ cls := "com/example/rudia/rudia/ScopedKeyEqualsPinLaw", name := "same", desc := "(IIII)Z" } : Jvm.MethodName) method_3_code (4 : Nat) (Option.some Jvm.ClassFile.FieldType.boolean), Jvm.Cond.code ({ cls := "java/lang/StringLatin1", name := "equals", desc := "([B[B)Z" } : Jvm.MethodName) jdk_43_method_13_code (3 : Nat) (Option.some Jvm.ClassFile.FieldType.boolean)]
set_option maxRecDepth 65536 in
theorem codes_eq : words1.filter isCode = codes1 := rfl
theorem w_codes : ∀ c ∈ words1.filter isCode, c.before args0 about1 = true := by
  rw [codes_eq]
  intro c hc
  simp only [codes1, List.mem_cons, List.not_mem_nil, or_false] at hc
  rcases hc with rfl | rfl | rfl | rfl | rfl | rfl | rfl | rfl | rfl | rfl | rfl | rfl | rfl | rfl | rfl | rfl | rfl | rfl
  · exact w_c0
  · exact w_c1
  · exact w_c2
  · exact w_c3
  · exact w_c4
  · exact w_c5
  · exact w_c6
  · exact w_c7
  · exact w_c8
  · exact w_c9
  · exact w_c10
  · exact w_c11
  · exact w_c12
  · exact w_c13
  · exact w_c14
  · exact w_c15
  · exact w_c16
  · exact w_c17
set_option maxRecDepth 65536 in
theorem w_t1 : (words1.take 24).all (fun c => isCode c || c.before args0 about1) = true := by decide +kernel
set_option maxRecDepth 65536 in
theorem w_t2 : ((words1.drop 24).take 24).all (fun c => isCode c || c.before args0 about1) = true := by decide +kernel
set_option maxRecDepth 65536 in
theorem w_t3 : (((words1.drop 24).drop 24).take 24).all (fun c => isCode c || c.before args0 about1) = true := by decide +kernel
set_option maxRecDepth 65536 in
theorem w_t4 : (((words1.drop 24).drop 24).drop 24).all (fun c => isCode c || c.before args0 about1) = true := by decide +kernel
theorem w_tables : (allAtoms (Jvm.Cond.code x code maxLocals ret :: tables_1)).before args0 about1 = true := by
  rw [allAtoms_all]
  show words1.all (fun c => c.before args0 about1) = true
  refine all_split ?_ w_codes
  rw [← List.take_append_drop 24 words1, List.all_append, w_t1, ← List.take_append_drop 24 (words1.drop 24), List.all_append, w_t2, ← List.take_append_drop 24 ((words1.drop 24).drop 24), List.all_append, w_t3, w_t4]
  rfl
set_option maxRecDepth 65536 in
theorem w_rest : rest_1_c.before args0 about1 = true := by decide +kernel
set_option maxRecDepth 65536 in
theorem w_case : (Jvm.Cond.and given_1 narrow_1).before args0 about1 = true := by decide +kernel
set_option maxRecDepth 65536 in
theorem w_consts : constsHeld consts_1 about1 := Jvm.Lit.constsHeldB_iff.mp (by decide +kernel)
theorem w_applies : (headSpec (Jvm.Cond.code x code maxLocals ret :: tables_1) room_1).applies x e0.platform about1 = true :=
  (Spec.applies_iff w_frames).mpr ⟨w_running, w_runnable, w_alone, w_named, w_hears, w_ripe, w_room, w_tables⟩
theorem atStart : AtStart classFile x code maxLocals ret World_1 tables_1 room_1 Calls_1 rest_1 Pre_1 launch0 p0 e0 about1 theMethod args0 below0 :=
  ⟨lists_1, trivial, launch0.admits_env _ _ _, launch0.least_env, fairChoices_fair.cas, fairChoices_fair.clock, w_frames, w_args, w_heap, w_applies, ⟨w_consts, trivial⟩, w_rest, w_case⟩
end start1
theorem witness_1 : WitnessClaimed_1 := ⟨start1.p0, start1.e0, start1.about1, start1.theMethod, start1.args0, start1.below0, start1.atStart⟩
end Jvm.Pilot.@@N@@
