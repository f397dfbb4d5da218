import JvmDerived
import JvmDerived.Pilot.@@N@@Statement
import JvmDerived.Pilot.@@N@@Code
set_option linter.unusedVariables false
set_option linter.unusedSimpArgs false
/- laws to paste: Road.backV, Road.eqW, Road.codOf, Road.lenW (cut by pick.py; bodies as the Statement names them) -/
namespace Jvm.Pilot.@@N@@
namespace StrChars
open Jvm Sem ClassFile Op Lib Jvm.Stand Jvm.Free.XT Jvm.Free.ALB Jvm.Free.JM Jvm.Free
open Jvm.Lib.Cold (StaticIs)
/-- a char array whose places are chars -/
def Ch (a : Addr) (A : Cell) (U : State) : Prop := Arr .char a A U ∧ Typed .char A
theorem Ch.mv {a : Addr} {A : Cell} {U U' : State} (h : Ch a A U) (hal : U.vm.Alike U'.vm) (hh : U'.heap = U.heap) : Ch a A U' := ⟨h.1.mv hal hh, h.2⟩
theorem Ch.keep {a : Addr} {A : Cell} {U U' : State} (h : Ch a A U) (hal : U.vm.Alike U'.vm) (hk : U'.heap[a]? = some A) : Ch a A U' := ⟨h.1.keep hal hk, h.2⟩
/-- what place i of a char[]'s cell holds -/
def cv (A : Cell) (i : Nat) : Int32 := match A.slots[i]? with | some (.int x) => x | _ => 0
theorem Ch.get {a : Addr} {A : Cell} {U : State} (h : Ch a A U) {i : Nat} (hi : i < A.slots.size) : A.slots[i]? = some (.int (cv A i)) := by
  have e := Array.getElem?_eq_getElem hi
  have f := h.2 i _ e
  unfold cv; rw [e]
  generalize A.slots[i] = v at f
  cases v <;> simp [fits] at f ⊢
/-- the byte that i2b leaves of a char -/
def lo8 (x : Int32) : Int32 := x.toInt8.toInt32
theorem fits_lo8 (y : Int32) : fits .byte (.int (lo8 y)) = true := by
  have h1 := y.toInt8.le_toInt
  have h2 := y.toInt8.toInt_lt
  simp only [lo8, fits, Bool.and_eq_true, decide_eq_true_eq, Int32.le_iff_toInt_le, Int8.toInt_toInt32, show (-128 : Int32).toInt = -128 from by decide, show (127 : Int32).toInt = 127 from by decide]
  omega
/-- A' is A but that each place j of lo .. hi - 1 holds f j -/
def Laid (A A' : Cell) (lo hi : Nat) (f : Nat → Value) : Prop := A'.cls = A.cls ∧ A'.vm = A.vm ∧ A'.slots.size = A.slots.size ∧ ∀ i, A'.slots[i]? = if lo ≤ i ∧ i < hi then some (f i) else A.slots[i]?
theorem Laid.zero (A : Cell) (lo : Nat) (f : Nat → Value) : Laid A A lo (lo + 0) f := ⟨rfl, rfl, rfl, fun i => by rw [if_neg (by omega)]⟩
theorem Laid.step {A Ak : Cell} {lo k : Nat} {f : Nat → Value} {v : Value} (h : Laid A Ak lo k f) (hlo : lo ≤ k) (hk : k < Ak.slots.size) (hv : v = f k) : Laid A (Ak.setSlot k v) lo (k + 1) f := by
  refine ⟨h.1, h.2.1, by simpa [Cell.setSlot] using h.2.2.1, fun i => ?_⟩
  by_cases e : k = i
  · subst e; rw [Cell.slots_setSlot_self v hk, if_pos (by omega), hv]
  · rw [Cell.slots_setSlot_ne v e, h.2.2.2 i]
    by_cases q : lo ≤ i ∧ i < k
    · rw [if_pos q, if_pos (by omega)]
    · rw [if_neg q, if_neg (by omega)]
def U16 : String := "java/lang/StringUTF16"
namespace Cmp5
def yN : MethodName := ⟨"java/lang/StringUTF16", "compress", "([CI[BII)I"⟩
abbrev yB : ByteArray := jdk_52_method_21_code
theorem d0 : decode yB 0 = .ok (.iconst 0, 1) := by decide +kernel
theorem d1 : decode yB 1 = .ok (.istore 5, 2) := by decide +kernel
theorem d3 : decode yB 3 = .ok (.iload 5, 2) := by decide +kernel
theorem d5 : decode yB 5 = .ok (.iload 4, 2) := by decide +kernel
theorem d7 : decode yB 7 = .ok (.if_icmp (.ge) 37, 3) := by decide +kernel
theorem d10 : decode yB 10 = .ok (.aload_n 0, 1) := by decide +kernel
theorem d11 : decode yB 11 = .ok (.iload_n 1, 1) := by decide +kernel
theorem d12 : decode yB 12 = .ok (.caload, 1) := by decide +kernel
theorem d13 : decode yB 13 = .ok (.istore 6, 2) := by decide +kernel
theorem d15 : decode yB 15 = .ok (.iload 6, 2) := by decide +kernel
theorem d17 : decode yB 17 = .ok (.sipush 255, 3) := by decide +kernel
theorem d20 : decode yB 20 = .ok (.if_icmp (.le) 6, 3) := by decide +kernel
theorem d26 : decode yB 26 = .ok (.aload_n 2, 1) := by decide +kernel
theorem d27 : decode yB 27 = .ok (.iload_n 3, 1) := by decide +kernel
theorem d28 : decode yB 28 = .ok (.iload 6, 2) := by decide +kernel
theorem d30 : decode yB 30 = .ok (.i2b, 1) := by decide +kernel
theorem d31 : decode yB 31 = .ok (.bastore, 1) := by decide +kernel
theorem d32 : decode yB 32 = .ok (.iinc 1 1, 3) := by decide +kernel
theorem d35 : decode yB 35 = .ok (.iinc 3 1, 3) := by decide +kernel
theorem d38 : decode yB 38 = .ok (.iinc 5 1, 3) := by decide +kernel
theorem d41 : decode yB 41 = .ok (.goto (-38), 3) := by decide +kernel
theorem d44 : decode yB 44 = .ok (.iload 4, 2) := by decide +kernel
theorem d46 : decode yB 46 = .ok (.ireturn, 1) := by decide +kernel
def site : List Cond := []
def tab : Cond := tabOf yN yB 7 (some .int) site
def P (b : Addr) (A : Cell) (d : Addr) (B : Cell) (o q len : Nat) (args : Array Value) (s : State) : Prop := args = #[.ref b, .int (Int32.ofNat o), .ref d, .int (Int32.ofNat q), .int (Int32.ofNat len)] ∧ Ch b A s ∧ Arr .byte d B s ∧ b ≠ d ∧ o + len ≤ A.slots.size ∧ q + len ≤ B.slots.size ∧ ∀ i, i < len → ¬ 255 < cv A (o + i)
def E (b : Addr) (A : Cell) (d : Addr) (B : Cell) (o q len : Nat) (r : Option Value) (s u : State) : Prop := r = some (.int (Int32.ofNat len)) ∧ ∃ B', Put d B' s u ∧ Laid B B' q (q + len) (fun j => Value.int (lo8 (cv A (o + (j - q)))))
/-- no char of the range above 255: len; the places written hold each char's low byte -/
theorem law (l : Launch) (b : Addr) (A : Cell) (d : Addr) (B : Cell) (o q len : Nat) : Law l yN 5 5 0 0 yB 7 (some .int) site (P b A d B o q len) (E b A d B o q len) (copyLocs d q len) 0 0 := by
  refine Law.of_walk (plainFor_of_name (by decide +kernel)) (by decide +kernel) (by decide +kernel) (by decide) (fun _ _ h => by rw [h.1]; rfl) (fun _ U U' hal hh h => ⟨h.1, h.2.1.mv hal hh, h.2.2.1.mv hal hh, h.2.2.2⟩) (fun r U U' V V' h1 hal h2 h => ⟨h.1, h.2.elim fun B' q => ⟨B', q.1.mv h1 h2, q.2⟩⟩) ?_
  intro p e s m args below meth c s₁ X0 hexec hbytes hml hret hlk hnm hown hh0 W hP
  obtain ⟨rfl, hA, hB, hne, l1, l2, hp⟩ := hP
  have c1 : Steps p.tables e below (s₁.setTop (entryFrame m #[.ref b, .int (Int32.ofNat o), .ref d, .int (Int32.ofNat q), .int (Int32.ofNat len)] 7)) (s₁.setTop (mkF m 0 #[.val (.ref b), .val (.int (Int32.ofNat o)), .val (.ref d), .val (.int (Int32.ofNat q)), .val (.int (Int32.ofNat len)), .unset, .unset] [])) := entry rfl
  have hA0 := hA.1.mv X0.warmed.alike hh0
  have hB0 := hB.mv X0.warmed.alike hh0
  have a31 := hA.1.2.2.2
  have c2 : Steps p.tables e below (s₁.setTop (entryFrame m #[.ref b, .int (Int32.ofNat o), .ref d, .int (Int32.ofNat q), .int (Int32.ofNat len)] 7)) (s₁.setTop (mkF m 3 #[.val (.ref b), .val (.int (Int32.ofNat o)), .val (.ref d), .val (.int (Int32.ofNat q)), .val (.int (Int32.ofNat len)), .val (.int 0), .unset] [])) := c1.trans (by
    refine iconstV X0.here hexec rfl 0 (hb hbytes d0) (by decide) ?_
    refine XS.istore X0.here hexec rfl (hb hbytes d1) rfl rfl ?_
    exact Steps.refl _)
  have loop : ∀ (r i : Nat), i + r = len → ∀ (z : Slot), (z = .unset ∨ ∃ w, z = .val w ∧ w.category = 1) → ∀ (Tl : State) (Bk : Cell), Stand p l e { frames := 0, locals := 0, cells := 0, slots := 0 } s m #[.ref b, .int (Int32.ofNat o), .ref d, .int (Int32.ofNat q), .int (Int32.ofNat len)] below meth c Tl ([] ++ copyLocs d q i) 0 0 → Put d Bk s₁ Tl → Laid B Bk q (q + i) (fun j => Value.int (lo8 (cv A (o + (j - q))))) →
      Steps p.tables e below (s₁.setTop (entryFrame m #[.ref b, .int (Int32.ofNat o), .ref d, .int (Int32.ofNat q), .int (Int32.ofNat len)] 7)) (Tl.setTop (mkF m 3 #[.val (.ref b), .val (.int (Int32.ofNat (o + i))), .val (.ref d), .val (.int (Int32.ofNat (q + i))), .val (.int (Int32.ofNat len)), .val (.int (Int32.ofNat i)), z] [])) → ∃ (T' : State) (B' : Cell) (z' : Slot), Stand p l e { frames := 0, locals := 0, cells := 0, slots := 0 } s m #[.ref b, .int (Int32.ofNat o), .ref d, .int (Int32.ofNat q), .int (Int32.ofNat len)] below meth c T' ([] ++ copyLocs d q len) 0 0 ∧ Put d B' s₁ T' ∧ Laid B B' q (q + len) (fun j => Value.int (lo8 (cv A (o + (j - q))))) ∧
      Steps p.tables e below (s₁.setTop (entryFrame m #[.ref b, .int (Int32.ofNat o), .ref d, .int (Int32.ofNat q), .int (Int32.ofNat len)] 7)) (T'.setTop (mkF m 3 #[.val (.ref b), .val (.int (Int32.ofNat (o + len))), .val (.ref d), .val (.int (Int32.ofNat (q + len))), .val (.int (Int32.ofNat len)), .val (.int (Int32.ofNat len)), z'] [])) := by
    intro r
    induction r with
    | zero =>
      intro i hi z hz Tl Bk Xl pl fl cl
      have hil : i = len := by omega
      rw [hil] at Xl fl cl
      exact ⟨Tl, Bk, z, Xl, pl, fl, cl⟩
    | succ r ih =>
      intro i hi z hz Tl Bk Xl pl fl cl
      have all := X0.warmed.alike.symm.trans Xl.warmed.alike
      have hAl := hA0.keep all (pl.other hne hA0.1)
      have hBk := hB0.like all pl.1 fl.1 fl.2.1 fl.2.2.1
      have hlt : q + i < Bk.slots.size := by rw [fl.2.2.1]; omega
      have c3 : Steps p.tables e below (s₁.setTop (entryFrame m #[.ref b, .int (Int32.ofNat o), .ref d, .int (Int32.ofNat q), .int (Int32.ofNat len)] 7)) (Tl.setTop (mkF m 12 #[.val (.ref b), .val (.int (Int32.ofNat (o + i))), .val (.ref d), .val (.int (Int32.ofNat (q + i))), .val (.int (Int32.ofNat len)), .val (.int (Int32.ofNat i)), z] [.int (Int32.ofNat (o + i)), .ref b])) := cl.trans (by
        refine XS.iload Xl.here hexec rfl (hb hbytes d3) rfl ?_
        refine XS.iload Xl.here hexec rfl (hb hbytes d5) rfl ?_
        refine XS.icmpNo Xl.here hexec rfl (hb hbytes d7) rfl (ii_ge_f (lt32 (by omega) (by omega))) ?_
        refine XS.aloadN Xl.here hexec rfl (hb hbytes d10) rfl rfl ?_
        refine XS.iloadN Xl.here hexec rfl (hb hbytes d11) rfl ?_
        exact Steps.refl _)
      have c4 : Steps p.tables e below (s₁.setTop (entryFrame m #[.ref b, .int (Int32.ofNat o), .ref d, .int (Int32.ofNat q), .int (Int32.ofNat len)] 7)) (Tl.setTop (mkF m 13 #[.val (.ref b), .val (.int (Int32.ofNat (o + i))), .val (.ref d), .val (.int (Int32.ofNat (q + i))), .val (.int (Int32.ofNat len)), .val (.int (Int32.ofNat i)), z] [.int (cv A (o + i))])) := c3.trans (by
        refine Xl.aget hexec hAl rfl (hA.get (i := o + i) (by omega)) rfl rfl (hb hbytes d12) ?_
        exact Steps.refl _)
      have c5 : Steps p.tables e below (s₁.setTop (entryFrame m #[.ref b, .int (Int32.ofNat o), .ref d, .int (Int32.ofNat q), .int (Int32.ofNat len)] 7)) (Tl.setTop (mkF m 15 #[.val (.ref b), .val (.int (Int32.ofNat (o + i))), .val (.ref d), .val (.int (Int32.ofNat (q + i))), .val (.int (Int32.ofNat len)), .val (.int (Int32.ofNat i)), .val (.int (cv A (o + i)))] [])) := c4.trans (by
        refine XS.istoreS Xl.here hexec rfl (hb hbytes d13) rfl rfl hz ?_
        exact Steps.refl _)
      have c6 : Steps p.tables e below (s₁.setTop (entryFrame m #[.ref b, .int (Int32.ofNat o), .ref d, .int (Int32.ofNat q), .int (Int32.ofNat len)] 7)) (Tl.setTop (mkF m 31 #[.val (.ref b), .val (.int (Int32.ofNat (o + i))), .val (.ref d), .val (.int (Int32.ofNat (q + i))), .val (.int (Int32.ofNat len)), .val (.int (Int32.ofNat i)), .val (.int (cv A (o + i)))] [.int (lo8 (cv A (o + i))), .int (Int32.ofNat (q + i)), .ref d])) := c5.trans (by
        refine XS.iload Xl.here hexec rfl (hb hbytes d15) rfl ?_
        refine sipushV Xl.here hexec rfl 255 (hb hbytes d17) (by decide) ?_
        refine XS.icmpYes Xl.here hexec rfl (pc0 := 20) rfl (hb hbytes d20) rfl (ii_le_t (hp i (by omega))) (by decide) rfl ?_
        refine XS.aloadN Xl.here hexec rfl (hb hbytes d26) rfl rfl ?_
        refine XS.iloadN Xl.here hexec rfl (hb hbytes d27) rfl ?_
        refine XS.iload Xl.here hexec rfl (hb hbytes d28) rfl ?_
        refine i2b Xl.here hexec rfl (hb hbytes d30) rfl ?_
        exact Steps.refl _)
      obtain ⟨T7, X7, p7, st7⟩ := Xl.aput hexec hBk rfl hlt rfl (fits_lo8 (cv A (o + i))) (g := (mkF m 31 #[.val (.ref b), .val (.int (Int32.ofNat (o + i))), .val (.ref d), .val (.int (Int32.ofNat (q + i))), .val (.int (Int32.ofNat len)), .val (.int (Int32.ofNat i)), .val (.int (cv A (o + i)))] [.int (lo8 (cv A (o + i))), .int (Int32.ofNat (q + i)), .ref d])) rfl (rest := []) rfl (hb hbytes d31)
      have c8 : Steps p.tables e below (s₁.setTop (entryFrame m #[.ref b, .int (Int32.ofNat o), .ref d, .int (Int32.ofNat q), .int (Int32.ofNat len)] 7)) (T7.setTop (mkF m 32 #[.val (.ref b), .val (.int (Int32.ofNat (o + i))), .val (.ref d), .val (.int (Int32.ofNat (q + i))), .val (.int (Int32.ofNat len)), .val (.int (Int32.ofNat i)), .val (.int (cv A (o + i)))] [])) := c6.trans (st7 _ (Steps.refl _))
      have c9 : Steps p.tables e below (s₁.setTop (entryFrame m #[.ref b, .int (Int32.ofNat o), .ref d, .int (Int32.ofNat q), .int (Int32.ofNat len)] 7)) (T7.setTop (mkF m 3 #[.val (.ref b), .val (.int (Int32.ofNat (o + i) + 1)), .val (.ref d), .val (.int (Int32.ofNat (q + i) + 1)), .val (.int (Int32.ofNat len)), .val (.int (Int32.ofNat i + 1)), .val (.int (cv A (o + i)))] [])) := c8.trans (by
        refine iincV X7.here hexec rfl 1 (hb hbytes d32) (by decide) rfl rfl ?_
        refine iincV X7.here hexec rfl 1 (hb hbytes d35) (by decide) rfl rfl ?_
        refine iincV X7.here hexec rfl 1 (hb hbytes d38) (by decide) rfl rfl ?_
        refine XS.goto X7.here hexec rfl (pc0 := 41) rfl (hb hbytes d41) (by decide) rfl ?_
        exact Steps.refl _)
      have c10 : Steps p.tables e below (s₁.setTop (entryFrame m #[.ref b, .int (Int32.ofNat o), .ref d, .int (Int32.ofNat q), .int (Int32.ofNat len)] 7)) (T7.setTop (mkF m 3 #[.val (.ref b), .val (.int (Int32.ofNat (o + (i + 1)))), .val (.ref d), .val (.int (Int32.ofNat (q + (i + 1)))), .val (.int (Int32.ofNat len)), .val (.int (Int32.ofNat (i + 1))), .val (.int (cv A (o + i)))] [])) := by
        have := c9
        rw [succ32, succ32, succ32] at this
        exact this
      exact ih (i + 1) (by omega) _ (Or.inr ⟨_, rfl, rfl⟩) T7 _ (by rw [copyLocs_step, ← List.append_assoc]; exact X7) (pl.trans p7) (fl.step (by omega) hlt (by simp)) c10
  obtain ⟨T9, B9, z9, X9, p9, f9, g9⟩ := loop len 0 (by omega) .unset (Or.inl rfl) s₁ B (by simpa [copyLocs] using X0) ⟨hB0.1, fun _ _ => rfl, rfl⟩ (Laid.zero _ _ _) c2
  have c11 : Steps p.tables e below (s₁.setTop (entryFrame m #[.ref b, .int (Int32.ofNat o), .ref d, .int (Int32.ofNat q), .int (Int32.ofNat len)] 7)) (T9.setTop (mkF m 46 #[.val (.ref b), .val (.int (Int32.ofNat (o + len))), .val (.ref d), .val (.int (Int32.ofNat (q + len))), .val (.int (Int32.ofNat len)), .val (.int (Int32.ofNat len)), z9] [.int (Int32.ofNat len)])) := g9.trans (by
    refine XS.iload X9.here hexec rfl (hb hbytes d3) rfl ?_
    refine XS.iload X9.here hexec rfl (hb hbytes d5) rfl ?_
    refine XS.icmpYes X9.here hexec rfl (pc0 := 7) rfl (hb hbytes d7) rfl (ii_ge_t (nlt32 (by omega) (Nat.le_refl _))) (by decide) rfl ?_
    refine XS.iload X9.here hexec rfl (hb hbytes d44) rfl ?_
    exact Steps.refl _)
  exact ⟨T9, some (.int (Int32.ofNat len)), _, _, _, X9, by simp, rfl, rfl, (fun h => by cases h), ⟨rfl, B9, p9.from hh0, f9⟩, fun fs hl => c11.trans (X9.ireturnOut hexec hret rfl (Or.inl rfl) (hb hbytes d46) hl)⟩
end Cmp5
namespace Cmp3
def yN : MethodName := ⟨"java/lang/StringUTF16", "compress", "([CII)[B"⟩
abbrev yB : ByteArray := jdk_52_method_16_code
theorem d0 : decode yB 0 = .ok (.iload_n 2, 1) := by decide +kernel
theorem d1 : decode yB 1 = .ok (.newarray .byte, 2) := by decide +kernel
theorem d3 : decode yB 3 = .ok (.astore_n 3, 1) := by decide +kernel
theorem d4 : decode yB 4 = .ok (.aload_n 0, 1) := by decide +kernel
theorem d5 : decode yB 5 = .ok (.iload_n 1, 1) := by decide +kernel
theorem d6 : decode yB 6 = .ok (.aload_n 3, 1) := by decide +kernel
theorem d7 : decode yB 7 = .ok (.iconst 0, 1) := by decide +kernel
theorem d8 : decode yB 8 = .ok (.iload_n 2, 1) := by decide +kernel
theorem d9 : decode yB 9 = .ok (.invokestatic 115, 3) := by decide +kernel
theorem d12 : decode yB 12 = .ok (.istore 4, 2) := by decide +kernel
theorem d14 : decode yB 14 = .ok (.iload 4, 2) := by decide +kernel
theorem d16 : decode yB 16 = .ok (.iload_n 2, 1) := by decide +kernel
theorem d17 : decode yB 17 = .ok (.if_icmp (.eq) 40, 3) := by decide +kernel
theorem d57 : decode yB 57 = .ok (.aload_n 3, 1) := by decide +kernel
theorem d58 : decode yB 58 = .ok (.areturn, 1) := by decide +kernel
def site : List Cond := [.arrayClass .byte, Cmp5.tab] ++ staticW U16 115 Cmp5.yN
def tab : Cond := tabOf yN yB 6 (some (.array .byte)) site
def P (b : Addr) (A : Cell) (o len : Nat) (args : Array Value) (s : State) : Prop := args = #[.ref b, .int (Int32.ofNat o), .int (Int32.ofNat len)] ∧ Ch b A s ∧ o + len ≤ A.slots.size ∧ len ≤ 536870912 ∧ ∀ i, i < len → ¬ 255 < cv A (o + i)
def E (b : Addr) (A : Cell) (o len : Nat) (r : Option Value) (s u : State) : Prop := NewArr .byte "[B" len (fun j => .int (lo8 (cv A (o + j)))) r s u ∧ u.heap.size = s.heap.size + 1
/-- no char of the range above 255: a new byte[] of their low bytes -/
theorem law (l : Launch) (b : Addr) (A : Cell) (o len : Nat) : Law l yN 3 3 1 18 yB 6 (some (.array .byte)) site (P b A o len) (E b A o len) [] 1 len := by
  refine Law.of_walk (plainFor_of_name (by decide +kernel)) (by decide +kernel) (by decide +kernel) (by decide) (fun _ _ h => by rw [h.1]; rfl) (fun _ U U' hal hh h => ⟨h.1, h.2.1.mv hal hh, h.2.2⟩) (fun r U U' V V' h1 hal h2 h => ⟨NewArr.mv r U U' V V' h1 hal h2 h.1, by rw [h1, h2]; exact h.2⟩) ?_
  intro p e s m args below meth c s₁ X0 hexec hbytes hml hret hlk hnm hown hh0 W hP
  obtain ⟨rfl, hA, l1, l2, hp⟩ := hP
  have a31 := hA.1.2.2.2
  have c1 : Steps p.tables e below (s₁.setTop (entryFrame m #[.ref b, .int (Int32.ofNat o), .int (Int32.ofNat len)] 6)) (s₁.setTop (mkF m 0 #[.val (.ref b), .val (.int (Int32.ofNat o)), .val (.int (Int32.ofNat len)), .unset, .unset, .unset] [])) := entry rfl
  have c2 : Steps p.tables e below (s₁.setTop (entryFrame m #[.ref b, .int (Int32.ofNat o), .int (Int32.ofNat len)] 6)) (s₁.setTop (mkF m 1 #[.val (.ref b), .val (.int (Int32.ofNat o)), .val (.int (Int32.ofNat len)), .unset, .unset, .unset] [.int (Int32.ofNat len)])) := c1.trans (by
    refine XS.iloadN X0.here hexec rfl (hb hbytes d0) rfl ?_
    exact Steps.refl _)
  obtain ⟨T3, B3, X3, ba3, bs3, bv3, bh3, bf3, st3⟩ := X0.anew hexec (atype := .byte) (wk W (.arrayClass .byte)) rfl (by show len * 1 ≤ _; omega) (by omega) (g := (mkF m 1 #[.val (.ref b), .val (.int (Int32.ofNat o)), .val (.int (Int32.ofNat len)), .unset, .unset, .unset] [.int (Int32.ofNat len)])) rfl (hb hbytes d1) (rest := []) rfl (Nat.le_refl _) (by show 0 + len ≤ len; omega)
  rw [hh0] at ba3 st3
  have kp3 : XT.Kept s T3 := (XT.Kept.of_eq hh0).push bh3
  have hA3 := hA.keep X3.warmed.alike (kp3 _ _ hA.1.1)
  have hne : b ≠ s.heap.size := hA.1.ne
  have c4 : Steps p.tables e below (s₁.setTop (entryFrame m #[.ref b, .int (Int32.ofNat o), .int (Int32.ofNat len)] 6)) (T3.setTop (mkF m 3 #[.val (.ref b), .val (.int (Int32.ofNat o)), .val (.int (Int32.ofNat len)), .unset, .unset, .unset] [.ref s.heap.size])) := c2.trans (st3 _ (Steps.refl _))
  have c5 : Steps p.tables e below (s₁.setTop (entryFrame m #[.ref b, .int (Int32.ofNat o), .int (Int32.ofNat len)] 6)) (T3.setTop (mkF m 9 #[.val (.ref b), .val (.int (Int32.ofNat o)), .val (.int (Int32.ofNat len)), .val (.ref s.heap.size), .unset, .unset] [.int (Int32.ofNat len), .int 0, .ref s.heap.size, .int (Int32.ofNat o), .ref b])) := c4.trans (by
    refine XS.astoreN X3.here hexec rfl (hb hbytes d3) rfl rfl rfl ?_
    refine XS.aloadN X3.here hexec rfl (hb hbytes d4) rfl rfl ?_
    refine XS.iloadN X3.here hexec rfl (hb hbytes d5) rfl ?_
    refine XS.aloadN X3.here hexec rfl (hb hbytes d6) rfl rfl ?_
    refine iconstV X3.here hexec rfl 0 (hb hbytes d7) (by decide) ?_
    refine XS.iloadN X3.here hexec rfl (hb hbytes d8) rfl ?_
    exact Steps.refl _)
  obtain ⟨v6, T6, X6, E6, g6⟩ := X3.callS hexec (Cmp5.law l b A s.heap.size B3 o 0 len) hown (wks W (staticW U16 115 Cmp5.yN)) (wk W Cmp5.tab) (W := 0) (Nat.le_of_ble_eq_true rfl) (Nat.le_of_ble_eq_true rfl) (Nat.le_refl _) (by show 0 + len + 0 ≤ len; omega) (g := (mkF m 9 #[.val (.ref b), .val (.int (Int32.ofNat o)), .val (.int (Int32.ofNat len)), .val (.ref s.heap.size), .unset, .unset] [.int (Int32.ofNat len), .int (Int32.ofNat 0), .ref s.heap.size, .int (Int32.ofNat o), .ref b])) rfl (by rw [hml]; rfl) c5 (argsL := [.ref b, .int (Int32.ofNat o), .ref s.heap.size, .int (Int32.ofNat 0), .int (Int32.ofNat len)]) (rest := []) rfl rfl (by show 2 * 0 + 0 ≤ _; decide) (hb hbytes d9) (⟨rfl, hA3, ba3, hne, l1, by rw [bs3]; simp, hp⟩)
  obtain ⟨rfl, B6, p6, f6⟩ := E6
  have c7 : Steps p.tables e below (s₁.setTop (entryFrame m #[.ref b, .int (Int32.ofNat o), .int (Int32.ofNat len)] 6)) (T6.setTop (mkF m 12 #[.val (.ref b), .val (.int (Int32.ofNat o)), .val (.int (Int32.ofNat len)), .val (.ref s.heap.size), .unset, .unset] [.int (Int32.ofNat len)])) := g6
  have c8 : Steps p.tables e below (s₁.setTop (entryFrame m #[.ref b, .int (Int32.ofNat o), .int (Int32.ofNat len)] 6)) (T6.setTop (mkF m 58 #[.val (.ref b), .val (.int (Int32.ofNat o)), .val (.int (Int32.ofNat len)), .val (.ref s.heap.size), .val (.int (Int32.ofNat len)), .unset] [.ref s.heap.size])) := c7.trans (by
    refine XS.istore X6.here hexec rfl (hb hbytes d12) rfl rfl ?_
    refine XS.iload X6.here hexec rfl (hb hbytes d14) rfl ?_
    refine XS.iloadN X6.here hexec rfl (hb hbytes d16) rfl ?_
    refine XS.icmpYes X6.here hexec rfl (pc0 := 17) rfl (hb hbytes d17) rfl (ii_eq_t rfl) (by decide) rfl ?_
    refine XS.aloadN X6.here hexec rfl (hb hbytes d57) rfl rfl ?_
    exact Steps.refl _)
  have X8 := X6.wide (L' := []) (cells' := 1) (slots' := len) (fun x hx hlt => by
    simp only [List.nil_append, copyLocs, List.mem_map, List.mem_range] at hx
    obtain ⟨i, -, rfl⟩ := hx
    exact absurd hlt (Nat.lt_irrefl _)) (Nat.le_refl _) (by omega)
  exact ⟨T6, some (.ref s.heap.size), _, _, _, X8, rfl, rfl, rfl, (fun h => by cases h), ⟨⟨rfl, B6, ba3.like (X3.warmed.alike.symm.trans X6.warmed.alike) p6.1 f6.1 f6.2.1 f6.2.2.1, f6.2.1.trans bv3, by rw [X6.warmed.alike.findClass, f6.1]; exact bf3, by rw [f6.2.2.1, bs3]; simp, fun j hj => by rw [f6.2.2.2 j, if_pos (by omega)]; rfl, kp3.put p6 (Nat.le_refl _)⟩, by rw [p6.2.2, bh3, hh0]; simp⟩, fun fs hl => c8.trans (X8.areturnOut hexec rfl hret rfl (hb hbytes d58) hl)⟩
end Cmp3
namespace CodL
def yN : MethodName := ⟨"java/lang/StringUTF16", "coderFromArrayLen", "([BI)B"⟩
abbrev yB : ByteArray := jdk_52_method_15_code
theorem d0 : decode yB 0 = .ok (.iload_n 1, 1) := by decide +kernel
theorem d1 : decode yB 1 = .ok (.aload_n 0, 1) := by decide +kernel
theorem d2 : decode yB 2 = .ok (.arraylength, 1) := by decide +kernel
theorem d3 : decode yB 3 = .ok (.isub, 1) := by decide +kernel
theorem d4 : decode yB 4 = .ok (.bipush 31, 2) := by decide +kernel
theorem d6 : decode yB 6 = .ok (.iushr, 1) := by decide +kernel
theorem d7 : decode yB 7 = .ok (.i2b, 1) := by decide +kernel
theorem d8 : decode yB 8 = .ok (.ireturn, 1) := by decide +kernel
def site : List Cond := []
def tab : Cond := tabOf yN yB 2 (some .byte) site
def P (d : Addr) (B : Cell) (args : Array Value) (s : State) : Prop := args = #[.ref d, .int (Int32.ofNat B.slots.size)] ∧ Arr .byte d B s
def E (r : Option Value) (s u : State) : Prop := XT.PureE (some (.int 0)) r s u
/-- an array as long as the number of chars: LATIN1 -/
theorem law (l : Launch) (d : Addr) (B : Cell) : Law l yN 2 2 0 0 yB 2 (some .byte) site (P d B) E [] 0 0 := by
  refine Law.of_walk (plainFor_of_name (by decide +kernel)) (by decide +kernel) (by decide +kernel) (by decide) (fun _ _ h => by rw [h.1]; rfl) (fun _ U U' hal hh h => ⟨h.1, h.2.mv hal hh⟩) (fun r U U' V V' h1 hal h2 h => XT.PureE.mv r U U' V V' h1 hal h2 h) ?_
  intro p e s m args below meth c s₁ X0 hexec hbytes hml hret hlk hnm hown hh0 W hP
  obtain ⟨rfl, hB⟩ := hP
  have hB0 := hB.mv X0.warmed.alike hh0
  have c1 : Steps p.tables e below (s₁.setTop (entryFrame m #[.ref d, .int (Int32.ofNat B.slots.size)] 2)) (s₁.setTop (mkF m 0 #[.val (.ref d), .val (.int (Int32.ofNat B.slots.size))] [])) := entry rfl
  have c2 : Steps p.tables e below (s₁.setTop (entryFrame m #[.ref d, .int (Int32.ofNat B.slots.size)] 2)) (s₁.setTop (mkF m 2 #[.val (.ref d), .val (.int (Int32.ofNat B.slots.size))] [.ref d, .int (Int32.ofNat B.slots.size)])) := c1.trans (by
    refine XS.iloadN X0.here hexec rfl (hb hbytes d0) rfl ?_
    refine XS.aloadN X0.here hexec rfl (hb hbytes d1) rfl rfl ?_
    exact Steps.refl _)
  have c3 : Steps p.tables e below (s₁.setTop (entryFrame m #[.ref d, .int (Int32.ofNat B.slots.size)] 2)) (s₁.setTop (mkF m 8 #[.val (.ref d), .val (.int (Int32.ofNat B.slots.size))] [.int (lo8 (ushr (Int32.ofNat B.slots.size - Int32.ofNat B.slots.size) 31))])) := c2.trans (by
    refine X0.alen hexec hB0 rfl rfl (hb hbytes d2) ?_
    refine XS.isub X0.here hexec rfl (hb hbytes d3) rfl ?_
    refine bipushV X0.here hexec rfl 31 (hb hbytes d4) (by decide) ?_
    refine iushr X0.here hexec rfl (hb hbytes d6) rfl ?_
    refine i2b X0.here hexec rfl (hb hbytes d7) rfl ?_
    exact Steps.refl _)
  have e0 : lo8 (ushr (Int32.ofNat B.slots.size - Int32.ofNat B.slots.size) 31) = 0 := by rw [Int32.sub_self]; decide
  rw [e0] at c3
  exact ⟨s₁, some (.int 0), _, _, _, X0, rfl, rfl, rfl, (fun h => by cases h), ⟨rfl, hh0⟩, fun fs hl => c3.trans (X0.ireturnOut hexec hret rfl (Or.inr (Or.inr (Or.inl rfl))) (hb hbytes d8) hl)⟩
end CodL
/-- the String at a is Latin-1 over a new byte[] (the heap's one new cell): the low bytes of the len chars of A from o on; every cell but a is kept -/
def Got (a : Addr) (D : Cell) (fV fC : Field) (A : Cell) (o len : Nat) (r : Option Value) (s u : State) : Prop := r = none ∧ ∃ D' V : Cell, Blank "java/lang/String" a D' u ∧ Same D D' [fV.slot, fC.slot] ∧ D'.slots[fV.slot]? = some (.ref s.heap.size) ∧ D'.slots[fC.slot]? = some (.int 0) ∧ Arr .byte s.heap.size V u ∧ V.vm = .none ∧ u.vm.findClass "[B" = some V.cls ∧ V.slots.size = len ∧ (∀ j, j < len → V.slots[j]? = some (.int (lo8 (cv A (o + j))))) ∧ (∀ (y : Addr) (c : Cell), y ≠ a → s.heap[y]? = some c → u.heap[y]? = some c) ∧ u.heap.size = s.heap.size + 1
theorem Got.mv {a : Addr} {D A : Cell} {fV fC : Field} {o len : Nat} : ∀ r (U U' V V' : State), U'.heap = U.heap → V.vm.Alike V'.vm → V'.heap = V.heap → Got a D fV fC A o len r U V → Got a D fV fC A o len r U' V' :=
  fun r U U' V V' h1 hal h2 ⟨e0, D', X, a1, a2, a3, a4, a5, a6, a7, a8, a9, a10, a11⟩ => ⟨e0, D', X, a1.mv hal h2, a2, by rw [h1]; exact a3, a4, by rw [h1]; exact a5.mv hal h2, a6, by rw [hal.findClass]; exact a7, a8, a9, by rw [h1, h2]; exact a10, by rw [h1, h2]; exact a11⟩
namespace New4
def yN : MethodName := ⟨"java/lang/String", "<init>", "([CIILjava/lang/Void;)V"⟩
abbrev yB : ByteArray := jdk_42_method_149_code
theorem d0 : decode yB 0 = .ok (.aload_n 0, 1) := by decide +kernel
theorem d1 : decode yB 1 = .ok (.invokespecial 1, 3) := by decide +kernel
theorem d4 : decode yB 4 = .ok (.iload_n 3, 1) := by decide +kernel
theorem d5 : decode yB 5 = .ok (.ifCond (.ne) 22, 3) := by decide +kernel
theorem d27 : decode yB 27 = .ok (.getstatic 38, 3) := by decide +kernel
theorem d30 : decode yB 30 = .ok (.ifCond (.eq) 28, 3) := by decide +kernel
theorem d33 : decode yB 33 = .ok (.aload_n 1, 1) := by decide +kernel
theorem d34 : decode yB 34 = .ok (.iload_n 2, 1) := by decide +kernel
theorem d35 : decode yB 35 = .ok (.iload_n 3, 1) := by decide +kernel
theorem d36 : decode yB 36 = .ok (.invokestatic 177, 3) := by decide +kernel
theorem d39 : decode yB 39 = .ok (.astore 5, 2) := by decide +kernel
theorem d41 : decode yB 41 = .ok (.aload_n 0, 1) := by decide +kernel
theorem d42 : decode yB 42 = .ok (.aload 5, 2) := by decide +kernel
theorem d44 : decode yB 44 = .ok (.iload_n 3, 1) := by decide +kernel
theorem d45 : decode yB 45 = .ok (.invokestatic 47, 3) := by decide +kernel
theorem d48 : decode yB 48 = .ok (.putfield 15, 3) := by decide +kernel
theorem d51 : decode yB 51 = .ok (.aload_n 0, 1) := by decide +kernel
theorem d52 : decode yB 52 = .ok (.aload 5, 2) := by decide +kernel
theorem d54 : decode yB 54 = .ok (.putfield 9, 3) := by decide +kernel
theorem d57 : decode yB 57 = .ok (.return_, 1) := by decide +kernel
def site : List Cond := [.fieldLink "java/lang/String" 38 "java/lang/String" "COMPACT_STRINGS" "Z", Cmp3.tab, CodL.tab, .laysFinal "java/lang/String" "java/lang/String" "value" "[B", .fieldLink "java/lang/String" 9 "java/lang/String" "value" "[B", .laysFinal "java/lang/String" "java/lang/String" "coder" "B", .fieldLink "java/lang/String" 15 "java/lang/String" "coder" "B"] ++ objW "java/lang/String" 1 ++ staticW "java/lang/String" 177 Cmp3.yN ++ staticW "java/lang/String" 47 CodL.yN
def tab : Cond := tabOf yN yB 6 none site
def P (a : Addr) (D : Cell) (fV fC : Field) (b : Addr) (A : Cell) (z : Int32) (o len : Nat) (args : Array Value) (s : State) : Prop := args = #[.ref a, .ref b, .int (Int32.ofNat o), .int (Int32.ofNat len), .null] ∧ Blank "java/lang/String" a D s ∧ Found "java/lang/String" "value" "[B" fV s ∧ Found "java/lang/String" "coder" "B" fC s ∧ Ch b A s ∧ StaticIs s "java/lang/String" "COMPACT_STRINGS" "Z" (.int z) ∧ ¬ z = 0 ∧ 0 < len ∧ o + len ≤ A.slots.size ∧ len ≤ 536870912 ∧ ∀ i, i < len → ¬ 255 < cv A (o + i)
def E (a : Addr) (D : Cell) (fV fC : Field) (A : Cell) (o len : Nat) (r : Option Value) (s u : State) : Prop := Got a D fV fC A o len r s u
/-- len > 0, no char of the range above 255: a Latin-1 String of their low bytes -/
theorem law (l : Launch) (a : Addr) (D : Cell) (fV fC : Field) (b : Addr) (A : Cell) (z : Int32) (o len : Nat) : Law l yN 5 4 2 35 yB 6 none site (P a D fV fC b A z o len) (E a D fV fC A o len) [⟨a, fC.slot⟩, ⟨a, fV.slot⟩] 1 len := by
  refine Law.of_walk (plainFor_of_name (by decide +kernel)) (by decide +kernel) (by decide +kernel) (by decide) (fun _ _ h => by rw [h.1]; rfl) (fun _ U U' hal hh h => ⟨h.1, h.2.1.mv hal hh, h.2.2.1.al hal, h.2.2.2.1.al hal, h.2.2.2.2.1.mv hal hh, h.2.2.2.2.2.1.there hal hh, h.2.2.2.2.2.2⟩) (fun r U U' V V' h1 hal h2 h => Got.mv r U U' V V' h1 hal h2 h) ?_
  intro p e s m args below meth c s₁ X0 hexec hbytes hml hret hlk hnm hown hh0 W hP
  obtain ⟨rfl, hB, f1, f2, hA, s1, hz, l0, l1, l2, hp⟩ := hP
  have a31 := hA.1.2.2.2
  have c1 : Steps p.tables e below (s₁.setTop (entryFrame m #[.ref a, .ref b, .int (Int32.ofNat o), .int (Int32.ofNat len), .null] 6)) (s₁.setTop (mkF m 0 #[.val (.ref a), .val (.ref b), .val (.int (Int32.ofNat o)), .val (.int (Int32.ofNat len)), .val .null, .unset] [])) := entry rfl
  have c2 : Steps p.tables e below (s₁.setTop (entryFrame m #[.ref a, .ref b, .int (Int32.ofNat o), .int (Int32.ofNat len), .null] 6)) (s₁.setTop (mkF m 1 #[.val (.ref a), .val (.ref b), .val (.int (Int32.ofNat o)), .val (.int (Int32.ofNat len)), .val .null, .unset] [.ref a])) := c1.trans (by
    refine XS.aloadN X0.here hexec rfl (hb hbytes d0) rfl rfl ?_
    exact Steps.refl _)
  obtain ⟨T3, X3, q3, st3⟩ := X0.oinit hexec hown (wks W (objW "java/lang/String" 1)) (g := (mkF m 1 #[.val (.ref a), .val (.ref b), .val (.int (Int32.ofNat o)), .val (.int (Int32.ofNat len)), .val .null, .unset] [.ref a])) rfl (by rw [hml]; rfl) (rest := []) rfl (hb hbytes d1) (W := 0) (by show 2 * 0 + 0 ≤ _; decide) (Nat.le_of_ble_eq_true rfl) (Nat.le_of_ble_eq_true rfl)
  have hh3 := q3.trans hh0
  have c4 : Steps p.tables e below (s₁.setTop (entryFrame m #[.ref a, .ref b, .int (Int32.ofNat o), .int (Int32.ofNat len), .null] 6)) (T3.setTop (mkF m 27 #[.val (.ref a), .val (.ref b), .val (.int (Int32.ofNat o)), .val (.int (Int32.ofNat len)), .val .null, .unset] [])) := (c2.trans (st3 _ (Steps.refl _))).trans (by
    refine XS.iloadN X3.here hexec rfl (hb hbytes d4) rfl ?_
    refine XS.ifYes X3.here hexec rfl (pc0 := 5) rfl (hb hbytes d5) rfl (i0_ne_t (nz32 (by omega) l0)) (by decide) rfl ?_
    exact Steps.refl _)
  obtain ⟨T5, X5, q5, st5⟩ := X3.sget hexec hown (wk W (.fieldLink "java/lang/String" 38 "java/lang/String" "COMPACT_STRINGS" "Z")) s1 (fun _ _ h => by rw [hh3]; exact h) (g := (mkF m 27 #[.val (.ref a), .val (.ref b), .val (.int (Int32.ofNat o)), .val (.int (Int32.ofNat len)), .val .null, .unset] [])) rfl (hb hbytes d27)
  have hh5 := q5.trans hh3
  have c6 : Steps p.tables e below (s₁.setTop (entryFrame m #[.ref a, .ref b, .int (Int32.ofNat o), .int (Int32.ofNat len), .null] 6)) (T5.setTop (mkF m 30 #[.val (.ref a), .val (.ref b), .val (.int (Int32.ofNat o)), .val (.int (Int32.ofNat len)), .val .null, .unset] [.int z])) := c4.trans (st5 _ (Steps.refl _))
  have c7 : Steps p.tables e below (s₁.setTop (entryFrame m #[.ref a, .ref b, .int (Int32.ofNat o), .int (Int32.ofNat len), .null] 6)) (T5.setTop (mkF m 36 #[.val (.ref a), .val (.ref b), .val (.int (Int32.ofNat o)), .val (.int (Int32.ofNat len)), .val .null, .unset] [.int (Int32.ofNat len), .int (Int32.ofNat o), .ref b])) := c6.trans (by
    refine XS.ifNo X5.here hexec rfl (hb hbytes d30) rfl (i0_eq_f hz) ?_
    refine XS.aloadN X5.here hexec rfl (hb hbytes d33) rfl rfl ?_
    refine XS.iloadN X5.here hexec rfl (hb hbytes d34) rfl ?_
    refine XS.iloadN X5.here hexec rfl (hb hbytes d35) rfl ?_
    exact Steps.refl _)
  obtain ⟨v8, T8, X8, E8, g8⟩ := X5.callS hexec (Cmp3.law l b A o len) hown (wks W (staticW "java/lang/String" 177 Cmp3.yN)) (wk W Cmp3.tab) (W := 0) (Nat.le_of_ble_eq_true rfl) (Nat.le_of_ble_eq_true rfl) (Nat.le_refl _) (by show 0 + len ≤ len; omega) (g := (mkF m 36 #[.val (.ref a), .val (.ref b), .val (.int (Int32.ofNat o)), .val (.int (Int32.ofNat len)), .val .null, .unset] [.int (Int32.ofNat len), .int (Int32.ofNat o), .ref b])) rfl (by rw [hml]; rfl) c7 (argsL := [.ref b, .int (Int32.ofNat o), .int (Int32.ofNat len)]) (rest := []) rfl rfl (by show 2 * 0 + 0 ≤ _; decide) (hb hbytes d36) (⟨rfl, hA.mv X5.warmed.alike hh5, l1, l2, hp⟩)
  obtain ⟨e8, z8⟩ := E8
  obtain ⟨rfl, N, n1, n2, n3, n4, n5, n6⟩ := NewArr.mv _ T5 s _ _ hh5.symm (Vm.Alike.refl _) rfl e8
  rw [hh5] at z8
  have hB1 := hB.keep X8.warmed.alike (n6 _ _ hB.1)
  have hne : s.heap.size ≠ a := (Nat.ne_of_lt (Array.getElem?_eq_some_iff.mp hB.1).1).symm
  have c9 : Steps p.tables e below (s₁.setTop (entryFrame m #[.ref a, .ref b, .int (Int32.ofNat o), .int (Int32.ofNat len), .null] 6)) (T8.setTop (mkF m 39 #[.val (.ref a), .val (.ref b), .val (.int (Int32.ofNat o)), .val (.int (Int32.ofNat len)), .val .null, .unset] [.ref s.heap.size])) := g8
  have c10 : Steps p.tables e below (s₁.setTop (entryFrame m #[.ref a, .ref b, .int (Int32.ofNat o), .int (Int32.ofNat len), .null] 6)) (T8.setTop (mkF m 45 #[.val (.ref a), .val (.ref b), .val (.int (Int32.ofNat o)), .val (.int (Int32.ofNat len)), .val .null, .val (.ref s.heap.size)] [.int (Int32.ofNat N.slots.size), .ref s.heap.size, .ref a])) := by
    have hc : Steps p.tables e below (s₁.setTop (entryFrame m #[.ref a, .ref b, .int (Int32.ofNat o), .int (Int32.ofNat len), .null] 6)) (T8.setTop (mkF m 45 #[.val (.ref a), .val (.ref b), .val (.int (Int32.ofNat o)), .val (.int (Int32.ofNat len)), .val .null, .val (.ref s.heap.size)] [.int (Int32.ofNat len), .ref s.heap.size, .ref a])) := c9.trans (by
      refine XS.astore X8.here hexec rfl (hb hbytes d39) rfl rfl rfl ?_
      refine XS.aloadN X8.here hexec rfl (hb hbytes d41) rfl rfl ?_
      refine XS.aload X8.here hexec rfl (hb hbytes d42) rfl rfl ?_
      refine XS.iloadN X8.here hexec rfl (hb hbytes d44) rfl ?_
      exact Steps.refl _)
    rw [n4]; exact hc
  obtain ⟨v11, T11, X11, E11, g11⟩ := X8.callS hexec (CodL.law l s.heap.size N) hown (wks W (staticW "java/lang/String" 47 CodL.yN)) (wk W CodL.tab) (W := 1) (Nat.le_of_ble_eq_true rfl) (Nat.le_of_ble_eq_true rfl) (Nat.le_refl _) (by show 0 + len + 0 ≤ len; omega) (g := (mkF m 45 #[.val (.ref a), .val (.ref b), .val (.int (Int32.ofNat o)), .val (.int (Int32.ofNat len)), .val .null, .val (.ref s.heap.size)] [.int (Int32.ofNat N.slots.size), .ref s.heap.size, .ref a])) rfl (by rw [hml]; rfl) c10 (argsL := [.ref s.heap.size, .int (Int32.ofNat N.slots.size)]) (rest := [.ref a]) rfl rfl (by show 2 * 0 + (1 + 0) ≤ _; decide) (hb hbytes d45) (⟨rfl, n1⟩)
  obtain ⟨rfl, q11⟩ := E11
  have hB11 := hB1.mv (X8.warmed.alike.symm.trans X11.warmed.alike) q11
  have c12 : Steps p.tables e below (s₁.setTop (entryFrame m #[.ref a, .ref b, .int (Int32.ofNat o), .int (Int32.ofNat len), .null] 6)) (T11.setTop (mkF m 48 #[.val (.ref a), .val (.ref b), .val (.int (Int32.ofNat o)), .val (.int (Int32.ofNat len)), .val .null, .val (.ref s.heap.size)] [.int 0, .ref a])) := g11
  obtain ⟨T13, X13, p13, bl13, sl13, st13⟩ := X11.finit hexec hown (wk W (.fieldLink "java/lang/String" 15 "java/lang/String" "coder" "B")) (Or.inr ⟨_, (wk W (.laysFinal "java/lang/String" "java/lang/String" "coder" "B"))⟩) (Or.inl ⟨rfl, hnm⟩) f2 (Or.inl rfl) hB11 (t := .byte) (by decide +kernel) rfl (g := (mkF m 48 #[.val (.ref a), .val (.ref b), .val (.int (Int32.ofNat o)), .val (.int (Int32.ofNat len)), .val .null, .val (.ref s.heap.size)] [.int 0, .ref a])) rfl (rest := []) rfl (hb hbytes d48)
  have c14 : Steps p.tables e below (s₁.setTop (entryFrame m #[.ref a, .ref b, .int (Int32.ofNat o), .int (Int32.ofNat len), .null] 6)) (T13.setTop (mkF m 54 #[.val (.ref a), .val (.ref b), .val (.int (Int32.ofNat o)), .val (.int (Int32.ofNat len)), .val .null, .val (.ref s.heap.size)] [.ref s.heap.size, .ref a])) := (c12.trans (st13 _ (Steps.refl _))).trans (by
    refine XS.aloadN X13.here hexec rfl (hb hbytes d51) rfl rfl ?_
    refine XS.aload X13.here hexec rfl (hb hbytes d52) rfl rfl ?_
    exact Steps.refl _)
  obtain ⟨T15, X15, p15, bl15, sl15, st15⟩ := X13.finit hexec hown (wk W (.fieldLink "java/lang/String" 9 "java/lang/String" "value" "[B")) (Or.inr ⟨_, (wk W (.laysFinal "java/lang/String" "java/lang/String" "value" "[B"))⟩) (Or.inl ⟨rfl, hnm⟩) f1 (Or.inl rfl) bl13 (t := (.array .byte)) (by decide +kernel) rfl (g := (mkF m 54 #[.val (.ref a), .val (.ref b), .val (.int (Int32.ofNat o)), .val (.int (Int32.ofNat len)), .val .null, .val (.ref s.heap.size)] [.ref s.heap.size, .ref a])) rfl (rest := []) rfl (hb hbytes d54)
  have c16 : Steps p.tables e below (s₁.setTop (entryFrame m #[.ref a, .ref b, .int (Int32.ofNat o), .int (Int32.ofNat len), .null] 6)) (T15.setTop (mkF m 57 #[.val (.ref a), .val (.ref b), .val (.int (Int32.ofNat o)), .val (.int (Int32.ofNat len)), .val .null, .val (.ref s.heap.size)] [])) := c14.trans (st15 _ (Steps.refl _))
  have ap := apart (Or.inr ⟨_, (wk W (.laysFinal "java/lang/String" "java/lang/String" "value" "[B"))⟩) (Or.inr ⟨_, (wk W (.laysFinal "java/lang/String" "java/lang/String" "coder" "B"))⟩) f1 f2 (t₁ := .array .byte) (t₂ := .byte) (by decide +kernel) (by decide +kernel) (by decide)
  have al := X8.warmed.alike.symm.trans X15.warmed.alike
  have n7 : T11.heap[s.heap.size]? = some N := by rw [q11]; exact n1.1
  exact ⟨T15, none, _, _, _, X15, by simp, rfl, by omega, (fun _ => rfl), ⟨rfl, _, N, bl15, ((Same.refl D _).set _ (by simp)).set _ (by simp), sl15, (Cell.slots_setSlot_ne _ ap).trans sl13, n1.keep al (p15.other hne (p13.other hne n7)), n2, by rw [al.findClass]; exact n3, n4, n5, fun y c h1 h2 => p15.other h1 (p13.other h1 (by rw [q11]; exact n6 y c h2)), by rw [p15.2.2, p13.2.2, q11]; exact z8⟩, fun fs hl => c16.trans (X15.returnOut hexec hret (hb hbytes d57) hl)⟩
end New4
namespace New1
def yN : MethodName := ⟨"java/lang/String", "<init>", "([C)V"⟩
abbrev yB : ByteArray := jdk_42_method_3_code
theorem d0 : decode yB 0 = .ok (.aload_n 0, 1) := by decide +kernel
theorem d1 : decode yB 1 = .ok (.aload_n 1, 1) := by decide +kernel
theorem d2 : decode yB 2 = .ok (.iconst 0, 1) := by decide +kernel
theorem d3 : decode yB 3 = .ok (.aload_n 1, 1) := by decide +kernel
theorem d4 : decode yB 4 = .ok (.arraylength, 1) := by decide +kernel
theorem d5 : decode yB 5 = .ok (.aconst_null, 1) := by decide +kernel
theorem d6 : decode yB 6 = .ok (.invokespecial 27, 3) := by decide +kernel
theorem d9 : decode yB 9 = .ok (.return_, 1) := by decide +kernel
def site : List Cond := [New4.tab] ++ initW "java/lang/String" 27 New4.yN
def tab : Cond := tabOf yN yB 2 none site
def P (a : Addr) (D : Cell) (fV fC : Field) (b : Addr) (A : Cell) (z : Int32) (args : Array Value) (s : State) : Prop := args = #[.ref a, .ref b] ∧ Blank "java/lang/String" a D s ∧ Found "java/lang/String" "value" "[B" fV s ∧ Found "java/lang/String" "coder" "B" fC s ∧ Ch b A s ∧ StaticIs s "java/lang/String" "COMPACT_STRINGS" "Z" (.int z) ∧ ¬ z = 0 ∧ 0 < A.slots.size ∧ A.slots.size ≤ 536870912 ∧ ∀ i, i < A.slots.size → ¬ 255 < cv A i
def E (a : Addr) (D : Cell) (fV fC : Field) (A : Cell) (r : Option Value) (s u : State) : Prop := Got a D fV fC A 0 A.slots.size r s u
/-- new String(chars), not empty, no char above 255: a Latin-1 String of their low bytes -/
theorem law (l : Launch) (a : Addr) (D : Cell) (fV fC : Field) (b : Addr) (A : Cell) (z : Int32) : Law l yN 2 1 3 52 yB 2 none site (P a D fV fC b A z) (E a D fV fC A) [⟨a, fC.slot⟩, ⟨a, fV.slot⟩] 1 A.slots.size := by
  refine Law.of_walk (plainFor_of_name (by decide +kernel)) (by decide +kernel) (by decide +kernel) (by decide) (fun _ _ h => by rw [h.1]; rfl) (fun _ U U' hal hh h => ⟨h.1, h.2.1.mv hal hh, h.2.2.1.al hal, h.2.2.2.1.al hal, h.2.2.2.2.1.mv hal hh, h.2.2.2.2.2.1.there hal hh, h.2.2.2.2.2.2⟩) (fun r U U' V V' h1 hal h2 h => Got.mv r U U' V V' h1 hal h2 h) ?_
  intro p e s m args below meth c s₁ X0 hexec hbytes hml hret hlk hnm hown hh0 W hP
  obtain ⟨rfl, hB, f1, f2, hA, s1, hz, l0, l2, hp⟩ := hP
  have c1 : Steps p.tables e below (s₁.setTop (entryFrame m #[.ref a, .ref b] 2)) (s₁.setTop (mkF m 0 #[.val (.ref a), .val (.ref b)] [])) := entry rfl
  have c2 : Steps p.tables e below (s₁.setTop (entryFrame m #[.ref a, .ref b] 2)) (s₁.setTop (mkF m 6 #[.val (.ref a), .val (.ref b)] [.null, .int (Int32.ofNat A.slots.size), .int 0, .ref b, .ref a])) := c1.trans (by
    refine XS.aloadN X0.here hexec rfl (hb hbytes d0) rfl rfl ?_
    refine XS.aloadN X0.here hexec rfl (hb hbytes d1) rfl rfl ?_
    refine iconstV X0.here hexec rfl 0 (hb hbytes d2) (by decide) ?_
    refine XS.aloadN X0.here hexec rfl (hb hbytes d3) rfl rfl ?_
    refine X0.alen hexec (hA.1.mv X0.warmed.alike hh0) rfl rfl (hb hbytes d4) ?_
    refine XS.aconstNull X0.here hexec rfl (hb hbytes d5) ?_
    exact Steps.refl _)
  obtain ⟨v3, T3, X3, E3, g3⟩ := X0.callN hexec (New4.law l a D fV fC b A z 0 A.slots.size) rfl hown (wks W (initW "java/lang/String" 27 New4.yN)) (W New4.tab (by simp only [site, List.mem_cons, List.mem_append, true_or, or_true])) (W := 0) (Nat.le_of_ble_eq_true rfl) (Nat.le_of_ble_eq_true rfl) (Nat.le_refl _) (by show 0 + A.slots.size ≤ A.slots.size; omega) (g := (mkF m 6 #[.val (.ref a), .val (.ref b)] [.null, .int (Int32.ofNat A.slots.size), .int (Int32.ofNat 0), .ref b, .ref a])) rfl (by rw [hml]; rfl) c2 (argsL := [.ref b, .int (Int32.ofNat 0), .int (Int32.ofNat A.slots.size), .null]) (rest := []) rfl rfl (by show 2 * 0 + 0 ≤ _; decide) (hb hbytes d6) (⟨rfl, hB.mv X0.warmed.alike hh0, f1.al X0.warmed.alike, f2.al X0.warmed.alike, hA.mv X0.warmed.alike hh0, s1.there X0.warmed.alike hh0, hz, l0, by omega, l2, fun i hi => by rw [Nat.zero_add]; exact hp i hi⟩)
  have e0 := Got.mv _ s₁ s _ _ hh0.symm (Vm.Alike.refl _) rfl E3
  obtain rfl := e0.1
  have c4 : Steps p.tables e below (s₁.setTop (entryFrame m #[.ref a, .ref b] 2)) (T3.setTop (mkF m 9 #[.val (.ref a), .val (.ref b)] [])) := g3
  exact ⟨T3, none, _, _, _, X3, by simp, rfl, by omega, (fun _ => rfl), e0, fun fs hl => c4.trans (X3.returnOut hexec hret (hb hbytes d9) hl)⟩
theorem pays {l : Launch} {R : Room} {p : Program} {e : Env} {below : List Frame} {s : State} {sargs : Array Value} {len W : Nat} (a : Addr) (D : Cell) (fV fC : Field) (b : Addr) (A : Cell) (z : Int32) (htab : tab.before sargs s = true) (hfr : 4 ≤ R.frames) (hlo : W + 65 ≤ R.locals) :
    Back l R p e below s sargs yN len W (fun A₁ a₁ => A₁.cells + 1 ≤ R.cells ∧ A₁.slots + A.slots.size ≤ R.slots ∧ P a D fV fC b A z a₁ A₁.U) (fun A₁ _ v₁ B₁ => E a D fV fC A v₁ A₁.U B₁.U ∧ B₁.locs = A₁.locs ++ [⟨a, fC.slot⟩, ⟨a, fV.slot⟩] ∧ B₁.cells = A₁.cells + 1 ∧ B₁.slots = A₁.slots + A.slots.size) :=
  (law l a D fV fC b A z).pays htab hfr (by omega)
end New1
/-- the byte, read back as charAt reads it, is the char -/
theorem lo8_mask {x : Int32} (h0 : ¬ x < 0) (h1 : ¬ 255 < x) : lo8 x &&& 255 = x := by
  have t : ∀ k : Fin 256, lo8 (Int32.ofNat k.val) &&& 255 = Int32.ofNat k.val := by decide +kernel
  rw [Int32.lt_iff_toInt_lt] at h0 h1
  have e0 : (0 : Int32).toInt = 0 := rfl
  have e1 : (255 : Int32).toInt = 255 := rfl
  obtain ⟨k, hk⟩ : ∃ k : Nat, x.toInt = k := ⟨x.toInt.toNat, by omega⟩
  have hx : x = Int32.ofNat k := Int32.toInt_inj.mp (by rw [hk, Int32.toInt_ofNat_small (by omega)])
  rw [hx]
  exact t ⟨k, by omega⟩
end StrChars
namespace StrChars.Road
open Jvm Sem ClassFile Op Lib Jvm.Stand Jvm.Free Jvm.Free.XT
open Jvm.Lib.Cold (StaticIs)
abbrev ST : String := "java/lang/String"
/-- every table word that New1's law asks, flat -/
abbrev words : List Jvm.Cond := [.code New1.yN New1.yB 2 none, .initialized ST, .methodLink ST 27 New4.yN, .instanceMethod New4.yN,
  .code New4.yN New4.yB 6 none, .fieldLink ST 38 ST "COMPACT_STRINGS" "Z", .laysFinal ST ST "value" "[B", .fieldLink ST 9 ST "value" "[B", .laysFinal ST ST "coder" "B", .fieldLink ST 15 ST "coder" "B",
  .methodLink ST 1 Lib.objectInit, .instanceMethod Lib.objectInit, .code Lib.objectInit ⟨#[0xb1]⟩ 1 none, .methodLink ST 177 Cmp3.yN, .static Cmp3.yN, .methodLink ST 47 CodL.yN, .static CodL.yN,
  .code Cmp3.yN Cmp3.yB 6 (some (.array .byte)), .initialized U16, .arrayClass .byte, .methodLink U16 115 Cmp5.yN, .static Cmp5.yN, .code Cmp5.yN Cmp5.yB 7 (some .int), .code CodL.yN CodL.yB 2 (some .byte)]
theorem tab_of {a : Array Value} {s : State} (h : ∀ w ∈ words, w.before a s = true) : New1.tab.before a s = true := by
  have h5 : Cmp5.tab.before a s = true := unparts (wk h (.code Cmp5.yN Cmp5.yB 7 (some .int))) (wks h (.initialized Cmp5.yN.cls :: Cmp5.site))
  have hc : CodL.tab.before a s = true := unparts (wk h (.code CodL.yN CodL.yB 2 (some .byte))) (wks h (.initialized CodL.yN.cls :: CodL.site))
  have q5 : ∀ w ∈ Cmp5.tab :: words, w.before a s = true := fun w hw => (List.mem_cons.mp hw).elim (fun e => e ▸ h5) (h w)
  have h3 : Cmp3.tab.before a s = true := unparts (wk q5 (.code Cmp3.yN Cmp3.yB 6 (some (.array .byte)))) (wks q5 (.initialized Cmp3.yN.cls :: Cmp3.site))
  have q3 : ∀ w ∈ Cmp3.tab :: CodL.tab :: words, w.before a s = true := fun w hw => (List.mem_cons.mp hw).elim (fun e => e ▸ h3) fun hw => (List.mem_cons.mp hw).elim (fun e => e ▸ hc) (h w)
  have h4 : New4.tab.before a s = true := unparts (wk q3 (.code New4.yN New4.yB 6 none)) (wks q3 (.initialized New4.yN.cls :: New4.site))
  have q4 : ∀ w ∈ New4.tab :: words, w.before a s = true := fun w hw => (List.mem_cons.mp hw).elim (fun e => e ▸ h4) (h w)
  exact unparts (wk q4 (.code New1.yN New1.yB 2 none)) (wks q4 (.initialized New1.yN.cls :: New1.site))
/-- the words ride from the start Z to the walk's own state -/
theorem moved {Z s : State} {a0 args : Array Value} (hZ : Z.Warmed39 s.vm) (hw : ∀ d ∈ words, d.before a0 Z = true) : ∀ d ∈ words, d.before args s = true := fun d hd => by
  have q := hw d hd
  have t : ∀ d ∈ words, d = .arrayClass .byte ∨ (d.onTables && d.keepsFace) = true := by decide +kernel
  rcases t d hd with rfl | t
  · exact RoadKit.mvA hZ q
  · exact RoadKit.mv hZ q t
/-- WHAT COMES BACK, over the tables of the start Z: h the heap at the call, h' behind it -/
def Q (Z : State) (x : Addr) (A : Cell) (h : Heap) (v : Option Value) (h' : Heap) (L : List Loc) : Prop := v = none ∧ (∀ y ∈ L, y.base = x) ∧ RoadKit.Keep h h' [x] ∧ h'.size = h.size + 1 ∧ RoadKit.Exa Z h' x ST ∧ RoadKit.Fld Z h' x ST "value" "[B" (.ref h.size) ∧ RoadKit.Fld Z h' x ST "coder" "B" (.int 0) ∧
  (∃ V : Cell, RoadKit.Arr Z h' h.size V .byte ∧ V.vm = .none ∧ Z.vm.findClass "[B" = some V.cls ∧ V.slots.size = A.slots.size ∧ ∀ j, j < A.slots.size → V.slots[j]? = some (.int (lo8 (cv A j)))) ∧
  ∀ (O n d : String) (w : Value), RoadKit.Fld Z h x O n d w → RoadKit.slotOf Z O n d ≠ RoadKit.slotOf Z ST "value" "[B" → RoadKit.slotOf Z O n d ≠ RoadKit.slotOf Z ST "coder" "B" → RoadKit.Fld Z h' x O n d w
/-- **new String(chars) AT A CALL, IN THE ROAD'S FORM**: for specialBack behind newO: x the fresh String, b the char[] with the cell A -/
theorem back {p : Program} {l : Launch} {e : Env} {R : Room} {s : State} {args : Array Value} {below : List Frame} {len W : Nat} {Z : State} {a0 : Array Value} {h : Heap} (hZ : Z.Warmed39 s.vm) (hw : ∀ d ∈ words, d.before a0 Z = true) {kI : Nat} (wi : (Jvm.Cond.instantiable ST kI).before a0 Z = true)
    {x b : Addr} {A : Cell} {z : Int32} {v0 c0 : Value} (E : RoadKit.Exa Z h x ST) (V : RoadKit.Fld Z h x ST "value" "[B" v0) (C : RoadKit.Fld Z h x ST "coder" "B" c0) (K : RoadKit.Arr Z h b A .char) (hty : Typed .char A) (S : RoadKit.Sta Z h ST "COMPACT_STRINGS" "Z" (.int z)) (hz : ¬ z = 0)
    (l0 : 0 < A.slots.size) (l2 : A.slots.size ≤ 536870912) (hp : ∀ i, i < A.slots.size → ¬ 255 < cv A i) (hfr : 4 ≤ R.frames) (hlo : W + 65 ≤ R.locals) :
    Back l R p e below s args New1.yN len W (fun P a => a = #[.ref x, .ref b] ∧ P.U.heap = h ∧ P.cells + 1 ≤ R.cells ∧ P.slots + A.slots.size ≤ R.slots)
      (fun P _ v B => ∃ L, Q Z x A h v B.U.heap L ∧ B.locs = P.locs ++ L ∧ B.cells = P.cells + 1 ∧ B.slots = P.slots + A.slots.size) := by
  intro m meth c P g ig mk a X hg hsize hdg hW hn hp'
  obtain ⟨rfl, rfl, r1, r2⟩ := hp'
  have al : Z.vm.Alike P.U.vm := hZ.alike.trans X.warmed.alike
  obtain ⟨D, cfV, kV, iV, fV, hD, gV, stV, knV, obV, asV, slV⟩ := id V
  obtain ⟨D', cfC, kC, iC, fC, hD', gC, stC, -, -, asC, slC⟩ := id C
  cases hD.symm.trans hD'
  obtain ⟨D2, kD, e1, e2, e3, e4, e5⟩ := id E
  cases hD.symm.trans e1
  obtain ⟨c2, k2, i1, i2, i3, -⟩ := Cond.instantiable_spec wi
  cases e2.symm.trans i1
  cases e3.symm.trans i2
  obtain ⟨kU, u1, u2⟩ := al.2.2 _ _ e3
  have hB : Blank ST x D P.U := ⟨hD, ⟨knV, fun q hq => by rw [hq] at obV; cases obV⟩, by rw [al.findClass]; exact e2, kU, u1, by rw [u2]; exact i3, by rw [u2]; exact e5 i3⟩
  have F1 : Found ST "value" "[B" fV P.U := ⟨SBG.found_only al ⟨cfV, kV, iV, gV⟩, stV⟩
  have F2 : Found ST "coder" "B" fC P.U := ⟨SBG.found_only al ⟨cfC, kC, iC, gC⟩, stC⟩
  have hA : Ch b A P.U := ⟨⟨K.1, State.isArrayOf_alike al K.2.1, K.2.2, by omega⟩, hty⟩
  have hS : StaticIs P.U ST "COMPACT_STRINGS" "Z" (.int z) := by
    obtain ⟨cfS, iS, kS, fS, st, cS, t1, t2, t3, t4, t5, t6, t7⟩ := S
    exact StaticIs.there (s := { Z with heap := P.U.heap }) ⟨cfS, iS, kS, fS, st, cS, t1, t2, t3, t4, t5, (fun q => by rw [q] at t6; cases t6), t7⟩ al rfl
  obtain ⟨v, B, X', ⟨⟨hv, E', V', q1, q2, q3, q4, q5, q6, q7, q8, q9, q10, q11⟩, hl, hc, hs⟩, st⟩ := New1.pays x D fV fC b A z (tab_of (moved hZ hw)) hfr hlo m meth c P g ig mk _ X hg hsize hdg hW hn ⟨r1, r2, rfl, hB, F1, F2, hA, hS, hz, l0, l2, hp⟩
  have al' : Z.vm.Alike B.U.vm := hZ.alike.trans X'.warmed.alike
  have hsz : E'.slots.size = D.slots.size := by
    obtain ⟨-, -, -, kB, w1, w2, w3⟩ := q1
    obtain ⟨kB', y1, y2⟩ := al'.2.2 _ _ e3
    rw [q2.2.1] at w1
    cases w1.symm.trans y1
    rw [w3, e5 i3, y2]
  refine ⟨v, B, X', ⟨_, ⟨hv, ?_, ⟨by omega, fun y cy hy hn' => q10 y cy (by simpa using hn') hy, fun y cy hy => ?_⟩, q11, ⟨E', _, q1.1, by rw [q2.2.1]; exact e2, by rw [q2.2.1]; exact e3, by rw [q2.1]; exact obV, fun _ => by rw [hsz]; exact e5 i3⟩,
    ⟨E', cfV, kV, iV, fV, q1.1, gV, stV, by rw [q2.1]; exact knV, by rw [q2.1]; exact obV, by rw [q2.2.1]; exact asV, q3⟩, ⟨E', cfC, kC, iC, fC, q1.1, gC, stC, by rw [q2.1]; exact knV, by rw [q2.1]; exact obV, by rw [q2.2.1]; exact asC, q4⟩,
    ⟨V', ⟨q5.1, State.isArrayOf_alike al'.symm q5.2.1, q5.2.2.1⟩, q6, by rw [← al'.findClass]; exact q7, q8, fun j hj => by have := q9 j hj; rwa [Nat.zero_add] at this⟩, fun O n d w F n1 n2 => ?_⟩, hl, hc, hs⟩, st⟩
  · intro y hy
    simp only [List.mem_cons, List.not_mem_nil, or_false] at hy
    rcases hy with rfl | rfl <;> rfl
  · by_cases q : y = x
    · subst q
      cases hD.symm.trans hy
      exact ⟨E', q1.1, q2.2.1, q2.1, hsz⟩
    · exact ⟨cy, q10 y cy q hy, rfl, rfl, rfl⟩
  · obtain ⟨D3, cf, k, i, f, g1, g2, g3, g4, g5, g6, g7⟩ := F
    cases hD.symm.trans g1
    simp only [RoadKit.slotOf, g2, gV, gC, Option.map_some, Option.getD_some] at n1 n2
    exact ⟨E', cf, k, i, f, q1.1, g2, g3, by rw [q2.1]; exact g4, by rw [q2.1]; exact g5, by rw [q2.2.1]; exact g6, by rw [q2.2.2 f.slot (by simp [n1, n2])]; exact g7⟩
end StrChars.Road
namespace StrChars.Road
open Jvm Sem ClassFile Op Lib Jvm.Stand Jvm.Free Jvm.Free.XT
/-- WHAT COMES BACK, the byte[] as a list of values -/
def QA (Z : State) (x : Addr) (zn : Int32) (cs : List Int32) (h : Heap) (v : Option Value) (h' : Heap) (L : List Loc) : Prop := v = none ∧ (∀ y ∈ L, y.base = x) ∧ RoadKit.Keep h h' [x] ∧ h'.size = h.size + 1 ∧ RoadKit.Exa Z h' x ST ∧ RoadKit.Fld Z h' x ST "value" "[B" (.ref h.size) ∧ RoadKit.Fld Z h' x ST "coder" "B" (.int 0) ∧
  (∃ kb, Z.vm.findClass "[B" = some kb ∧ RoadKit.Arv Z h' h.size kb .byte zn (cs.map fun c => .int (lo8 c)) (.int 0)) ∧
  ∀ (O n d : String) (w : Value), RoadKit.Fld Z h x O n d w → RoadKit.slotOf Z O n d ≠ RoadKit.slotOf Z ST "value" "[B" → RoadKit.slotOf Z O n d ≠ RoadKit.slotOf Z ST "coder" "B" → RoadKit.Fld Z h' x O n d w
/-- **new String(chars) AT A CALL, THE ARRAYS AS LISTS**: the char[] at b holds cs, not empty, no char above 255 -/
theorem backArv {p : Program} {l : Launch} {e : Env} {R : Room} {s : State} {args : Array Value} {below : List Frame} {len W : Nat} {Z : State} {a0 : Array Value} {h : Heap} (hZ : Z.Warmed39 s.vm) (hw : ∀ d ∈ words, d.before a0 Z = true) {kI : Nat} (wi : (Jvm.Cond.instantiable ST kI).before a0 Z = true)
    {x b : Addr} {k : ClassId} {zn z : Int32} {cs : List Int32} {dv v0 c0 : Value} (E : RoadKit.Exa Z h x ST) (V : RoadKit.Fld Z h x ST "value" "[B" v0) (C : RoadKit.Fld Z h x ST "coder" "B" c0) (K : RoadKit.Arv Z h b k .char zn (cs.map Value.int) dv) (S : RoadKit.Sta Z h ST "COMPACT_STRINGS" "Z" (.int z)) (hz : ¬ z = 0)
    (hlen : zn.toNatClampNeg = cs.length) (h0 : 0 < cs.length) (hbig : cs.length ≤ 536870912) (hall : ∀ c ∈ cs, ¬ 255 < c) (hfr : 4 ≤ R.frames) (hlo : W + 65 ≤ R.locals) :
    Back l R p e below s args New1.yN len W (fun P a => a = #[.ref x, .ref b] ∧ P.U.heap = h ∧ P.cells + 1 ≤ R.cells ∧ P.slots + cs.length ≤ R.slots)
      (fun P _ v B => ∃ L, QA Z x zn cs h v B.U.heap L ∧ B.locs = P.locs ++ L ∧ B.cells = P.cells + 1 ∧ B.slots = P.slots + cs.length) := by
  obtain ⟨A, K1, K2, K3, K4, K5, K6⟩ := K
  have e : A.slots.size = cs.length := K3.trans hlen
  have hat : ∀ (i : Nat) (hi : i < cs.length), A.slots[i]? = some (.int cs[i]) := fun i hi => by rw [K5 i (by omega)]; simp [List.getD_eq_getElem?_getD, hi]
  have hcv : ∀ (i : Nat) (hi : i < cs.length), cv A i = cs[i] := fun i hi => by unfold cv; rw [hat i hi]
  have hty : Typed .char A := fun i v hv => by
    have hi : i < A.slots.size := (Array.getElem?_eq_some_iff.mp hv).1
    have q := K5 i hi
    rw [hv] at q
    rw [Option.some.inj q]
    exact K6 i hi
  refine Back.mono (back hZ hw wi E V C K1 hty S hz (by omega) (by omega) (fun i hi => by rw [hcv i (by omega)]; exact hall _ (List.getElem_mem _)) hfr hlo) (fun P a hp => ⟨hp.1, hp.2.1, hp.2.2.1, by rw [e]; exact hp.2.2.2⟩) (fun P a v B hp hq => ?_)
  obtain ⟨L, ⟨q1, q2, q3, q4, q5, q6, q7, ⟨V', v1, v2, v3, v4, v5⟩, q9⟩, hl, hc, hs⟩ := hq
  refine ⟨L, ⟨q1, q2, q3, q4, q5, q6, q7, ⟨V'.cls, v3, V', v1, rfl, by rw [v4, e, hlen], K4, fun i hi => ?_, fun i hi => ?_⟩, q9⟩, hl, hc, by rw [hs, e]⟩
  · have hi' : i < cs.length := by omega
    rw [v5 i (by omega), hcv i hi']; simp [List.getD_eq_getElem?_getD, hi']
  · have hi' : i < cs.length := by omega
    simp only [List.getD_eq_getElem?_getD, List.getElem?_map, List.getElem?_eq_getElem hi', Option.map_some, Option.getD_some]
    exact fits_lo8 _
end StrChars.Road
namespace StrChars.Road
open Jvm Sem ClassFile Op Lib Jvm.Stand Jvm.Free Jvm.Free.XT
/-- WHAT COMES BACK, in the writer's own shape -/
def QV (Z : State) (x : Addr) (N : Int32) (bs : List Int32) (h : Heap) (n0 : Nat) (v : Option Value) (h' : Heap) (L : List Loc) : Prop := v = none ∧ RoadKit.Fr n0 L ∧ RoadKit.Keep h h' [x] ∧ RoadKit.Exa Z h' x ST ∧ RoadKit.Fld Z h' x ST "coder" "B" (.int 0) ∧
  ∃ (t : Addr) (kb : ClassId), n0 ≤ t ∧ h.size ≤ t ∧ ¬ t = x ∧ RoadKit.Fld Z h' x ST "value" "[B" (.ref t) ∧ RoadKit.Arv Z h' t kb .byte N (bs.map Value.int) (.int 0)
/-- **new String(chars) AT A CALL, FOR THE WRITER**: a char[] of n known ints, each 0 to 255 -/
theorem backV {p : Program} {l : Launch} {e : Env} {R : Room} {s : State} {args : Array Value} {below : List Frame} {len W : Nat} {Z : State} {a0 : Array Value} {h : Heap} (hZ : Z.Warmed39 s.vm) (hw : ∀ d ∈ words, d.before a0 Z = true) {kI : Nat} (wi : (Jvm.Cond.instantiable ST kI).before a0 Z = true)
    {x b : Addr} {kC : ClassId} {cs bs : List Int32} {d v0 c0 : Value} {z N : Int32} {n n0 : Nat} (hx0 : n0 ≤ x) (hh0 : n0 ≤ h.size) (E : RoadKit.Exa Z h x ST) (V : RoadKit.Fld Z h x ST "value" "[B" v0) (C : RoadKit.Fld Z h x ST "coder" "B" c0) (K : RoadKit.Arv Z h b kC .char N (cs.map Value.int) d) (S : RoadKit.Sta Z h ST "COMPACT_STRINGS" "Z" (.int z)) (hz : ¬ z = 0)
    (hn : cs.length = n) (hN : N = Int32.ofNat n) (l0 : 0 < n) (l2 : n ≤ 4000) (hp : ∀ c ∈ cs, ¬ c < 0 ∧ ¬ (255 : Int32) < c) (hb : bs = cs.map (fun c => c.toInt8.toInt32)) (hfr : 4 ≤ R.frames) (hlo : W + 65 ≤ R.locals) :
    Back l R p e below s args (⟨"java/lang/String", "<init>", "([C)V"⟩ : MethodName) len W (fun P a => a = #[.ref x, .ref b] ∧ P.U.heap = h ∧ P.cells + 1 ≤ R.cells ∧ P.slots + n ≤ R.slots)
      (fun P _ v B => ∃ L, QV Z x N bs h n0 v B.U.heap L ∧ B.locs = P.locs ++ L ∧ B.cells = P.cells + 1 ∧ B.slots = P.slots + n) := by
  subst hn hN hb
  refine Back.mono (backArv hZ hw wi E V C K S hz (n32 (by omega)) l0 (by omega) (fun c hc => (hp c hc).2) hfr hlo) (fun P a hp => hp) (fun P a v B hp hq => ?_)
  obtain ⟨L, ⟨q1, q2, q3, q4, q5, q6, q7, ⟨kb, v1, v2⟩, q9⟩, hl, hc, hs⟩ := hq
  exact ⟨L, ⟨q1, fun y hy => by rw [q2 y hy]; exact hx0, q3, q5, q7, h.size, kb, hh0, Nat.le_refl _, Nat.ne_of_gt E.lt, q6, by rw [List.map_map]; exact v2⟩, hl, hc, hs⟩
end StrChars.Road
namespace StrChars
open Jvm Sem ClassFile Op Lib Jvm.Stand Jvm.Free.XT Jvm.Free.ALB Jvm.Free.JM Jvm.Free
open Jvm.Lib.Cold (StaticIs)
def hi8 (x : Int32) : Int32 := lo8 (x >>> ((8 : Int32) &&& 31))
/-- what StringUTF16.getChar makes of two bytes -/
def pairCh (u v : Int32) : Int32 := (((u &&& 255) <<< ((0 : Int32) &&& 31)) ||| ((v &&& 255) <<< ((8 : Int32) &&& 31))).toUInt32.toUInt16.toUInt32.toInt32
theorem shr0 (c : Int32) : c >>> ((0 : Int32) &&& 31) = c := by
  have e : ((0 : Int32) &&& 31) = 0 := by decide
  rw [e]
  apply Int32.toBitVec_inj.mp
  rw [Int32.toBitVec_shiftRight]
  have e1 : ((0 : Int32).toBitVec.smod 32) = 0#32 := by decide
  rw [e1, BitVec.sshiftRight_eq']
  exact BitVec.sshiftRight_zero
theorem lo8_and (x : Int32) : (lo8 x &&& 255).toBitVec.toNat = x.toBitVec.toNat % 256 := by
  have h : (lo8 x).toBitVec = (x.toBitVec.signExtend 8).signExtend 32 := by rw [lo8, Int8.toBitVec_toInt32, Int32.toBitVec_toInt8]
  rw [Int32.toBitVec_and, BitVec.toNat_and, h]
  have e : ((x.toBitVec.signExtend 8).signExtend 32).toNat % 256 = x.toBitVec.toNat % 256 := by
    rw [BitVec.toNat_signExtend]
    have hlt := x.toBitVec.isLt
    simp only [BitVec.toNat_setWidth, BitVec.toNat_signExtend]
    split <;> split <;> omega
  rw [← e]
  exact Nat.and_two_pow_sub_one_eq_mod _ 8
theorem pair_says {c : Int32} (h0 : ¬ c < 0) (h1 : ¬ 65535 < c) : pairCh (lo8 c) (hi8 c) = c := by
  rw [Int32.lt_iff_toInt_lt] at h0 h1
  have e0 : (0 : Int32).toInt = 0 := rfl
  have e1 : (65535 : Int32).toInt = 65535 := rfl
  have hc : c.toInt = c.toBitVec.toNat := by
    have := c.toBitVec.isLt
    have e : c.toInt = c.toBitVec.toInt := rfl
    rw [e] at h0 h1
    rw [e]
    rw [BitVec.toInt_eq_toNat_cond] at h0 h1 ⊢
    split at h0 <;> split <;> omega
  have hn : c.toBitVec.toNat < 65536 := by omega
  have a1 := lo8_and c
  have a2 : (hi8 c &&& 255).toBitVec.toNat = c.toBitVec.toNat / 256 := by
    rw [hi8, lo8_and]
    have e : ((8 : Int32) &&& 31) = 8 := by decide
    rw [e, Int32.toBitVec_shiftRight]
    have e2 : ((8 : Int32).toBitVec.smod 32) = 8#32 := by decide
    rw [e2, BitVec.sshiftRight_eq', BitVec.toNat_sshiftRight_of_msb_false (by rw [BitVec.msb_eq_false_iff_two_mul_lt]; omega)]
    show c.toBitVec.toNat >>> 8 % 256 = _
    rw [Nat.shiftRight_eq_div_pow]
    omega
  unfold pairCh
  apply Int32.toBitVec_inj.mp
  apply BitVec.eq_of_toNat_eq
  have f0 : ((0 : Int32) &&& 31) = 0 := by decide
  have f8 : ((8 : Int32) &&& 31) = 8 := by decide
  rw [f0, f8]
  have g : (((lo8 c &&& 255) <<< (0 : Int32)) ||| ((hi8 c &&& 255) <<< (8 : Int32))).toBitVec.toNat = c.toBitVec.toNat := by
    rw [Int32.toBitVec_or, Int32.toBitVec_shiftLeft, Int32.toBitVec_shiftLeft]
    have s0 : ((0 : Int32).toBitVec.smod 32) = 0#32 := by decide
    have s8 : ((8 : Int32).toBitVec.smod 32) = 8#32 := by decide
    rw [s0, s8, BitVec.toNat_or]
    simp only [BitVec.shiftLeft_eq', BitVec.toNat_shiftLeft, a1, a2]
    show (c.toBitVec.toNat % 256) <<< 0 % 2 ^ 32 ||| (c.toBitVec.toNat / 256) <<< 8 % 2 ^ 32 = _
    rw [Nat.shiftLeft_zero, Nat.mod_eq_of_lt (show c.toBitVec.toNat % 256 < 2 ^ 32 by omega), Nat.mod_eq_of_lt (show (c.toBitVec.toNat / 256) <<< 8 < 2 ^ 32 by rw [Nat.shiftLeft_eq]; omega), Nat.or_comm, ← Nat.shiftLeft_add_eq_or_of_lt (by omega), Nat.shiftLeft_eq]
    omega
  show BitVec.toNat (((((lo8 c &&& 255) <<< (0 : Int32)) ||| ((hi8 c &&& 255) <<< (8 : Int32))).toBitVec.setWidth 16).setWidth 32) = _
  rw [BitVec.toNat_setWidth, BitVec.toNat_setWidth, g]
  omega
end StrChars
namespace StrChars
open Jvm Sem ClassFile Op Lib Jvm.Stand Jvm.Free.XT Jvm.Free.ALB Jvm.Free.JM Jvm.Free
open Jvm.Lib.Cold (StaticIs)
theorem shr1 {n : Nat} (h : 2 * n < 2 ^ 31) : Int32.ofNat (2 * n) >>> ((1 : Int32) &&& 31) = Int32.ofNat n := by
  have e : ((1 : Int32) &&& 31) = 1 := by decide
  rw [e]
  apply Int32.toBitVec_inj.mp
  rw [Int32.toBitVec_shiftRight]
  have e1 : ((1 : Int32).toBitVec.smod 32) = 1#32 := by decide
  have hm : (BitVec.ofNat 32 (2 * n)).toNat = 2 * n := by rw [BitVec.toNat_ofNat, Nat.mod_eq_of_lt (by omega)]
  rw [e1, BitVec.sshiftRight_eq']
  apply BitVec.eq_of_toNat_eq
  show ((BitVec.ofNat 32 (2 * n)).sshiftRight 1).toNat = (BitVec.ofNat 32 n).toNat
  rw [BitVec.toNat_sshiftRight_of_msb_false (by rw [BitVec.msb_eq_false_iff_two_mul_lt, hm]; omega), hm, BitVec.toNat_ofNat, Nat.shiftRight_eq_div_pow]
  omega
/-- the array's cell V codes the n chars f 0 .. f (n - 1) by the coder cd, as the JDK does: coder 1 just where some char is above 255 -/
def Cod (cd : Int32) (n : Nat) (f : Nat → Int32) (V : Cell) : Prop := (cd = 0 ∧ V.slots.size = n ∧ ∀ j, j < n → V.slots[j]? = some (.int (lo8 (f j))) ∧ ¬ 255 < f j) ∨ (cd = 1 ∧ V.slots.size = 2 * n ∧ (∀ j, j < n → V.slots[2 * j]? = some (.int (lo8 (f j))) ∧ V.slots[2 * j + 1]? = some (.int (hi8 (f j)))) ∧ ∃ j, j < n ∧ 255 < f j)
theorem Cod.cd {cd : Int32} {n : Nat} {f : Nat → Int32} {V : Cell} (h : Cod cd n f V) : cd = 0 ∨ cd = 1 := h.imp (fun q => q.1) fun q => q.1
theorem Cod.len {cd : Int32} {n : Nat} {f : Nat → Int32} {V : Cell} (h : Cod cd n f V) (hs : V.slots.size < 2 ^ 31) : Int32.ofNat V.slots.size >>> (cd &&& 31) = Int32.ofNat n := by
  rcases h with ⟨rfl, h, -⟩ | ⟨rfl, h, -⟩
  · rw [shr0, h]
  · rw [h, shr1 (by omega)]
/-- **x is a String of the n chars f 0 .. f (n - 1)**, Latin-1 or UTF-16; its array at t has the cell V -/
def Txt (x t : Addr) (V : Cell) (cd : Int32) (n : Nat) (f : Nat → Int32) (U : State) : Prop := Exact "java/lang/String" x U ∧ Has x "java/lang/String" "value" "[B" (.ref t) U ∧ Has x "java/lang/String" "coder" "B" (.int cd) U ∧ XT.Arr .byte t V U ∧ Cod cd n f V ∧ ∀ j, j < n → ¬ f j < 0 ∧ ¬ 65535 < f j
theorem Txt.mv {x t : Addr} {V : Cell} {cd : Int32} {n : Nat} {f : Nat → Int32} {U U' : State} (h : Txt x t V cd n f U) (hal : U.vm.Alike U'.vm) (hh : U'.heap = U.heap) : Txt x t V cd n f U' := ⟨h.1.mv hal hh, h.2.1.mv hal hh, h.2.2.1.mv hal hh, h.2.2.2.1.mv hal hh, h.2.2.2.2⟩
namespace Cdr
def yN : MethodName := ⟨"java/lang/String", "coder", "()B"⟩
abbrev yB : ByteArray := jdk_42_method_152_code
theorem d0 : decode yB 0 = .ok (.getstatic 38, 3) := by decide +kernel
theorem d3 : decode yB 3 = .ok (.ifCond (.eq) 10, 3) := by decide +kernel
theorem d6 : decode yB 6 = .ok (.aload_n 0, 1) := by decide +kernel
theorem d7 : decode yB 7 = .ok (.getfield 15, 3) := by decide +kernel
theorem d10 : decode yB 10 = .ok (.goto 4, 3) := by decide +kernel
theorem d14 : decode yB 14 = .ok (.ireturn, 1) := by decide +kernel
def site : List Cond := [.fieldLink "java/lang/String" 38 "java/lang/String" "COMPACT_STRINGS" "Z", .fieldLink "java/lang/String" 15 "java/lang/String" "coder" "B"]
def tab : Cond := tabOf yN yB 1 (some .byte) site
def P (x : Addr) (cd z : Int32) (args : Array Value) (s : State) : Prop := args = #[.ref x] ∧ Has x "java/lang/String" "coder" "B" (.int cd) s ∧ (cd = 0 ∨ cd = 1) ∧ StaticIs s "java/lang/String" "COMPACT_STRINGS" "Z" (.int z) ∧ ¬ z = 0
def E (cd : Int32) (r : Option Value) (s u : State) : Prop := XT.PureE (some (.int cd)) r s u
theorem law (l : Launch) (x : Addr) (cd z : Int32) : Law l yN 1 0 0 0 yB 1 (some .byte) site (P x cd z) (E cd) [] 0 0 := by
  refine Law.of_walk (plainFor_of_name (by decide +kernel)) (by decide +kernel) (by decide +kernel) (by decide) (fun _ _ h => by rw [h.1]; rfl) (fun _ U U' hal hh h => ⟨h.1, h.2.1.mv hal hh, h.2.2.1, h.2.2.2.1.there hal hh, h.2.2.2.2⟩) (fun r U U' V V' h1 hal h2 h => XT.PureE.mv r U U' V V' h1 hal h2 h) ?_
  intro p e s m args below meth c s₁ X0 hexec hbytes hml hret hlk hnm hown hh0 W hP
  obtain ⟨rfl, hx, hc, s1, hz⟩ := hP
  have c1 : Steps p.tables e below (s₁.setTop (entryFrame m #[.ref x] 1)) (s₁.setTop (mkF m 0 #[.val (.ref x)] [])) := entry rfl
  obtain ⟨T2, X2, q2, st2⟩ := X0.sget hexec hown (wk W (.fieldLink "java/lang/String" 38 "java/lang/String" "COMPACT_STRINGS" "Z")) s1 (fun _ _ h => by rw [hh0]; exact h) (g := (mkF m 0 #[.val (.ref x)] [])) rfl (hb hbytes d0)
  have hh2 := q2.trans hh0
  have c3 : Steps p.tables e below (s₁.setTop (entryFrame m #[.ref x] 1)) (T2.setTop (mkF m 7 #[.val (.ref x)] [.ref x])) := (c1.trans (st2 _ (Steps.refl _))).trans (by
    refine XS.ifNo X2.here hexec rfl (hb hbytes d3) rfl (i0_eq_f hz) ?_
    refine XS.aloadN X2.here hexec rfl (hb hbytes d6) rfl rfl ?_
    exact Steps.refl _)
  obtain ⟨T4, X4, q4, st4⟩ := X2.hget hexec hown (wk W (.fieldLink "java/lang/String" 15 "java/lang/String" "coder" "B")) (hx.mv X2.warmed.alike hh2) (g := (mkF m 7 #[.val (.ref x)] [.ref x])) rfl (rest := []) rfl (hb hbytes d7)
  have c5 : Steps p.tables e below (s₁.setTop (entryFrame m #[.ref x] 1)) (T4.setTop (mkF m 14 #[.val (.ref x)] [.int cd])) := (c3.trans (st4 _ (Steps.refl _))).trans (by
    refine XS.goto X4.here hexec rfl (pc0 := 10) rfl (hb hbytes d10) (by decide) rfl ?_
    exact Steps.refl _)
  exact ⟨T4, some (.int cd), _, _, _, X4, rfl, rfl, rfl, (fun h => by cases h), ⟨rfl, q4.trans hh2⟩, fun fs hl => c5.trans (X4.ireturnOut hexec hret (by rcases hc with rfl | rfl <;> rfl) (Or.inr (Or.inr (Or.inl rfl))) (hb hbytes d14) hl)⟩
end Cdr
namespace Len
def yN : MethodName := ⟨"java/lang/String", "length", "()I"⟩
abbrev yB : ByteArray := jdk_42_method_54_code
theorem d0 : decode yB 0 = .ok (.aload_n 0, 1) := by decide +kernel
theorem d1 : decode yB 1 = .ok (.getfield 9, 3) := by decide +kernel
theorem d4 : decode yB 4 = .ok (.arraylength, 1) := by decide +kernel
theorem d5 : decode yB 5 = .ok (.aload_n 0, 1) := by decide +kernel
theorem d6 : decode yB 6 = .ok (.invokevirtual 335, 3) := by decide +kernel
theorem d9 : decode yB 9 = .ok (.ishr, 1) := by decide +kernel
theorem d10 : decode yB 10 = .ok (.ireturn, 1) := by decide +kernel
def site : List Cond := [.fieldLink "java/lang/String" 9 "java/lang/String" "value" "[B", Cdr.tab] ++ virtW "java/lang/String" 335 "java/lang/String" Cdr.yN Cdr.yN
def tab : Cond := tabOf yN yB 1 (some .int) site
def P (x t : Addr) (V : Cell) (cd : Int32) (n : Nat) (f : Nat → Int32) (z : Int32) (args : Array Value) (s : State) : Prop := args = #[.ref x] ∧ Txt x t V cd n f s ∧ StaticIs s "java/lang/String" "COMPACT_STRINGS" "Z" (.int z) ∧ ¬ z = 0
def E (n : Nat) (r : Option Value) (s u : State) : Prop := XT.PureE (some (.int (Int32.ofNat n))) r s u
/-- length() of a String of n chars, in either coding -/
theorem law (l : Launch) (x t : Addr) (V : Cell) (cd : Int32) (n : Nat) (f : Nat → Int32) (z : Int32) : Law l yN 1 0 1 13 yB 1 (some .int) site (P x t V cd n f z) (E n) [] 0 0 := by
  refine Law.of_walk (plainFor_of_name (by decide +kernel)) (by decide +kernel) (by decide +kernel) (by decide) (fun _ _ h => by rw [h.1]; rfl) (fun _ U U' hal hh h => ⟨h.1, h.2.1.mv hal hh, h.2.2.1.there hal hh, h.2.2.2⟩) (fun r U U' V V' h1 hal h2 h => XT.PureE.mv r U U' V V' h1 hal h2 h) ?_
  intro p e s m args below meth c s₁ X0 hexec hbytes hml hret hlk hnm hown hh0 W hP
  obtain ⟨rfl, hx, s1, hz⟩ := hP
  have v31 := hx.2.2.2.1.2.2.2
  have c1 : Steps p.tables e below (s₁.setTop (entryFrame m #[.ref x] 1)) (s₁.setTop (mkF m 1 #[.val (.ref x)] [.ref x])) := Steps.trans (entry rfl) (by
    show Steps p.tables e below (s₁.setTop (mkF m 0 #[.val (.ref x)] [])) _
    refine XS.aloadN X0.here hexec rfl (hb hbytes d0) rfl rfl ?_
    exact Steps.refl _)
  obtain ⟨T2, X2, q2, st2⟩ := X0.hget hexec hown (wk W (.fieldLink "java/lang/String" 9 "java/lang/String" "value" "[B")) (hx.mv X0.warmed.alike hh0).2.1 (g := (mkF m 1 #[.val (.ref x)] [.ref x])) rfl (rest := []) rfl (hb hbytes d1)
  have hh2 := q2.trans hh0
  have hx2 := hx.mv X2.warmed.alike hh2
  have c3 : Steps p.tables e below (s₁.setTop (entryFrame m #[.ref x] 1)) (T2.setTop (mkF m 6 #[.val (.ref x)] [.ref x, .int (Int32.ofNat V.slots.size)])) := (c1.trans (st2 _ (Steps.refl _))).trans (by
    refine X2.alen hexec hx2.2.2.2.1 rfl rfl (hb hbytes d4) ?_
    refine XS.aloadN X2.here hexec rfl (hb hbytes d5) rfl rfl ?_
    exact Steps.refl _)
  obtain ⟨v4, T4, X4, E4, g4⟩ := X2.callV hexec (Cdr.law l x cd z) hown (wks W (virtW "java/lang/String" 335 "java/lang/String" Cdr.yN Cdr.yN)) rfl (by decide) (wk W Cdr.tab) (W := 1) (Nat.le_of_ble_eq_true rfl) (Nat.le_of_ble_eq_true rfl) (Nat.le_refl _) (Nat.le_refl _) (hx2.1.fc X2.warmed.alike) hx2.1.is (g := (mkF m 6 #[.val (.ref x)] [.ref x, .int (Int32.ofNat V.slots.size)])) rfl (by rw [hml]; rfl) c3 (argsL := []) (rest := [.int (Int32.ofNat V.slots.size)]) rfl rfl (by show 2 * 0 + (1 + 0) ≤ _; decide) (hb hbytes d6) (⟨rfl, hx2.2.2.1, hx.2.2.2.2.1.cd, s1.there X2.warmed.alike hh2, hz⟩)
  obtain ⟨rfl, q4⟩ := E4
  have c5 : Steps p.tables e below (s₁.setTop (entryFrame m #[.ref x] 1)) (T4.setTop (mkF m 10 #[.val (.ref x)] [.int (Int32.ofNat V.slots.size >>> (cd &&& 31))])) := Steps.trans g4 (by
    refine ishr X4.here hexec rfl (hb hbytes d9) rfl ?_
    exact Steps.refl _)
  rw [hx.2.2.2.2.1.len v31] at c5
  exact ⟨T4, some (.int (Int32.ofNat n)), _, _, _, X4, rfl, rfl, rfl, (fun h => by cases h), ⟨rfl, q4.trans hh2⟩, fun fs hl => c5.trans (X4.ireturnOut hexec hret rfl (Or.inl rfl) (hb hbytes d10) hl)⟩
theorem pays {l : Launch} {R : Room} {p : Program} {e : Env} {below : List Frame} {s : State} {sargs : Array Value} {len W : Nat} (x t : Addr) (V : Cell) (cd : Int32) (n : Nat) (f : Nat → Int32) (z : Int32) (htab : tab.before sargs s = true) (hfr : 2 ≤ R.frames) (hlo : W + 25 ≤ R.locals) :
    Back l R p e below s sargs yN len W (fun A₁ a₁ => A₁.cells + 0 ≤ R.cells ∧ A₁.slots + 0 ≤ R.slots ∧ P x t V cd n f z a₁ A₁.U) (fun A₁ _ v₁ B₁ => E n v₁ A₁.U B₁.U ∧ B₁.locs = A₁.locs ++ [] ∧ B₁.cells = A₁.cells + 0 ∧ B₁.slots = A₁.slots + 0) :=
  (law l x t V cd n f z).pays htab hfr (by omega)
end Len
end StrChars
namespace StrChars.Road
open Jvm Sem ClassFile Op Lib Jvm.Stand Jvm.Free Jvm.Free.XT
open Jvm.Lib.Cold (StaticIs)
theorem consq {a : Array Value} {s : State} {c : Jvm.Cond} {L : List Jvm.Cond} (h0 : c.before a s = true) (h : ∀ w ∈ L, w.before a s = true) : ∀ w ∈ c :: L, w.before a s = true := fun w hw => (List.mem_cons.mp hw).elim (fun e => e ▸ h0) (h w)
/-- the words of String.length(), either coding -/
abbrev wordsLen : List Jvm.Cond := [.code Len.yN Len.yB 1 (some .int), .initialized ST, .fieldLink ST 9 ST "value" "[B", .fieldLink ST 38 ST "COMPACT_STRINGS" "Z", .fieldLink ST 15 ST "coder" "B", .code Cdr.yN Cdr.yB 1 (some .byte), .methodLink ST 335 Cdr.yN, .declares Cdr.yN, .selects ST Cdr.yN Cdr.yN, .instanceMethod Cdr.yN]
theorem tabLen_of {a : Array Value} {s : State} (h : ∀ w ∈ wordsLen, w.before a s = true) : Len.tab.before a s = true := by
  have hc : Cdr.tab.before a s = true := unparts (wk h (.code Cdr.yN Cdr.yB 1 (some .byte))) (wks h (.initialized Cdr.yN.cls :: Cdr.site))
  have q := consq hc h
  exact unparts (wk q (.code Len.yN Len.yB 1 (some .int))) (wks q (.initialized Len.yN.cls :: Len.site))
theorem movedLen {Z s : State} {a0 args : Array Value} (hZ : Z.Warmed39 s.vm) (hw : ∀ d ∈ wordsLen, d.before a0 Z = true) : ∀ d ∈ wordsLen, d.before args s = true := fun d hd => by
  have q := hw d hd
  have t : ∀ d ∈ wordsLen, d = .arrayClass .byte ∨ (d.onTables && d.keepsFace) = true := by decide +kernel
  rcases t d hd with rfl | t
  · exact RoadKit.mvA hZ q
  · exact RoadKit.mv hZ q t
/-- the bytes of the chars cs, low before high -/
def wideBytes : List Int32 → List Value
  | [] => []
  | c :: cs => .int (lo8 c) :: .int (hi8 c) :: wideBytes cs
theorem wide_lo (d : Value) : ∀ (cs : List Int32) (j : Nat), j < cs.length → (wideBytes cs).getD (2 * j) d = .int (lo8 (cs.getD j 0))
  | [], j, h => absurd h (Nat.not_lt_zero j)
  | c :: cs, 0, _ => rfl
  | c :: cs, j + 1, h => by
    have q := wide_lo d cs j (by simpa using h)
    rw [show 2 * (j + 1) = 2 * j + 1 + 1 from by omega]
    simpa [wideBytes] using q
theorem wide_hi (d : Value) : ∀ (cs : List Int32) (j : Nat), j < cs.length → (wideBytes cs).getD (2 * j + 1) d = .int (hi8 (cs.getD j 0))
  | [], j, h => absurd h (Nat.not_lt_zero j)
  | c :: cs, 0, _ => rfl
  | c :: cs, j + 1, h => by
    have q := wide_hi d cs j (by simpa using h)
    rw [show 2 * (j + 1) + 1 = 2 * j + 1 + 1 + 1 from by omega]
    simpa [wideBytes] using q
theorem low_at (d : Value) (cs : List Int32) (j : Nat) (h : j < cs.length) : (cs.map fun c => Value.int (lo8 c)).getD j d = .int (lo8 (cs.getD j 0)) := by
  simp [List.getD_eq_getElem?_getD, h]
/-- an array of N2 bytes vs codes the chars cs by the coder cd -/
def CodA (cs : List Int32) (cd N2 : Int32) (vs : List Value) : Prop := (cd = 0 ∧ N2 = Int32.ofNat cs.length ∧ vs = (cs.map fun c => Value.int (lo8 c)) ∧ ∀ c ∈ cs, ¬ 255 < c) ∨ (cd = 1 ∧ N2 = Int32.ofNat (2 * cs.length) ∧ vs = wideBytes cs ∧ ∃ c ∈ cs, 255 < c)
theorem CodA.cod {cs : List Int32} {cd N2 : Int32} {vs : List Value} {V : Cell} (h : CodA cs cd N2 vs) (hn : 2 * cs.length < 2 ^ 31) (hs : V.slots.size = N2.toNatClampNeg) (hv : RoadKit.Has V vs (.int 0)) : Cod cd cs.length (fun j => cs.getD j 0) V := by
  rcases h with ⟨rfl, rfl, rfl, h⟩ | ⟨rfl, rfl, rfl, c, hc, hw⟩
  · rw [n32 (by omega)] at hs
    exact Or.inl ⟨rfl, hs, fun j hj => ⟨by rw [hv j (by omega), low_at _ _ _ hj], by
      have e : cs.getD j 0 = cs[j] := by simp [List.getD_eq_getElem?_getD, hj]
      show ¬ 255 < cs.getD j 0
      rw [e]; exact h _ (List.getElem_mem _)⟩⟩
  · rw [n32 (by omega)] at hs
    obtain ⟨j, hj, rfl⟩ := List.getElem_of_mem hc
    exact Or.inr ⟨rfl, hs, fun j hj => ⟨by rw [hv _ (by omega), wide_lo _ _ _ hj], by rw [hv _ (by omega), wide_hi _ _ _ hj]⟩, j, hj, by
      have e : cs.getD j 0 = cs[j] := by simp [List.getD_eq_getElem?_getD, hj]
      show 255 < cs.getD j 0
      rw [e]; exact hw⟩
/-- an object of exactly java/lang/String, its two fields found: as the laws ask it -/
theorem strObj {Z U : State} {a0 : Array Value} {kI : Nat} (wi : (Jvm.Cond.instantiable ST kI).before a0 Z = true) (al : Z.vm.Alike U.vm) {x : Addr} {v0 c0 : Value} (E : RoadKit.Exa Z U.heap x ST) (V : RoadKit.Fld Z U.heap x ST "value" "[B" v0) (C : RoadKit.Fld Z U.heap x ST "coder" "B" c0) :
    ∃ (D : Cell) (fV fC : Field), Blank ST x D U ∧ Found ST "value" "[B" fV U ∧ Found ST "coder" "B" fC U ∧ D.slots[fV.slot]? = some v0 ∧ D.slots[fC.slot]? = some c0 ∧ RoadKit.slotOf Z ST "value" "[B" = fV.slot ∧ RoadKit.slotOf Z ST "coder" "B" = fC.slot := by
  obtain ⟨D, cfV, kV, iV, fV, hD, gV, stV, knV, obV, asV, slV⟩ := V
  obtain ⟨D', cfC, kC, iC, fC, hD', gC, stC, -, -, asC, slC⟩ := C
  cases hD.symm.trans hD'
  obtain ⟨D2, kD, e1, e2, e3, e4, e5⟩ := E
  cases hD.symm.trans e1
  obtain ⟨c2, k2, i1, i2, i3, -⟩ := Cond.instantiable_spec wi
  cases e2.symm.trans i1
  cases e3.symm.trans i2
  obtain ⟨kU, u1, u2⟩ := al.2.2 _ _ e3
  exact ⟨D, fV, fC, ⟨hD, ⟨knV, fun q hq => by rw [hq] at obV; cases obV⟩, by rw [al.findClass]; exact e2, kU, u1, by rw [u2]; exact i3, by rw [u2]; exact e5 i3⟩, ⟨SBG.found_only al ⟨cfV, kV, iV, gV⟩, stV⟩, ⟨SBG.found_only al ⟨cfC, kC, iC, gC⟩, stC⟩, slV, slC, by simp [RoadKit.slotOf, gV], by simp [RoadKit.slotOf, gC]⟩
theorem sta_is {Z U : State} (al : Z.vm.Alike U.vm) {C n d : String} {v : Value} (S : RoadKit.Sta Z U.heap C n d v) : StaticIs U C n d v := by
  obtain ⟨cfS, iS, kS, fS, st, cS, t1, t2, t3, t4, t5, t6, t7⟩ := S
  exact StaticIs.there (s := { Z with heap := U.heap }) ⟨cfS, iS, kS, fS, st, cS, t1, t2, t3, t4, t5, (fun q => by rw [q] at t6; cases t6), t7⟩ al rfl
/-- **length() OF SUCH A STRING** -/
theorem lenW {p : Program} {l : Launch} {e : Env} {R : Room} {s : State} {args : Array Value} {below : List Frame} {len W : Nat} {Z : State} {a0 : Array Value} {h : Heap} (hZ : Z.Warmed39 s.vm) (hw : ∀ d ∈ wordsLen, d.before a0 Z = true) {kI : Nat} (wi : (Jvm.Cond.instantiable ST kI).before a0 Z = true)
    {x t : Addr} {kb : ClassId} {cs : List Int32} {cd N2 z : Int32} {vs : List Value} (E : RoadKit.Exa Z h x ST) (V : RoadKit.Fld Z h x ST "value" "[B" (.ref t)) (C : RoadKit.Fld Z h x ST "coder" "B" (.int cd)) (K : RoadKit.Arv Z h t kb .byte N2 vs (.int 0)) (hc : CodA cs cd N2 vs) (hb : ∀ c ∈ cs, ¬ c < 0 ∧ ¬ (65535 : Int32) < c)
    (S : RoadKit.Sta Z h ST "COMPACT_STRINGS" "Z" (.int z)) (hz : ¬ z = 0) (l2 : cs.length ≤ 4000) (hfr : 2 ≤ R.frames) (hlo : W + 25 ≤ R.locals) :
    Back l R p e below s args (⟨"java/lang/String", "length", "()I"⟩ : MethodName) len W (fun P a => a = #[.ref x] ∧ P.U.heap = h ∧ P.cells + 0 ≤ R.cells ∧ P.slots + 0 ≤ R.slots)
      (fun P _ v B => ∃ L, (v = some (.int (Int32.ofNat cs.length)) ∧ L = [] ∧ B.U.heap = h) ∧ B.locs = P.locs ++ L ∧ B.cells = P.cells + 0 ∧ B.slots = P.slots + 0) := by
  obtain ⟨A, K1, K2, K3, K4, K5, K6⟩ := K
  have hcod := hc.cod (by omega) K3 K5
  intro m meth c P g ig mk a X hg hsize hdg hW hn hp'
  obtain ⟨rfl, rfl, r1, r2⟩ := hp'
  have al : Z.vm.Alike P.U.vm := hZ.alike.trans X.warmed.alike
  obtain ⟨D, fV, fC, hB, F1, F2, g1, g2, -, -⟩ := strObj wi al E V C
  have hx : Txt x t A cd cs.length (fun j => cs.getD j 0) P.U := ⟨⟨_, hB.2.2.1, D, hB.1, rfl, by cases q : D.vm <;> first | rfl | exact absurd q (hB.2.1.2 _)⟩, Has.of hB F1 g1, Has.of hB F2 g2, ⟨K1.1, State.isArrayOf_alike al K1.2.1, K1.2.2, by rcases hcod with ⟨-, q, -⟩ | ⟨-, q, -⟩ <;> omega⟩, hcod, fun j hj => by
    have e : cs.getD j 0 = cs[j] := by simp [List.getD_eq_getElem?_getD, hj]
    show ¬ cs.getD j 0 < 0 ∧ ¬ 65535 < cs.getD j 0
    rw [e]; exact hb _ (List.getElem_mem _)⟩
  obtain ⟨v, B, X', ⟨⟨hv, hh⟩, hl, hk, hs⟩, st⟩ := Len.pays x t A cd cs.length (fun j => cs.getD j 0) z (tabLen_of (movedLen hZ hw)) hfr hlo m meth c P g ig mk _ X hg hsize hdg hW hn ⟨r1, r2, rfl, hx, sta_is al S, hz⟩
  exact ⟨v, B, X', ⟨[], ⟨hv, rfl, hh⟩, hl, hk, hs⟩, st⟩
end StrChars.Road
namespace StrChars
open Jvm Sem ClassFile Op Lib Jvm.Stand Jvm.Free.XT Jvm.Free.ALB Jvm.Free.JM Jvm.Free
open Jvm.Lib.Cold (StaticIs)
/-- what place i of a byte[]'s cell holds -/
def yv (A : Cell) (i : Nat) : Int32 := match A.slots[i]? with | some (.int x) => x | _ => 0
theorem yv_get {a : Addr} {A : Cell} {U : State} (h : XT.Arr .byte a A U) (ht : Typed .byte A) {i : Nat} (hi : i < A.slots.size) : A.slots[i]? = some (.int (yv A i)) := by
  have e := Array.getElem?_eq_getElem hi
  have f := ht i _ e
  unfold yv; rw [e]
  generalize A.slots[i] = v at f
  cases v <;> simp [fits] at f ⊢
/-- the two arrays are equal, place for place -/
def EqC (A B : Cell) : Prop := A.slots.size = B.slots.size ∧ ∀ i, i < A.slots.size → yv A i = yv B i
/-- a boolean that says whether p -/
def Says01 (q : Prop) (r : Option Value) (s u : State) : Prop := ∃ v : Int32, r = some (.int v) ∧ u.heap = s.heap ∧ ((v = 1 ∧ q) ∨ (v = 0 ∧ ¬ q))
theorem Says01.mv {q : Prop} : ∀ r (U U' V V' : State), U'.heap = U.heap → V.vm.Alike V'.vm → V'.heap = V.heap → Says01 q r U V → Says01 q r U' V' :=
  fun r U U' V V' h1 _ h2 ⟨v, a, b, c⟩ => ⟨v, a, by rw [h1, h2]; exact b, c⟩
namespace LEq
def yN : MethodName := ⟨"java/lang/StringLatin1", "equals", "([B[B)Z"⟩
abbrev yB : ByteArray := jdk_43_method_13_code
theorem d0 : decode yB 0 = .ok (.aload_n 0, 1) := by decide +kernel
theorem d1 : decode yB 1 = .ok (.arraylength, 1) := by decide +kernel
theorem d2 : decode yB 2 = .ok (.aload_n 1, 1) := by decide +kernel
theorem d3 : decode yB 3 = .ok (.arraylength, 1) := by decide +kernel
theorem d4 : decode yB 4 = .ok (.if_icmp (.ne) 30, 3) := by decide +kernel
theorem d7 : decode yB 7 = .ok (.iconst 0, 1) := by decide +kernel
theorem d8 : decode yB 8 = .ok (.istore_n 2, 1) := by decide +kernel
theorem d9 : decode yB 9 = .ok (.iload_n 2, 1) := by decide +kernel
theorem d10 : decode yB 10 = .ok (.aload_n 0, 1) := by decide +kernel
theorem d11 : decode yB 11 = .ok (.arraylength, 1) := by decide +kernel
theorem d12 : decode yB 12 = .ok (.if_icmp (.ge) 20, 3) := by decide +kernel
theorem d15 : decode yB 15 = .ok (.aload_n 0, 1) := by decide +kernel
theorem d16 : decode yB 16 = .ok (.iload_n 2, 1) := by decide +kernel
theorem d17 : decode yB 17 = .ok (.baload, 1) := by decide +kernel
theorem d18 : decode yB 18 = .ok (.aload_n 1, 1) := by decide +kernel
theorem d19 : decode yB 19 = .ok (.iload_n 2, 1) := by decide +kernel
theorem d20 : decode yB 20 = .ok (.baload, 1) := by decide +kernel
theorem d21 : decode yB 21 = .ok (.if_icmp (.eq) 5, 3) := by decide +kernel
theorem d24 : decode yB 24 = .ok (.iconst 0, 1) := by decide +kernel
theorem d25 : decode yB 25 = .ok (.ireturn, 1) := by decide +kernel
theorem d26 : decode yB 26 = .ok (.iinc 2 1, 3) := by decide +kernel
theorem d29 : decode yB 29 = .ok (.goto (-20), 3) := by decide +kernel
theorem d32 : decode yB 32 = .ok (.iconst 1, 1) := by decide +kernel
theorem d33 : decode yB 33 = .ok (.ireturn, 1) := by decide +kernel
theorem d34 : decode yB 34 = .ok (.iconst 0, 1) := by decide +kernel
theorem d35 : decode yB 35 = .ok (.ireturn, 1) := by decide +kernel
def site : List Cond := []
def tab : Cond := tabOf yN yB 3 (some .boolean) site
def P (a : Addr) (A : Cell) (b : Addr) (B : Cell) (args : Array Value) (s : State) : Prop := args = #[.ref a, .ref b] ∧ XT.Arr .byte a A s ∧ Typed .byte A ∧ XT.Arr .byte b B s ∧ Typed .byte B
/-- whether two byte[] are equal, place for place -/
theorem law (l : Launch) (a : Addr) (A : Cell) (b : Addr) (B : Cell) : Law l yN 2 2 0 0 yB 3 (some .boolean) site (P a A b B) (Says01 (EqC A B)) [] 0 0 := by
  refine Law.of_walk (plainFor_of_name (by decide +kernel)) (by decide +kernel) (by decide +kernel) (by decide) (fun _ _ h => by rw [h.1]; rfl) (fun _ U U' hal hh h => ⟨h.1, h.2.1.mv hal hh, h.2.2.1, h.2.2.2.1.mv hal hh, h.2.2.2.2⟩) (fun r U U' V V' h1 hal h2 h => Says01.mv r U U' V V' h1 hal h2 h) ?_
  intro p e s m args below meth c s₁ X0 hexec hbytes hml hret hlk hnm hown hh0 W hP
  obtain ⟨rfl, hA, tA, hB, tB⟩ := hP
  have a31 := hA.2.2.2
  have b31 := hB.2.2.2
  have hA0 := hA.mv X0.warmed.alike hh0
  have hB0 := hB.mv X0.warmed.alike hh0
  have c1 : Steps p.tables e below (s₁.setTop (entryFrame m #[.ref a, .ref b] 3)) (s₁.setTop (mkF m 0 #[.val (.ref a), .val (.ref b), .unset] [])) := entry rfl
  have c2 : Steps p.tables e below (s₁.setTop (entryFrame m #[.ref a, .ref b] 3)) (s₁.setTop (mkF m 4 #[.val (.ref a), .val (.ref b), .unset] [.int (Int32.ofNat B.slots.size), .int (Int32.ofNat A.slots.size)])) := c1.trans (by
    refine XS.aloadN X0.here hexec rfl (hb hbytes d0) rfl rfl ?_
    refine X0.alen hexec hA0 rfl rfl (hb hbytes d1) ?_
    refine XS.aloadN X0.here hexec rfl (hb hbytes d2) rfl rfl ?_
    refine X0.alen hexec hB0 rfl rfl (hb hbytes d3) ?_
    exact Steps.refl _)
  by_cases hs : A.slots.size = B.slots.size
  · have c3 : Steps p.tables e below (s₁.setTop (entryFrame m #[.ref a, .ref b] 3)) (s₁.setTop (mkF m 9 #[.val (.ref a), .val (.ref b), .val (.int 0)] [])) := c2.trans (by
      refine XS.icmpNo X0.here hexec rfl (hb hbytes d4) rfl (ii_ne_f (by rw [hs])) ?_
      refine iconstV X0.here hexec rfl 0 (hb hbytes d7) (by decide) ?_
      refine XS.istoreN X0.here hexec rfl (hb hbytes d8) rfl rfl ?_
      exact Steps.refl _)
    have loop : ∀ (r i : Nat), i + r = A.slots.size → (∀ j, j < i → yv A j = yv B j) → Steps p.tables e below (s₁.setTop (entryFrame m #[.ref a, .ref b] 3)) (s₁.setTop (mkF m 9 #[.val (.ref a), .val (.ref b), .val (.int (Int32.ofNat i))] [])) → ∃ (pc : Nat) (Ls : Array Slot) (v : Int32), (pc = 25 ∨ pc = 33) ∧ ((v = 1 ∧ EqC A B) ∨ (v = 0 ∧ ¬ EqC A B)) ∧ Steps p.tables e below (s₁.setTop (entryFrame m #[.ref a, .ref b] 3)) (s₁.setTop (mkF m pc Ls [.int v])) := by
      intro r
      induction r with
      | zero =>
        intro i hi he cl
        exact ⟨33, _, 1, Or.inr rfl, Or.inl ⟨rfl, hs, fun j hj => he j (by omega)⟩, cl.trans (by
          refine XS.iloadN X0.here hexec rfl (hb hbytes d9) rfl ?_
          refine XS.aloadN X0.here hexec rfl (hb hbytes d10) rfl rfl ?_
          refine X0.alen hexec hA0 rfl rfl (hb hbytes d11) ?_
          refine XS.icmpYes X0.here hexec rfl (pc0 := 12) rfl (hb hbytes d12) rfl (ii_ge_t (nlt32 (by omega) (by omega))) (by decide) rfl ?_
          refine iconstV X0.here hexec rfl 1 (hb hbytes d32) (by decide) ?_
          exact Steps.refl _)⟩
      | succ r ih =>
        intro i hi he cl
        have c4 : Steps p.tables e below (s₁.setTop (entryFrame m #[.ref a, .ref b] 3)) (s₁.setTop (mkF m 21 #[.val (.ref a), .val (.ref b), .val (.int (Int32.ofNat i))] [.int (yv B i), .int (yv A i)])) := cl.trans (by
          refine XS.iloadN X0.here hexec rfl (hb hbytes d9) rfl ?_
          refine XS.aloadN X0.here hexec rfl (hb hbytes d10) rfl rfl ?_
          refine X0.alen hexec hA0 rfl rfl (hb hbytes d11) ?_
          refine XS.icmpNo X0.here hexec rfl (hb hbytes d12) rfl (ii_ge_f (lt32 (by omega) (by omega))) ?_
          refine XS.aloadN X0.here hexec rfl (hb hbytes d15) rfl rfl ?_
          refine XS.iloadN X0.here hexec rfl (hb hbytes d16) rfl ?_
          refine X0.aget hexec hA0 rfl (yv_get hA tA (i := i) (by omega)) rfl rfl (hb hbytes d17) ?_
          refine XS.aloadN X0.here hexec rfl (hb hbytes d18) rfl rfl ?_
          refine XS.iloadN X0.here hexec rfl (hb hbytes d19) rfl ?_
          refine X0.aget hexec hB0 rfl (yv_get hB tB (i := i) (by omega)) rfl rfl (hb hbytes d20) ?_
          exact Steps.refl _)
        by_cases hv : yv A i = yv B i
        · have c5 : Steps p.tables e below (s₁.setTop (entryFrame m #[.ref a, .ref b] 3)) (s₁.setTop (mkF m 9 #[.val (.ref a), .val (.ref b), .val (.int (Int32.ofNat i + 1))] [])) := c4.trans (by
            refine XS.icmpYes X0.here hexec rfl (pc0 := 21) rfl (hb hbytes d21) rfl (ii_eq_t hv) (by decide) rfl ?_
            refine iincV X0.here hexec rfl 1 (hb hbytes d26) (by decide) rfl rfl ?_
            refine XS.goto X0.here hexec rfl (pc0 := 29) rfl (hb hbytes d29) (by decide) rfl ?_
            exact Steps.refl _)
          rw [succ32] at c5
          exact ih (i + 1) (by omega) (fun j hj => by
            by_cases e : j = i
            · rw [e]; exact hv
            · exact he j (by omega)) c5
        · exact ⟨25, _, 0, Or.inl rfl, Or.inr ⟨rfl, fun q => hv (q.2 i (by omega))⟩, c4.trans (by
            refine XS.icmpNo X0.here hexec rfl (hb hbytes d21) rfl (ii_eq_f hv) ?_
            refine iconstV X0.here hexec rfl 0 (hb hbytes d24) (by decide) ?_
            exact Steps.refl _)⟩
    obtain ⟨pc, Ls, v, hpc, hv, cz⟩ := loop A.slots.size 0 (by omega) (fun j hj => absurd hj (Nat.not_lt_zero j)) c3
    have nv : narrow .boolean (.int v) = .int v := by rcases hv with ⟨rfl, -⟩ | ⟨rfl, -⟩ <;> rfl
    rcases hpc with rfl | rfl
    · exact ⟨s₁, some (.int v), _, _, _, X0, rfl, rfl, rfl, (fun h => by cases h), ⟨v, rfl, hh0, hv⟩, fun fs hl => cz.trans (X0.ireturnOut hexec hret nv (Or.inr (Or.inl rfl)) (hb hbytes d25) hl)⟩
    · exact ⟨s₁, some (.int v), _, _, _, X0, rfl, rfl, rfl, (fun h => by cases h), ⟨v, rfl, hh0, hv⟩, fun fs hl => cz.trans (X0.ireturnOut hexec hret nv (Or.inr (Or.inl rfl)) (hb hbytes d33) hl)⟩
  · have c3 : Steps p.tables e below (s₁.setTop (entryFrame m #[.ref a, .ref b] 3)) (s₁.setTop (mkF m 35 #[.val (.ref a), .val (.ref b), .unset] [.int 0])) := c2.trans (by
      refine XS.icmpYes X0.here hexec rfl (pc0 := 4) rfl (hb hbytes d4) rfl (ii_ne_t (ne32 a31 b31 hs)) (by decide) rfl ?_
      refine iconstV X0.here hexec rfl 0 (hb hbytes d34) (by decide) ?_
      exact Steps.refl _)
    exact ⟨s₁, some (.int 0), _, _, _, X0, rfl, rfl, rfl, (fun h => by cases h), ⟨0, rfl, hh0, Or.inr ⟨rfl, fun q => hs q.1⟩⟩, fun fs hl => c3.trans (X0.ireturnOut hexec hret rfl (Or.inr (Or.inl rfl)) (hb hbytes d35) hl)⟩
end LEq
theorem Cod.ty {cd : Int32} {n : Nat} {f : Nat → Int32} {V : Cell} (h : Cod cd n f V) : Typed .byte V := fun i v hv => by
  have hi : i < V.slots.size := (Array.getElem?_eq_some_iff.mp hv).1
  rcases h with ⟨-, k1, k2⟩ | ⟨-, k1, k2, -⟩
  · rw [(k2 i (by omega)).1] at hv; cases hv; exact fits_lo8 _
  · rcases Nat.mod_two_eq_zero_or_one i with e | e
    · obtain ⟨j, rfl⟩ : ∃ j, i = 2 * j := ⟨i / 2, by omega⟩
      rw [(k2 j (by omega)).1] at hv; cases hv; exact fits_lo8 _
    · obtain ⟨j, rfl⟩ : ∃ j, i = 2 * j + 1 := ⟨i / 2, by omega⟩
      rw [(k2 j (by omega)).2] at hv; cases hv; exact fits_lo8 _
/-- the same text -/
def SameT (n : Nat) (f : Nat → Int32) (k : Nat) (g : Nat → Int32) : Prop := n = k ∧ ∀ j, j < n → f j = g j
theorem lo8_inj {x y : Int32} (h0 : ¬ x < 0) (h1 : ¬ 255 < x) (k0 : ¬ y < 0) (k1 : ¬ 255 < y) (h : lo8 x = lo8 y) : x = y := by
  rw [← lo8_mask h0 h1, ← lo8_mask k0 k1, h]
/-- arrays coded by one coder are equal just where the texts are -/
theorem Cod.eqv {cd : Int32} {n k : Nat} {f g : Nat → Int32} {V V' : Cell} (h : Cod cd n f V) (h' : Cod cd k g V') (hf : ∀ j, j < n → ¬ f j < 0 ∧ ¬ 65535 < f j) (hg : ∀ j, j < k → ¬ g j < 0 ∧ ¬ 65535 < g j) : EqC V V' ↔ SameT n f k g := by
  have yvv : ∀ {W : Cell} {i : Nat} {x : Int32}, W.slots[i]? = some (.int x) → yv W i = x := fun q => by unfold yv; rw [q]
  rcases h with ⟨rfl, k1, k2⟩ | ⟨rfl, k1, k2, -⟩
  · rcases h' with ⟨-, m1, m2⟩ | ⟨e, -⟩
    · constructor
      · rintro ⟨e1, e2⟩
        refine ⟨by omega, fun j hj => ?_⟩
        have q := e2 j (by omega)
        rw [yvv (k2 j hj).1, yvv (m2 j (by omega)).1] at q
        exact lo8_inj (hf j hj).1 (k2 j hj).2 (hg j (by omega)).1 (m2 j (by omega)).2 q
      · rintro ⟨rfl, e2⟩
        refine ⟨by omega, fun j hj => ?_⟩
        rw [yvv (k2 j (by omega)).1, yvv (m2 j (by omega)).1, e2 j (by omega)]
    · exact absurd e (by decide)
  · rcases h' with ⟨e, -⟩ | ⟨-, m1, m2, -⟩
    · exact absurd e (by decide)
    · constructor
      · rintro ⟨e1, e2⟩
        refine ⟨by omega, fun j hj => ?_⟩
        have q1 := e2 (2 * j) (by omega)
        have q2 := e2 (2 * j + 1) (by omega)
        rw [yvv (k2 j hj).1, yvv (m2 j (by omega)).1] at q1
        rw [yvv (k2 j hj).2, yvv (m2 j (by omega)).2] at q2
        rw [← pair_says (hf j hj).1 (hf j hj).2, ← pair_says (hg j (by omega)).1 (hg j (by omega)).2, q1, q2]
      · rintro ⟨rfl, e2⟩
        refine ⟨by omega, fun i hi => ?_⟩
        rcases Nat.mod_two_eq_zero_or_one i with e | e
        · obtain ⟨j, rfl⟩ : ∃ j, i = 2 * j := ⟨i / 2, by omega⟩
          rw [yvv (k2 j (by omega)).1, yvv (m2 j (by omega)).1, e2 j (by omega)]
        · obtain ⟨j, rfl⟩ : ∃ j, i = 2 * j + 1 := ⟨i / 2, by omega⟩
          rw [yvv (k2 j (by omega)).2, yvv (m2 j (by omega)).2, e2 j (by omega)]
/-- two codings differ: so do the texts -/
theorem Cod.dif {cd cd' : Int32} {n k : Nat} {f g : Nat → Int32} {V V' : Cell} (h : Cod cd n f V) (h' : Cod cd' k g V') (hne : ¬ cd = cd') : ¬ SameT n f k g := by
  rintro ⟨rfl, e⟩
  rcases h with ⟨rfl, -, k2⟩ | ⟨rfl, -, -, j, hj, hw⟩
  · rcases h' with ⟨rfl, -⟩ | ⟨-, -, -, j, hj, hw⟩
    · exact hne rfl
    · exact (k2 j hj).2 (by rw [e j hj]; exact hw)
  · rcases h' with ⟨-, -, m2⟩ | ⟨rfl, -⟩
    · exact (m2 j hj).2 (by rw [← e j hj]; exact hw)
    · exact hne rfl
/-- an object of exactly C is an instance of C -/
theorem cinst {p : Program} {l : Launch} {e : Env} {R : Room} {s : State} {m : MethodId} {args : Array Value} {below : List Frame} {meth : Method} {c : Code} {T : State} {locs : List Loc} {cells slots : Nat} (X : Stand p l e R s m args below meth c T locs cells slots) (hexec : p.tables.exec = Jvm.exec) {own C : String} {index : Nat} (hown : s.vm.findClass own = some m.cls) (hlink : (Cond.classLink own index C).before args s = true) {a : Addr} (hE : Exact C a T)
    {g : JFrame} (hg : g.method = m) {rest : List Value} (hstack : g.stack = .ref a :: rest) (hdg : decode c.code g.pc = .ok (.instanceof index, 3)) :
    ∃ T', Stand p l e R s m args below meth c T' locs cells slots ∧ T'.heap = T.heap ∧ ∀ target, Steps p.tables e below (T'.setTop { g with pc := g.pc + 3, stack := .int 1 :: rest }) target → Steps p.tables e below (T.setTop g) target := by
  obtain ⟨cB, h1, D, h2, h3, h4⟩ := hE
  have h1' : s.vm.findClass C = some cB := by rw [← X.warmed.alike.findClass]; exact h1
  obtain ⟨vm', X', st⟩ := X.instanceofYes hexec hown hlink h2 h4 h1' (by rw [h3]; exact Jvm.Free.SB.assignable_self _ _) hg hstack hdg
  exact ⟨_, X', rfl, st⟩
theorem cself {p : Program} {l : Launch} {e : Env} {R : Room} {s : State} {m : MethodId} {args : Array Value} {below : List Frame} {meth : Method} {c : Code} {T : State} {locs : List Loc} {cells slots : Nat} (X : Stand p l e R s m args below meth c T locs cells slots) (hexec : p.tables.exec = Jvm.exec) {own C : String} {index : Nat} (hown : s.vm.findClass own = some m.cls) (hlink : (Cond.classLink own index C).before args s = true) {a : Addr} (hE : Exact C a T)
    {g : JFrame} (hg : g.method = m) {rest : List Value} (hstack : g.stack = .ref a :: rest) (hdg : decode c.code g.pc = .ok (.checkcast index, 3)) :
    ∃ T', Stand p l e R s m args below meth c T' locs cells slots ∧ T'.heap = T.heap ∧ ∀ target, Steps p.tables e below (T'.setTop { g with pc := g.pc + 3, stack := .ref a :: rest }) target → Steps p.tables e below (T.setTop g) target := by
  obtain ⟨cB, h1, D, h2, h3, h4⟩ := hE
  have h1' : s.vm.findClass C = some cB := by rw [← X.warmed.alike.findClass]; exact h1
  obtain ⟨vm', X', st⟩ := X.checkcastYes hexec hown hlink h2 h4 h1' (by rw [h3]; exact Jvm.Free.SB.assignable_self _ _) hg hstack hdg
  exact ⟨_, X', rfl, fun t h => st t (by rw [← hstack] at h; exact h)⟩
namespace SEq
def yN : MethodName := ⟨"java/lang/String", "equals", "(Ljava/lang/Object;)Z"⟩
abbrev yB : ByteArray := jdk_42_method_66_code
theorem d0 : decode yB 0 = .ok (.aload_n 0, 1) := by decide +kernel
theorem d1 : decode yB 1 = .ok (.aload_n 1, 1) := by decide +kernel
theorem d2 : decode yB 2 = .ok (.if_acmp (.ne) 5, 3) := by decide +kernel
theorem d5 : decode yB 5 = .ok (.iconst 1, 1) := by decide +kernel
theorem d6 : decode yB 6 = .ok (.ireturn, 1) := by decide +kernel
theorem d7 : decode yB 7 = .ok (.aload_n 1, 1) := by decide +kernel
theorem d8 : decode yB 8 = .ok (.instanceof 10, 3) := by decide +kernel
theorem d11 : decode yB 11 = .ok (.ifCond (.eq) 43, 3) := by decide +kernel
theorem d14 : decode yB 14 = .ok (.aload_n 1, 1) := by decide +kernel
theorem d15 : decode yB 15 = .ok (.checkcast 10, 3) := by decide +kernel
theorem d18 : decode yB 18 = .ok (.astore_n 2, 1) := by decide +kernel
theorem d19 : decode yB 19 = .ok (.getstatic 38, 3) := by decide +kernel
theorem d22 : decode yB 22 = .ok (.ifCond (.eq) 14, 3) := by decide +kernel
theorem d25 : decode yB 25 = .ok (.aload_n 0, 1) := by decide +kernel
theorem d26 : decode yB 26 = .ok (.getfield 15, 3) := by decide +kernel
theorem d29 : decode yB 29 = .ok (.aload_n 2, 1) := by decide +kernel
theorem d30 : decode yB 30 = .ok (.getfield 15, 3) := by decide +kernel
theorem d33 : decode yB 33 = .ok (.if_icmp (.ne) 21, 3) := by decide +kernel
theorem d36 : decode yB 36 = .ok (.aload_n 0, 1) := by decide +kernel
theorem d37 : decode yB 37 = .ok (.getfield 9, 3) := by decide +kernel
theorem d40 : decode yB 40 = .ok (.aload_n 2, 1) := by decide +kernel
theorem d41 : decode yB 41 = .ok (.getfield 9, 3) := by decide +kernel
theorem d44 : decode yB 44 = .ok (.invokestatic 541, 3) := by decide +kernel
theorem d47 : decode yB 47 = .ok (.ifCond (.eq) 7, 3) := by decide +kernel
theorem d50 : decode yB 50 = .ok (.iconst 1, 1) := by decide +kernel
theorem d51 : decode yB 51 = .ok (.goto 4, 3) := by decide +kernel
theorem d54 : decode yB 54 = .ok (.iconst 0, 1) := by decide +kernel
theorem d55 : decode yB 55 = .ok (.ireturn, 1) := by decide +kernel
def site : List Cond := [.classLink "java/lang/String" 10 "java/lang/String", .fieldLink "java/lang/String" 38 "java/lang/String" "COMPACT_STRINGS" "Z", .fieldLink "java/lang/String" 15 "java/lang/String" "coder" "B", .fieldLink "java/lang/String" 9 "java/lang/String" "value" "[B", LEq.tab] ++ staticW "java/lang/String" 541 LEq.yN
def tab : Cond := tabOf yN yB 3 (some .boolean) site
def P (x t : Addr) (V : Cell) (cd : Int32) (n : Nat) (f : Nat → Int32) (y t' : Addr) (V' : Cell) (cd' : Int32) (k : Nat) (g : Nat → Int32) (z : Int32) (args : Array Value) (s : State) : Prop := args = #[.ref x, .ref y] ∧ Txt x t V cd n f s ∧ Txt y t' V' cd' k g s ∧ StaticIs s "java/lang/String" "COMPACT_STRINGS" "Z" (.int z) ∧ ¬ z = 0
/-- equals(Object) of two Strings: whether the texts are the same -/
theorem law (l : Launch) (x t : Addr) (V : Cell) (cd : Int32) (n : Nat) (f : Nat → Int32) (y t' : Addr) (V' : Cell) (cd' : Int32) (k : Nat) (g : Nat → Int32) (z : Int32) : Law l yN 2 1 1 14 yB 3 (some .boolean) site (P x t V cd n f y t' V' cd' k g z) (Says01 (SameT n f k g)) [] 0 0 := by
  refine Law.of_walk (plainFor_of_name (by decide +kernel)) (by decide +kernel) (by decide +kernel) (by decide) (fun _ _ h => by rw [h.1]; rfl) (fun _ U U' hal hh h => ⟨h.1, h.2.1.mv hal hh, h.2.2.1.mv hal hh, h.2.2.2.1.there hal hh, h.2.2.2.2⟩) (fun r U U' V V' h1 hal h2 h => Says01.mv r U U' V V' h1 hal h2 h) ?_
  intro p e s m args below meth c s₁ X0 hexec hbytes hml hret hlk hnm hown hh0 W hP
  obtain ⟨rfl, hx, hy, s1, hz⟩ := hP
  have c1 : Steps p.tables e below (s₁.setTop (entryFrame m #[.ref x, .ref y] 3)) (s₁.setTop (mkF m 2 #[.val (.ref x), .val (.ref y), .unset] [.ref y, .ref x])) := Steps.trans (entry rfl) (by
    show Steps p.tables e below (s₁.setTop (mkF m 0 #[.val (.ref x), .val (.ref y), .unset] [])) _
    refine XS.aloadN X0.here hexec rfl (hb hbytes d0) rfl rfl ?_
    refine XS.aloadN X0.here hexec rfl (hb hbytes d1) rfl rfl ?_
    exact Steps.refl _)
  by_cases hxy : x = y
  · have c2 : Steps p.tables e below (s₁.setTop (entryFrame m #[.ref x, .ref y] 3)) (s₁.setTop (mkF m 6 #[.val (.ref x), .val (.ref y), .unset] [.int 1])) := c1.trans (by
      refine acmpNo X0.here hexec rfl (hb hbytes d2) rfl rfl rfl (by simp [acmp, hxy]) ?_
      refine iconstV X0.here hexec rfl 1 (hb hbytes d5) (by decide) ?_
      exact Steps.refl _)
    subst hxy
    have ec : cd = cd' := by
      obtain ⟨D, fd, a1, a2, a3⟩ := hx.2.2.1
      obtain ⟨D', fd', b1, b2, b3⟩ := hy.2.2.1
      cases a1.symm.trans b1
      obtain ⟨q1, q2, q3, q4⟩ := a2.1
      obtain ⟨r1, r2, r3, r4⟩ := b2.1
      cases q4.symm.trans r4
      cases a3.symm.trans b3; rfl
    have et : t = t' := by
      obtain ⟨D, fd, a1, a2, a3⟩ := hx.2.1
      obtain ⟨D', fd', b1, b2, b3⟩ := hy.2.1
      cases a1.symm.trans b1
      obtain ⟨q1, q2, q3, q4⟩ := a2.1
      obtain ⟨r1, r2, r3, r4⟩ := b2.1
      cases q4.symm.trans r4
      cases a3.symm.trans b3; rfl
    subst ec et
    have ev : V = V' := by cases hx.2.2.2.1.1.symm.trans hy.2.2.2.1.1; rfl
    subst ev
    have hs : SameT n f k g := (Cod.eqv hx.2.2.2.2.1 hy.2.2.2.2.1 hx.2.2.2.2.2 hy.2.2.2.2.2).mp ⟨rfl, fun _ _ => rfl⟩
    exact ⟨s₁, some (.int 1), _, _, _, X0, rfl, rfl, rfl, (fun h => by cases h), ⟨1, rfl, hh0, Or.inl ⟨rfl, hs⟩⟩, fun fs hl => c2.trans (X0.ireturnOut hexec hret rfl (Or.inr (Or.inl rfl)) (hb hbytes d6) hl)⟩
  · have c2 : Steps p.tables e below (s₁.setTop (entryFrame m #[.ref x, .ref y] 3)) (s₁.setTop (mkF m 8 #[.val (.ref x), .val (.ref y), .unset] [.ref y])) := c1.trans (by
      refine acmpYes X0.here hexec rfl (pc0 := 2) rfl (hb hbytes d2) rfl rfl rfl (by simp [acmp, hxy]) (by decide) rfl ?_
      refine XS.aloadN X0.here hexec rfl (hb hbytes d7) rfl rfl ?_
      exact Steps.refl _)
    obtain ⟨T3, X3, q3, st3⟩ := cinst X0 hexec hown (wk W (.classLink "java/lang/String" 10 "java/lang/String")) (hy.mv X0.warmed.alike hh0).1 (g := (mkF m 8 #[.val (.ref x), .val (.ref y), .unset] [.ref y])) rfl (rest := []) rfl (hb hbytes d8)
    have hh3 := q3.trans hh0
    have c4 : Steps p.tables e below (s₁.setTop (entryFrame m #[.ref x, .ref y] 3)) (T3.setTop (mkF m 15 #[.val (.ref x), .val (.ref y), .unset] [.ref y])) := (c2.trans (st3 _ (Steps.refl _))).trans (by
      refine XS.ifNo X3.here hexec rfl (hb hbytes d11) rfl (i0_eq_f (by decide)) ?_
      refine XS.aloadN X3.here hexec rfl (hb hbytes d14) rfl rfl ?_
      exact Steps.refl _)
    obtain ⟨T5, X5, q5, st5⟩ := cself X3 hexec hown (wk W (.classLink "java/lang/String" 10 "java/lang/String")) (hy.mv X3.warmed.alike hh3).1 (g := (mkF m 15 #[.val (.ref x), .val (.ref y), .unset] [.ref y])) rfl (rest := []) rfl (hb hbytes d15)
    have hh5 := q5.trans hh3
    have c6 : Steps p.tables e below (s₁.setTop (entryFrame m #[.ref x, .ref y] 3)) (T5.setTop (mkF m 19 #[.val (.ref x), .val (.ref y), .val (.ref y)] [])) := (c4.trans (st5 _ (Steps.refl _))).trans (by
      refine XS.astoreN X5.here hexec rfl (hb hbytes d18) rfl rfl rfl ?_
      exact Steps.refl _)
    obtain ⟨T7, X7, q7, st7⟩ := X5.sget hexec hown (wk W (.fieldLink "java/lang/String" 38 "java/lang/String" "COMPACT_STRINGS" "Z")) s1 (fun _ _ h => by rw [hh5]; exact h) (g := (mkF m 19 #[.val (.ref x), .val (.ref y), .val (.ref y)] [])) rfl (hb hbytes d19)
    have hh7 := q7.trans hh5
    have c8 : Steps p.tables e below (s₁.setTop (entryFrame m #[.ref x, .ref y] 3)) (T7.setTop (mkF m 26 #[.val (.ref x), .val (.ref y), .val (.ref y)] [.ref x])) := (c6.trans (st7 _ (Steps.refl _))).trans (by
      refine XS.ifNo X7.here hexec rfl (hb hbytes d22) rfl (i0_eq_f hz) ?_
      refine XS.aloadN X7.here hexec rfl (hb hbytes d25) rfl rfl ?_
      exact Steps.refl _)
    obtain ⟨T9, X9, q9, st9⟩ := X7.hget hexec hown (wk W (.fieldLink "java/lang/String" 15 "java/lang/String" "coder" "B")) (hx.mv X7.warmed.alike hh7).2.2.1 (g := (mkF m 26 #[.val (.ref x), .val (.ref y), .val (.ref y)] [.ref x])) rfl (rest := []) rfl (hb hbytes d26)
    have hh9 := q9.trans hh7
    have c10 : Steps p.tables e below (s₁.setTop (entryFrame m #[.ref x, .ref y] 3)) (T9.setTop (mkF m 30 #[.val (.ref x), .val (.ref y), .val (.ref y)] [.ref y, .int cd])) := (c8.trans (st9 _ (Steps.refl _))).trans (by
      refine XS.aloadN X9.here hexec rfl (hb hbytes d29) rfl rfl ?_
      exact Steps.refl _)
    obtain ⟨T11, X11, q11, st11⟩ := X9.hget hexec hown (wk W (.fieldLink "java/lang/String" 15 "java/lang/String" "coder" "B")) (hy.mv X9.warmed.alike hh9).2.2.1 (g := (mkF m 30 #[.val (.ref x), .val (.ref y), .val (.ref y)] [.ref y, .int cd])) rfl (rest := [.int cd]) rfl (hb hbytes d30)
    have hh11 := q11.trans hh9
    have c12 : Steps p.tables e below (s₁.setTop (entryFrame m #[.ref x, .ref y] 3)) (T11.setTop (mkF m 33 #[.val (.ref x), .val (.ref y), .val (.ref y)] [.int cd', .int cd])) := c10.trans (st11 _ (Steps.refl _))
    by_cases hcd : cd = cd'
    · subst hcd
      have c13 : Steps p.tables e below (s₁.setTop (entryFrame m #[.ref x, .ref y] 3)) (T11.setTop (mkF m 37 #[.val (.ref x), .val (.ref y), .val (.ref y)] [.ref x])) := c12.trans (by
        refine XS.icmpNo X11.here hexec rfl (hb hbytes d33) rfl (ii_ne_f rfl) ?_
        refine XS.aloadN X11.here hexec rfl (hb hbytes d36) rfl rfl ?_
        exact Steps.refl _)
      obtain ⟨T14, X14, q14, st14⟩ := X11.hget hexec hown (wk W (.fieldLink "java/lang/String" 9 "java/lang/String" "value" "[B")) (hx.mv X11.warmed.alike hh11).2.1 (g := (mkF m 37 #[.val (.ref x), .val (.ref y), .val (.ref y)] [.ref x])) rfl (rest := []) rfl (hb hbytes d37)
      have hh14 := q14.trans hh11
      have c15 : Steps p.tables e below (s₁.setTop (entryFrame m #[.ref x, .ref y] 3)) (T14.setTop (mkF m 41 #[.val (.ref x), .val (.ref y), .val (.ref y)] [.ref y, .ref t])) := (c13.trans (st14 _ (Steps.refl _))).trans (by
        refine XS.aloadN X14.here hexec rfl (hb hbytes d40) rfl rfl ?_
        exact Steps.refl _)
      obtain ⟨T16, X16, q16, st16⟩ := X14.hget hexec hown (wk W (.fieldLink "java/lang/String" 9 "java/lang/String" "value" "[B")) (hy.mv X14.warmed.alike hh14).2.1 (g := (mkF m 41 #[.val (.ref x), .val (.ref y), .val (.ref y)] [.ref y, .ref t])) rfl (rest := [.ref t]) rfl (hb hbytes d41)
      have hh16 := q16.trans hh14
      have c17 : Steps p.tables e below (s₁.setTop (entryFrame m #[.ref x, .ref y] 3)) (T16.setTop (mkF m 44 #[.val (.ref x), .val (.ref y), .val (.ref y)] [.ref t', .ref t])) := c15.trans (st16 _ (Steps.refl _))
      obtain ⟨v18, T18, X18, E18, g18⟩ := X16.callS hexec (LEq.law l t V t' V') hown (wks W (staticW "java/lang/String" 541 LEq.yN)) (wk W LEq.tab) (W := 0) (Nat.le_of_ble_eq_true rfl) (Nat.le_of_ble_eq_true rfl) (Nat.le_refl _) (Nat.le_refl _) (g := (mkF m 44 #[.val (.ref x), .val (.ref y), .val (.ref y)] [.ref t', .ref t])) rfl (by rw [hml]; rfl) c17 (argsL := [.ref t, .ref t']) (rest := []) rfl rfl (by show 2 * 0 + 0 ≤ _; decide) (hb hbytes d44) (⟨rfl, hx.2.2.2.1.mv X16.warmed.alike hh16, hx.2.2.2.2.1.ty, hy.2.2.2.1.mv X16.warmed.alike hh16, hy.2.2.2.2.1.ty⟩)
      obtain ⟨v, rfl, q18, hv⟩ := E18
      have iff := Cod.eqv hx.2.2.2.2.1 hy.2.2.2.2.1 hx.2.2.2.2.2 hy.2.2.2.2.2
      rcases hv with ⟨rfl, he⟩ | ⟨rfl, he⟩
      · have c19 : Steps p.tables e below (s₁.setTop (entryFrame m #[.ref x, .ref y] 3)) (T18.setTop (mkF m 55 #[.val (.ref x), .val (.ref y), .val (.ref y)] [.int 1])) := Steps.trans g18 (by
          refine XS.ifNo X18.here hexec rfl (hb hbytes d47) rfl (i0_eq_f (by decide)) ?_
          refine iconstV X18.here hexec rfl 1 (hb hbytes d50) (by decide) ?_
          refine XS.goto X18.here hexec rfl (pc0 := 51) rfl (hb hbytes d51) (by decide) rfl ?_
          exact Steps.refl _)
        exact ⟨T18, some (.int 1), _, _, _, X18, rfl, rfl, rfl, (fun h => by cases h), ⟨1, rfl, q18.trans hh16, Or.inl ⟨rfl, iff.mp he⟩⟩, fun fs hl => c19.trans (X18.ireturnOut hexec hret rfl (Or.inr (Or.inl rfl)) (hb hbytes d55) hl)⟩
      · have c19 : Steps p.tables e below (s₁.setTop (entryFrame m #[.ref x, .ref y] 3)) (T18.setTop (mkF m 55 #[.val (.ref x), .val (.ref y), .val (.ref y)] [.int 0])) := Steps.trans g18 (by
          refine XS.ifYes X18.here hexec rfl (pc0 := 47) rfl (hb hbytes d47) rfl (i0_eq_t rfl) (by decide) rfl ?_
          refine iconstV X18.here hexec rfl 0 (hb hbytes d54) (by decide) ?_
          exact Steps.refl _)
        exact ⟨T18, some (.int 0), _, _, _, X18, rfl, rfl, rfl, (fun h => by cases h), ⟨0, rfl, q18.trans hh16, Or.inr ⟨rfl, fun q => he (iff.mpr q)⟩⟩, fun fs hl => c19.trans (X18.ireturnOut hexec hret rfl (Or.inr (Or.inl rfl)) (hb hbytes d55) hl)⟩
    · have c13 : Steps p.tables e below (s₁.setTop (entryFrame m #[.ref x, .ref y] 3)) (T11.setTop (mkF m 55 #[.val (.ref x), .val (.ref y), .val (.ref y)] [.int 0])) := c12.trans (by
        refine XS.icmpYes X11.here hexec rfl (pc0 := 33) rfl (hb hbytes d33) rfl (ii_ne_t hcd) (by decide) rfl ?_
        refine iconstV X11.here hexec rfl 0 (hb hbytes d54) (by decide) ?_
        exact Steps.refl _)
      exact ⟨T11, some (.int 0), _, _, _, X11, rfl, rfl, rfl, (fun h => by cases h), ⟨0, rfl, hh11, Or.inr ⟨rfl, Cod.dif hx.2.2.2.2.1 hy.2.2.2.2.1 hcd⟩⟩, fun fs hl => c13.trans (X11.ireturnOut hexec hret rfl (Or.inr (Or.inl rfl)) (hb hbytes d55) hl)⟩
theorem pays {l : Launch} {R : Room} {p : Program} {e : Env} {below : List Frame} {s : State} {sargs : Array Value} {len W : Nat} (x t : Addr) (V : Cell) (cd : Int32) (n : Nat) (f : Nat → Int32) (y t' : Addr) (V' : Cell) (cd' : Int32) (k : Nat) (g : Nat → Int32) (z : Int32) (htab : tab.before sargs s = true) (hfr : 2 ≤ R.frames) (hlo : W + 28 ≤ R.locals) :
    Back l R p e below s sargs yN len W (fun A₁ a₁ => A₁.cells + 0 ≤ R.cells ∧ A₁.slots + 0 ≤ R.slots ∧ P x t V cd n f y t' V' cd' k g z a₁ A₁.U) (fun A₁ _ v₁ B₁ => Says01 (SameT n f k g) v₁ A₁.U B₁.U ∧ B₁.locs = A₁.locs ++ [] ∧ B₁.cells = A₁.cells + 0 ∧ B₁.slots = A₁.slots + 0) :=
  (law l x t V cd n f y t' V' cd' k g z).pays htab hfr (by omega)
end SEq
end StrChars
namespace StrChars.Road
open Jvm Sem ClassFile Op Lib Jvm.Stand Jvm.Free Jvm.Free.XT
open Jvm.Lib.Cold (StaticIs)
/-- the words of String.equals(Object) -/
abbrev wordsEq : List Jvm.Cond := [.code SEq.yN SEq.yB 3 (some .boolean), .initialized ST, .classLink ST 10 ST, .fieldLink ST 38 ST "COMPACT_STRINGS" "Z", .fieldLink ST 15 ST "coder" "B", .fieldLink ST 9 ST "value" "[B", .methodLink ST 541 LEq.yN, .static LEq.yN, .code LEq.yN LEq.yB 3 (some .boolean), .initialized "java/lang/StringLatin1"]
theorem tabEq_of {a : Array Value} {s : State} (h : ∀ w ∈ wordsEq, w.before a s = true) : SEq.tab.before a s = true := by
  have hl : LEq.tab.before a s = true := unparts (wk h (.code LEq.yN LEq.yB 3 (some .boolean))) (wks h (.initialized LEq.yN.cls :: LEq.site))
  have q := consq hl h
  exact unparts (wk q (.code SEq.yN SEq.yB 3 (some .boolean))) (wks q (.initialized SEq.yN.cls :: SEq.site))
theorem movedEq {Z s : State} {a0 args : Array Value} (hZ : Z.Warmed39 s.vm) (hw : ∀ d ∈ wordsEq, d.before a0 Z = true) : ∀ d ∈ wordsEq, d.before args s = true := fun d hd => by
  have t : ∀ d ∈ wordsEq, (d.onTables && d.keepsFace) = true := by decide +kernel
  exact RoadKit.mv hZ (hw d hd) (t d hd)
/-- the road's facts of a String, as the laws ask it -/
theorem txt_of {Z U : State} {a0 : Array Value} {kI : Nat} (wi : (Jvm.Cond.instantiable ST kI).before a0 Z = true) (al : Z.vm.Alike U.vm) {x t : Addr} {kb : ClassId} {cs : List Int32} {cd N2 : Int32} {vs : List Value} (E : RoadKit.Exa Z U.heap x ST) (V : RoadKit.Fld Z U.heap x ST "value" "[B" (.ref t)) (C : RoadKit.Fld Z U.heap x ST "coder" "B" (.int cd)) (K : RoadKit.Arv Z U.heap t kb .byte N2 vs (.int 0)) (hc : CodA cs cd N2 vs) (hb : ∀ c ∈ cs, ¬ c < 0 ∧ ¬ (65535 : Int32) < c) (l2 : cs.length ≤ 4000) :
    ∃ A, Txt x t A cd cs.length (fun j => cs.getD j 0) U := by
  obtain ⟨A, K1, K2, K3, K4, K5, K6⟩ := K
  have hcod := hc.cod (by omega) K3 K5
  obtain ⟨D, fV, fC, hB, F1, F2, g1, g2, -, -⟩ := strObj wi al E V C
  exact ⟨A, ⟨_, hB.2.2.1, D, hB.1, rfl, by cases q : D.vm <;> first | rfl | exact absurd q (hB.2.1.2 _)⟩, Has.of hB F1 g1, Has.of hB F2 g2, ⟨K1.1, State.isArrayOf_alike al K1.2.1, K1.2.2, by rcases hcod with ⟨-, q, -⟩ | ⟨-, q, -⟩ <;> omega⟩, hcod, fun j hj => by
    have e : cs.getD j 0 = cs[j] := by simp [List.getD_eq_getElem?_getD, hj]
    show ¬ cs.getD j 0 < 0 ∧ ¬ 65535 < cs.getD j 0
    rw [e]; exact hb _ (List.getElem_mem _)⟩
theorem same_list (cs ds : List Int32) : SameT cs.length (fun j => cs.getD j 0) ds.length (fun j => ds.getD j 0) ↔ cs = ds := by
  constructor
  · rintro ⟨e, q⟩
    refine List.ext_getElem e fun j h1 h2 => ?_
    have := q j h1
    simpa [List.getD_eq_getElem?_getD, h1, h2] using this
  · rintro rfl
    exact ⟨rfl, fun _ _ => rfl⟩
/-- **equals(Object) OF TWO SUCH STRINGS**: 1 just where the chars are the same -/
theorem eqW {p : Program} {l : Launch} {e : Env} {R : Room} {s : State} {args : Array Value} {below : List Frame} {len W : Nat} {Z : State} {a0 : Array Value} {h : Heap} (hZ : Z.Warmed39 s.vm) (hw : ∀ d ∈ wordsEq, d.before a0 Z = true) {kI : Nat} (wi : (Jvm.Cond.instantiable ST kI).before a0 Z = true)
    {x t : Addr} {kb : ClassId} {cs : List Int32} {cd N2 : Int32} {vs : List Value} (E : RoadKit.Exa Z h x ST) (V : RoadKit.Fld Z h x ST "value" "[B" (.ref t)) (C : RoadKit.Fld Z h x ST "coder" "B" (.int cd)) (K : RoadKit.Arv Z h t kb .byte N2 vs (.int 0)) (hc : CodA cs cd N2 vs) (hb : ∀ c ∈ cs, ¬ c < 0 ∧ ¬ (65535 : Int32) < c) (l2 : cs.length ≤ 4000)
    {y t' : Addr} {kb' : ClassId} {ds : List Int32} {cd' N2' : Int32} {vs' : List Value} (E' : RoadKit.Exa Z h y ST) (V' : RoadKit.Fld Z h y ST "value" "[B" (.ref t')) (C' : RoadKit.Fld Z h y ST "coder" "B" (.int cd')) (K' : RoadKit.Arv Z h t' kb' .byte N2' vs' (.int 0)) (hc' : CodA ds cd' N2' vs') (hb' : ∀ c ∈ ds, ¬ c < 0 ∧ ¬ (65535 : Int32) < c) (l2' : ds.length ≤ 4000)
    {z : Int32} (S : RoadKit.Sta Z h ST "COMPACT_STRINGS" "Z" (.int z)) (hz : ¬ z = 0) (hfr : 2 ≤ R.frames) (hlo : W + 28 ≤ R.locals) :
    Back l R p e below s args (⟨"java/lang/String", "equals", "(Ljava/lang/Object;)Z"⟩ : MethodName) len W (fun P a => a = #[.ref x, .ref y] ∧ P.U.heap = h ∧ P.cells + 0 ≤ R.cells ∧ P.slots + 0 ≤ R.slots)
      (fun P _ v B => ∃ L, (((v = some (.int 1) ∧ cs = ds) ∨ (v = some (.int 0) ∧ ¬ cs = ds)) ∧ L = [] ∧ B.U.heap = h) ∧ B.locs = P.locs ++ L ∧ B.cells = P.cells + 0 ∧ B.slots = P.slots + 0) := by
  intro m meth c P g ig mk a X hg hsize hdg hW hn hp'
  obtain ⟨rfl, rfl, r1, r2⟩ := hp'
  have al : Z.vm.Alike P.U.vm := hZ.alike.trans X.warmed.alike
  obtain ⟨A, hx⟩ := txt_of wi al E V C K hc hb l2
  obtain ⟨A', hy⟩ := txt_of wi al E' V' C' K' hc' hb' l2'
  obtain ⟨v, B, X', ⟨⟨w, hv, hh, hq⟩, hl, hk, hs⟩, st⟩ := SEq.pays x t A cd cs.length (fun j => cs.getD j 0) y t' A' cd' ds.length (fun j => ds.getD j 0) z (tabEq_of (movedEq hZ hw)) hfr hlo m meth c P g ig mk _ X hg hsize hdg hW hn ⟨r1, r2, rfl, hx, hy, sta_is al S, hz⟩
  refine ⟨v, B, X', ⟨[], ⟨?_, rfl, hh⟩, hl, hk, hs⟩, st⟩
  rcases hq with ⟨rfl, q⟩ | ⟨rfl, q⟩
  · exact Or.inl ⟨hv, (same_list cs ds).mp q⟩
  · exact Or.inr ⟨hv, fun e => q ((same_list cs ds).mpr e)⟩
end StrChars.Road
namespace StrChars.Road
open Jvm Sem ClassFile Op Lib Jvm.Stand Jvm.Free Jvm.Free.XT
open Jvm.Lib.Cold (StaticIs)
/-- what backV says of its String, as the contracts of this text ask it: cs's low bytes, coder 0 -/
theorem codOf {cs : List Int32} {n : Nat} (hn : cs.length = n) (hb : ∀ c ∈ cs, ¬ 255 < c) : CodA cs 0 (Int32.ofNat n) ((cs.map lo8).map Value.int) := Or.inl ⟨rfl, by rw [hn], by simp [List.map_map, Function.comp_def], hb⟩
end StrChars.Road
end Jvm.Pilot.@@N@@
namespace Jvm.OwnKit
open Sem ClassFile Op Lib Bundle Jvm.Stand Jvm.Free Jvm.LawKit Jvm.RoadKit
section K
variable {p : Program} {l : Launch} {e : Env} {R : Room} {s : State} {m : MethodId} {args : Array Value} {below : List Frame} {meth : Method} {c : Code} {Z : State} {a0 : Array Value} {EL : List (String × Nat)} {n0 : Nat} {own : String} {vm0 vm1 : Vm} {T T' : State} {h h' : Heap} {L L' : List Loc} {k n k' n' : Nat} {ss : List Addr} {P : Outcome → State → Prop} {U V : State} {pc : Nat} {Ls : Array Slot} {rest : List Value}
/-- what is left of a walk that stands at U: it ends, and P holds of its end -/
def Go (p : Program) (e : Env) (below : List Frame) (P : Outcome → State → Prop) (U : State) : Prop := ∃ s₂ o, Steps p.tables e below U s₂ ∧ s₂.status = .running ∧ Ended s₂ below o ∧ P o s₂
theorem Go.st (st : ∀ target, Steps p.tables e below V target → Steps p.tables e below U target) (G : Go p e below P V) : Go p e below P U := by
  obtain ⟨s₂, o, h1, r⟩ := G
  exact ⟨s₂, o, st _ h1, r⟩
theorem Go.tr (st : Steps p.tables e below U V) (G : Go p e below P V) : Go p e below P U := by
  obtain ⟨s₂, o, h1, r⟩ := G
  exact ⟨s₂, o, st.trans h1, r⟩
/-- none of these cells is a booked literal's -/
def Saf (Z : State) (EL : List (String × Nat)) (vm : Vm) (h : Heap) (ss : List Addr) : Prop := ∀ x ∈ ss, Safe Z EL vm h x ∧ x < h.size
theorem Saf.chr (S : Saf Z EL vm0 h ss) (A : CHr Z EL vm0 h vm1 h') : Saf Z EL vm1 h' ss := fun x hx => ⟨A.safe (S x hx).2 (S x hx).1, Nat.lt_of_lt_of_le (S x hx).2 A.2.1⟩
/-- where a walk stands that may load literals: the tables vm0, the state T, its heap h, what it has written and made -/
def Wk (p : Program) (l : Launch) (e : Env) (R : Room) (s : State) (m : MethodId) (args : Array Value) (below : List Frame) (meth : Method) (c : Code) (Z : State) (a0 : Array Value) (EL : List (String × Nat)) (n0 : Nat) (own : String) (vm0 : Vm) (T : State) (h : Heap) (L : List Loc) (k n : Nat) (ss : List Addr) : Prop :=
  Stand p l e R (s.setVm vm0) m args below meth c T L k n ∧ T.heap = h ∧ (∃ j, s.Since vm0 j ∧ j ≤ h.size) ∧ Z.Warmed39 vm0 ∧ vm0.findClass own = some m.cls ∧ CHr Z EL s.vm s.heap vm0 h ∧ Fr n0 L ∧ Old Z n0 h ∧ Saf Z EL vm0 h ss ∧ p.tables.exec = Jvm.exec ∧ EW Z a0 EL ∧ meth.locks = false
theorem Wk.X (W : Wk p l e R s m args below meth c Z a0 EL n0 own vm0 T h L k n ss) : Stand p l e R (s.setVm vm0) m args below meth c T L k n := W.1
theorem Wk.hp (W : Wk p l e R s m args below meth c Z a0 EL n0 own vm0 T h L k n ss) : T.heap = h := W.2.1
theorem Wk.sc (W : Wk p l e R s m args below meth c Z a0 EL n0 own vm0 T h L k n ss) : ∃ j, s.Since vm0 j ∧ j ≤ h.size := W.2.2.1
theorem Wk.hZ (W : Wk p l e R s m args below meth c Z a0 EL n0 own vm0 T h L k n ss) : Z.Warmed39 (s.setVm vm0).vm := W.2.2.2.1
theorem Wk.ho (W : Wk p l e R s m args below meth c Z a0 EL n0 own vm0 T h L k n ss) : (s.setVm vm0).vm.findClass own = some m.cls := W.2.2.2.2.1
theorem Wk.cr (W : Wk p l e R s m args below meth c Z a0 EL n0 own vm0 T h L k n ss) : CHr Z EL s.vm s.heap vm0 h := W.2.2.2.2.2.1
theorem Wk.cv (W : Wk p l e R s m args below meth c Z a0 EL n0 own vm0 T h L k n ss) : CHv Z EL vm0 h := W.cr.1
theorem Wk.fr (W : Wk p l e R s m args below meth c Z a0 EL n0 own vm0 T h L k n ss) : Fr n0 L := W.2.2.2.2.2.2.1
theorem Wk.old (W : Wk p l e R s m args below meth c Z a0 EL n0 own vm0 T h L k n ss) : Old Z n0 h := W.2.2.2.2.2.2.2.1
theorem Wk.sf (W : Wk p l e R s m args below meth c Z a0 EL n0 own vm0 T h L k n ss) : Saf Z EL vm0 h ss := W.2.2.2.2.2.2.2.2.1
theorem Wk.ex (W : Wk p l e R s m args below meth c Z a0 EL n0 own vm0 T h L k n ss) : p.tables.exec = Jvm.exec := W.2.2.2.2.2.2.2.2.2.1
theorem Wk.ew (W : Wk p l e R s m args below meth c Z a0 EL n0 own vm0 T h L k n ss) : EW Z a0 EL := W.2.2.2.2.2.2.2.2.2.2.1
theorem Wk.nl (W : Wk p l e R s m args below meth c Z a0 EL n0 own vm0 T h L k n ss) : meth.locks = false := W.2.2.2.2.2.2.2.2.2.2.2
theorem Wk.here (W : Wk p l e R s m args below meth c Z a0 EL n0 own vm0 T h L k n ss) : At T m c below := W.1.here
theorem Wk.n0le (W : Wk p l e R s m args below meth c Z a0 EL n0 own vm0 T h L k n ss) : n0 ≤ h.size := by have := W.old.2.1; rw [W.old.1] at this; exact this
/-- the case's start's heap stands in the heap at hand -/
theorem Wk.e0 (W : Wk p l e R s m args below meth c Z a0 EL n0 own vm0 T h L k n ss) : Ext Z.heap h := W.old.2
theorem Wk.same (W : Wk p l e R s m args below meth c Z a0 EL n0 own vm0 T h L k n ss) (X : Stand p l e R (s.setVm vm0) m args below meth c T' L k' n') (q : T'.heap = h) : Wk p l e R s m args below meth c Z a0 EL n0 own vm0 T' h L k' n' ss :=
  ⟨X, q, W.2.2⟩
theorem Wk.step (W : Wk p l e R s m args below meth c Z a0 EL n0 own vm0 T h L k n ss) (X : Stand p l e R (s.setVm vm1) m args below meth c T' L' k' n') (q : T'.heap = h') (S : ∃ j, s.Since vm1 j ∧ j ≤ h'.size) (hZ : Z.Warmed39 vm1) (ho : vm1.findClass own = some m.cls) (A : CHr Z EL vm0 h vm1 h') (F : Fr n0 L') (O : Old Z n0 h') : Wk p l e R s m args below meth c Z a0 EL n0 own vm1 T' h' L' k' n' ss :=
  ⟨X, q, S, hZ, ho, W.cr.trans A, F, O, W.sf.chr A, W.ex, W.ew, W.nl⟩
theorem Wk.stepE (W : Wk p l e R s m args below meth c Z a0 EL n0 own vm0 T h L k n ss) (X : Stand p l e R (s.setVm vm0) m args below meth c T' L k' n') (q : T'.heap = h') (E : Ext h h') : Wk p l e R s m args below meth c Z a0 EL n0 own vm0 T' h' L k' n' ss := by
  obtain ⟨j, S, hj⟩ := W.sc
  exact W.step X q ⟨j, S, Nat.le_trans hj E.1⟩ W.hZ W.ho (CHr.ext E W.cv) W.fr (W.old.ext E)
theorem Wk.stepK (W : Wk p l e R s m args below meth c Z a0 EL n0 own vm0 T h L k n ss) (X : Stand p l e R (s.setVm vm0) m args below meth c T' L' k' n') (q : T'.heap = h') {ws : List Addr} (K : Keep h h' ws) (hs : ∀ x ∈ ws, x ∈ ss) (hn : ∀ x ∈ ws, n0 ≤ x) (F : Fr n0 L') : Wk p l e R s m args below meth c Z a0 EL n0 own vm0 T' h' L' k' n' ss := by
  obtain ⟨j, S, hj⟩ := W.sc
  exact W.step X q ⟨j, S, Nat.le_trans hj K.1⟩ W.hZ W.ho (CHr.keep K (fun x hx => (W.sf x (hs x hx)).1) W.cv) F (W.old.keep K hn)
theorem Wk.stepW (W : Wk p l e R s m args below meth c Z a0 EL n0 own vm0 T h L k n ss) {a : Addr} {sl : Nat} {v : Value} (X : Stand p l e R (s.setVm vm0) m args below meth c T' (L ++ [⟨a, sl⟩]) k' n') (q : T'.heap = h') (Wr : Wr h h' a sl v) (hs : a ∈ ss) (hn : n0 ≤ a) : Wk p l e R s m args below meth c Z a0 EL n0 own vm0 T' h' (L ++ [⟨a, sl⟩]) k' n' ss :=
  W.stepK X q (Keep.of_wr Wr) (allS hs all0) (allS hn all0) (Fr.snoc X W.fr hn)
theorem Wk.cons (W : Wk p l e R s m args below meth c Z a0 EL n0 own vm0 T h L k n ss) {x : Addr} (S : Safe Z EL vm0 h x) (hx : x < h.size) : Wk p l e R s m args below meth c Z a0 EL n0 own vm0 T h L k n (x :: ss) :=
  ⟨W.X, W.hp, W.sc, W.hZ, W.ho, W.cr, W.fr, W.old, allS (P := fun x => Safe Z EL vm0 h x ∧ x < h.size) ⟨S, hx⟩ W.sf, W.ex, W.ew, W.nl⟩
theorem Wk.more (W : Wk p l e R s m args below meth c Z a0 EL n0 own vm0 T h L k n ss) (hk : k ≤ k') (hn : n ≤ n') : Wk p l e R s m args below meth c Z a0 EL n0 own vm0 T h L k' n' ss := ⟨W.1.more hk hn, W.2⟩
theorem Wk.sub {ss' : List Addr} (W : Wk p l e R s m args below meth c Z a0 EL n0 own vm0 T h L k n ss) (q : ∀ x ∈ ss', x ∈ ss) : Wk p l e R s m args below meth c Z a0 EL n0 own vm0 T h L k n ss' :=
  ⟨W.X, W.hp, W.sc, W.hZ, W.ho, W.cr, W.fr, W.old, fun x hx => W.sf x (q x hx), W.ex, W.ew, W.nl⟩
/-- where roads meet -/
theorem Wk.meet (W : Wk p l e R s m args below meth c Z a0 EL n0 own vm0 T h L k n ss) (hk : k ≤ k') (hn : n ≤ n') : Wk p l e R s m args below meth c Z a0 EL n0 own vm0 T h L k' n' [] := (W.more hk hn).sub all0
theorem Wk.consA (W : Wk p l e R s m args below meth c Z a0 EL n0 own vm0 T h L k n ss) {a : Addr} {kA : ClassId} {ty : FieldType} {z : Int32} {vs : List Value} {dv : Value} (F : Arv Z h a kA ty z vs dv) (ht : ty ≠ .byte) : Wk p l e R s m args below meth c Z a0 EL n0 own vm0 T h L k n (a :: ss) := by
  obtain ⟨cl, A, -⟩ := F
  exact W.cons (Safe.arr W.hZ.alike A ht) A.lt
theorem Wk.consE (W : Wk p l e R s m args below meth c Z a0 EL n0 own vm0 T h L k n ss) {a : Addr} {C : String} (E : Exa Z h a C) (h1 : C ≠ "java/lang/String") (h2 : C ≠ "[B") : Wk p l e R s m args below meth c Z a0 EL n0 own vm0 T h L k n (a :: ss) := W.cons (Safe.exa W.hZ.alike E h1 h2) E.lt
/-! one step each -/
theorem Wk.getF (W : Wk p l e R s m args below meth c Z a0 EL n0 own vm0 T h L k n ss) {R0 O nm d : String} {index : Nat} (w : (Cond.fieldLink own index R0 nm d).before a0 Z = true) (via : Via Z R0 O nm d) {a : Addr} {v : Value} (F : Fld Z h a O nm d v) (hd : decode c.code pc = .ok (.getfield index, 3))
    (K : ∀ T', Wk p l e R s m args below meth c Z a0 EL n0 own vm0 T' h L k n ss → Go p e below P (T'.setTop (mkF m (pc + 3) Ls (v :: rest)))) : Go p e below P (T.setTop (mkF m pc Ls (.ref a :: rest))) := by
  obtain ⟨T', X', e', st⟩ := RoadKit.getF W.X W.ex W.hZ W.ho (host := "") (Or.inl w) via W.hp F (g := mkF m pc Ls (.ref a :: rest)) rfl rfl hd
  exact Go.st st (K T' (W.same X' e'))
theorem Wk.getFN (W : Wk p l e R s m args below meth c Z a0 EL n0 own vm0 T h L k n ss) {R0 O nm d host : String} {index : Nat} (w : (Cond.fieldLinkNest own index R0 nm d host).before a0 Z = true) (via : Via Z R0 O nm d) {a : Addr} {v : Value} (F : Fld Z h a O nm d v) (hd : decode c.code pc = .ok (.getfield index, 3))
    (K : ∀ T', Wk p l e R s m args below meth c Z a0 EL n0 own vm0 T' h L k n ss → Go p e below P (T'.setTop (mkF m (pc + 3) Ls (v :: rest)))) : Go p e below P (T.setTop (mkF m pc Ls (.ref a :: rest))) := by
  obtain ⟨T', X', e', st⟩ := RoadKit.getF W.X W.ex W.hZ W.ho (Or.inr w) via W.hp F (g := mkF m pc Ls (.ref a :: rest)) rfl rfl hd
  exact Go.st st (K T' (W.same X' e'))
theorem Wk.getS (W : Wk p l e R s m args below meth c Z a0 EL n0 own vm0 T h L k n ss) {R0 O nm d : String} {index : Nat} (w : (Cond.fieldLink own index R0 nm d).before a0 Z = true) (via : Via Z R0 O nm d) {v : Value} (F : Sta Z h O nm d v) (hd : decode c.code pc = .ok (.getstatic index, 3))
    (K : ∀ T', Wk p l e R s m args below meth c Z a0 EL n0 own vm0 T' h L k n ss → Go p e below P (T'.setTop (mkF m (pc + 3) Ls (v :: rest)))) : Go p e below P (T.setTop (mkF m pc Ls rest)) := by
  obtain ⟨T', X', e', st⟩ := RoadKit.getS2 W.X W.ex W.hZ W.ho (host := "") (Or.inl w) via W.hp F (g := mkF m pc Ls rest) rfl hd
  exact Go.st st (K T' (W.same X' e'))
theorem Wk.putF (W : Wk p l e R s m args below meth c Z a0 EL n0 own vm0 T h L k n ss) {R0 O nm d C : String} {index kk : Nat} {ty : FieldType} (w : (Cond.fieldLink own index R0 nm d).before a0 Z = true) (via : Via Z R0 O nm d) {a : Addr} {v old : Value} (F : Fld Z h a O nm d old) (E : Exa Z h a C) (La : (Cond.lays C O nm d).before a0 Z = true ∨ ((Cond.laysFinal C O nm d).before a0 Z = true ∧ own = O ∧ meth.name = "<init>")) (wi : (Cond.instantiable C kk).before a0 Z = true)
    (hty : parseFieldDescriptor d = some ty) (hn : narrow ty v = v) (hf : fits ty v = true) (hs : a ∈ ss) (ha : n0 ≤ a) (hd : decode c.code pc = .ok (.putfield index, 3))
    (K : ∀ T' h' L', Wk p l e R s m args below meth c Z a0 EL n0 own vm0 T' h' L' k n ss → Wr h h' a (RoadKit.slotOf Z O nm d) v → Go p e below P (T'.setTop (mkF m (pc + 3) Ls rest))) : Go p e below P (T.setTop (mkF m pc Ls (v :: .ref a :: rest))) := by
  obtain ⟨T', h', X', e', w', st⟩ := RoadKit.putF W.X W.ex W.hZ W.ho (host := "") (Or.inl w) via W.hp F E La wi hty hn hf (g := mkF m pc Ls (v :: .ref a :: rest)) rfl rfl hd
  exact Go.st st (K T' h' _ (W.stepW X' e' w' hs ha) w')
theorem Wk.putFN (W : Wk p l e R s m args below meth c Z a0 EL n0 own vm0 T h L k n ss) {R0 O nm d C : String} {index kk : Nat} {ty : FieldType} (w : (Cond.fieldLink own index R0 nm d).before a0 Z = true) (via : Via Z R0 O nm d) {a : Addr} {v v' old : Value} (F : Fld Z h a O nm d old) (E : Exa Z h a C) (La : (Cond.lays C O nm d).before a0 Z = true ∨ ((Cond.laysFinal C O nm d).before a0 Z = true ∧ own = O ∧ meth.name = "<init>")) (wi : (Cond.instantiable C kk).before a0 Z = true)
    (hty : parseFieldDescriptor d = some ty) (hn : narrow ty v = v') (hf : fits ty v' = true) (hs : a ∈ ss) (ha : n0 ≤ a) (hd : decode c.code pc = .ok (.putfield index, 3))
    (K : ∀ T' h' L', Wk p l e R s m args below meth c Z a0 EL n0 own vm0 T' h' L' k n ss → Wr h h' a (RoadKit.slotOf Z O nm d) v' → Go p e below P (T'.setTop (mkF m (pc + 3) Ls rest))) : Go p e below P (T.setTop (mkF m pc Ls (v :: .ref a :: rest))) := by
  obtain ⟨T', h', X', e', w', st⟩ := RoadKit.putFN W.X W.ex W.hZ W.ho w via W.hp F E La wi hty hn hf (g := mkF m pc Ls (v :: .ref a :: rest)) rfl rfl hd
  exact Go.st st (K T' h' _ (W.stepW X' e' w' hs ha) w')
theorem Wk.newO (W : Wk p l e R s m args below meth c Z a0 EL n0 own vm0 T h L k n ss) {C : String} {index j : Nat} (w : (Cond.classLink own index C).before a0 Z = true) (wi : (Cond.instantiable C j).before a0 Z = true) (wz : (Cond.initialized C).before a0 Z = true) (hd : decode c.code pc = .ok (.new index, 3)) (hk : k + 1 = k') (hn : n + j = n') (hc : k' ≤ R.cells) (hl : n' ≤ R.slots)
    (K : ∀ T' h' b, b = h.size → n0 ≤ b → Wk p l e R s m args below meth c Z a0 EL n0 own vm0 T' h' L k' n' (b :: ss) → Ext h h' → Exa Z h' b C → (∀ {O nm d : String} {ty : FieldType}, Laid Z a0 C O nm d → parseFieldDescriptor d = some ty → Fld Z h' b O nm d (defaultValue ty)) → Go p e below P (T'.setTop (mkF m (pc + 3) Ls (.ref b :: rest)))) : Go p e below P (T.setTop (mkF m pc Ls rest)) := by
  subst hk hn
  obtain ⟨T', h', X', e', E, A, D, -, st⟩ := RoadKit.newO W.X W.ex W.hZ W.ho w wi wz W.hp (g := mkF m pc Ls rest) rfl hd hc hl
  have W' := W.stepE X' e' E
  exact Go.st st (K T' h' _ rfl W.n0le (W'.cons ((Safe.new (Nat.le_refl _)).ext E W.cv) A.lt) E A D)
theorem Wk.newP (W : Wk p l e R s m args below meth c Z a0 EL n0 own vm0 T h L k n ss) {aty : ArrayType} {ty : FieldType} {dv : Value} (hty : newarray.typeOf aty = ty) (hdv : defaultValue ty = dv) (w : (Cond.arrayClass ty).before a0 Z = true) (hd : decode c.code pc = .ok (.newarray aty, 2)) {z : Int32} (hz : ¬ z < 0) {cap : Nat} (hcap : z.toNatClampNeg ≤ cap) (hb : cap * 8 ≤ 536870912) (hk : k + 1 = k') (hn : n + cap = n') (hc : k' ≤ R.cells) (hl : n' ≤ R.slots)
    (K : ∀ T' h' b kA, b = h.size → n0 ≤ b → Wk p l e R s m args below meth c Z a0 EL n0 own vm0 T' h' L k' n' (b :: ss) → Ext h h' → Arv Z h' b kA ty z (List.replicate cap dv) dv → Go p e below P (T'.setTop (mkF m (pc + 2) Ls (.ref b :: rest)))) : Go p e below P (T.setTop (mkF m pc Ls (.int z :: rest))) := by
  subst hk hn hty hdv
  obtain ⟨T', h', cA, X', e', E, A, st⟩ := RoadKit.newP W.X W.ex W.hZ w W.hp (g := mkF m pc Ls (.int z :: rest)) rfl hd rfl hz hcap hb hc hl
  have W' := W.stepE X' e' E
  exact Go.st st (K T' h' _ cA rfl W.n0le (W'.cons ((Safe.new (Nat.le_refl _)).ext E W.cv) A.lt) E ((Arv.new A hz).pad (pad_rep [] _ cap)))
theorem Wk.alen (W : Wk p l e R s m args below meth c Z a0 EL n0 own vm0 T h L k n ss) {a : Addr} {kA : ClassId} {ty : FieldType} {z : Int32} {vs : List Value} {dv : Value} (F : Arv Z h a kA ty z vs dv) (hd : decode c.code pc = .ok (.arraylength, 1)) (G : Go p e below P (T.setTop (mkF m (pc + 1) Ls (.int z :: rest)))) : Go p e below P (T.setTop (mkF m pc Ls (.ref a :: rest))) := by
  obtain ⟨cl, A, q1, S, N, H, Gs⟩ := F
  rw [← len_of S N] at G
  exact Go.st (fun t => W.X.arraylength W.ex (by rw [W.hp]; exact A.1) (State.isArrayOf_alike W.hZ.alike A.2.1) (g := mkF m pc Ls (.ref a :: rest)) rfl rfl hd t) G
theorem inb {cl : Cell} {z j : Int32} (S : cl.slots.size = z.toNatClampNeg) (q : ¬ j < 0 ∧ j < z) : ¬ (j < 0 ∨ cl.slots.size ≤ j.toNatClampNeg) := inb_of S q
theorem Wk.ldC (W : Wk p l e R s m args below meth c Z a0 EL n0 own vm0 T h L k n ss) {a : Addr} {kA : ClassId} {z j : Int32} {vs : List Value} {dv v : Value} (F : Arv Z h a kA .char z vs dv) (q : ¬ j < 0 ∧ j < z) (hv : vs.getD j.toNatClampNeg dv = v) (hd : decode c.code pc = .ok (.caload, 1)) (G : Go p e below P (T.setTop (mkF m (pc + 1) Ls (v :: rest)))) : Go p e below P (T.setTop (mkF m pc Ls (.int j :: .ref a :: rest))) := by
  obtain ⟨cl, A, q1, S, N, H, Gs⟩ := F
  exact Go.st (fun t => W.X.caload W.ex (by rw [W.hp]; exact A.1) (State.isArrayOf_alike W.hZ.alike A.2.1) A.2.2 (inb S q) (H.at (inb S q) hv) (g := mkF m pc Ls (.int j :: .ref a :: rest)) rfl rfl hd t) G
theorem Wk.ldB (W : Wk p l e R s m args below meth c Z a0 EL n0 own vm0 T h L k n ss) {a : Addr} {kA : ClassId} {z j : Int32} {vs : List Value} {dv v : Value} (F : Arv Z h a kA .byte z vs dv) (q : ¬ j < 0 ∧ j < z) (hv : vs.getD j.toNatClampNeg dv = v) (hd : decode c.code pc = .ok (.baload, 1)) (G : Go p e below P (T.setTop (mkF m (pc + 1) Ls (v :: rest)))) : Go p e below P (T.setTop (mkF m pc Ls (.int j :: .ref a :: rest))) := by
  obtain ⟨cl, A, q1, S, N, H, Gs⟩ := F
  exact Go.st (fun t => W.X.baloadBytes W.ex (by rw [W.hp]; exact A.1) (State.isArrayOf_alike W.hZ.alike A.2.1) A.2.2 (inb S q) (H.at (inb S q) hv) (g := mkF m pc Ls (.int j :: .ref a :: rest)) rfl rfl hd t) G
theorem Wk.ldA (W : Wk p l e R s m args below meth c Z a0 EL n0 own vm0 T h L k n ss) {a : Addr} {kA : ClassId} {ty : FieldType} {z j : Int32} {vs : List Value} {dv v : Value} (F : Arv Z h a kA ty z vs dv) (hty : ty.isReference = true) (q : ¬ j < 0 ∧ j < z) (hv : vs.getD j.toNatClampNeg dv = v) (hd : decode c.code pc = .ok (.aaload, 1)) (G : Go p e below P (T.setTop (mkF m (pc + 1) Ls (v :: rest)))) : Go p e below P (T.setTop (mkF m pc Ls (.int j :: .ref a :: rest))) := by
  obtain ⟨cl, A, q1, S, N, H, Gs⟩ := F
  exact Go.st (fun t => W.X.aaload W.ex (by rw [W.hp]; exact A.1) (State.isArrayOf_alike W.hZ.alike A.2.1) hty A.2.2 (inb S q) (H.at (inb S q) hv) (g := mkF m pc Ls (.int j :: .ref a :: rest)) rfl rfl hd t) G
theorem Wk.stC (W : Wk p l e R s m args below meth c Z a0 EL n0 own vm0 T h L k n ss) {a : Addr} {kA : ClassId} {z j x : Int32} {vs : List Value} {dv : Value} (F : Arv Z h a kA .char z vs dv) (q : ¬ j < 0 ∧ j < z) (i : Nat) (hi : j.toNatClampNeg = i) (hl : i < vs.length) (hs : a ∈ ss) (ha : n0 ≤ a) (hd : decode c.code pc = .ok (.castore, 1))
    (K : ∀ T' h' L', Wk p l e R s m args below meth c Z a0 EL n0 own vm0 T' h' L' k n ss → Wr h h' a j.toNatClampNeg (.int (nar .char x)) → Arv Z h' a kA .char z (vs.set i (.int (nar .char x))) dv → Go p e below P (T'.setTop (mkF m (pc + 1) Ls rest))) : Go p e below P (T.setTop (mkF m pc Ls (.int x :: .int j :: .ref a :: rest))) := by
  obtain ⟨cl, A, q1, S, N, H, Gs⟩ := F
  obtain ⟨T', h', X', e', w', st⟩ := RoadKit.stC W.X W.ex W.hZ W.hp A (inb S q) (g := mkF m pc Ls (.int x :: .int j :: .ref a :: rest)) rfl rfl hd
  exact Go.st st (K T' h' _ (W.stepW X' e' w' hs ha) w' (Arv.set A q1 S N H Gs (fits_nar_char _) w' i hi hl))
theorem Wk.stB (W : Wk p l e R s m args below meth c Z a0 EL n0 own vm0 T h L k n ss) {a : Addr} {kA : ClassId} {z j x : Int32} {vs : List Value} {dv : Value} (F : Arv Z h a kA .byte z vs dv) (q : ¬ j < 0 ∧ j < z) (i : Nat) (hi : j.toNatClampNeg = i) (hl : i < vs.length) (hs : a ∈ ss) (ha : n0 ≤ a) (hd : decode c.code pc = .ok (.bastore, 1))
    (K : ∀ T' h' L', Wk p l e R s m args below meth c Z a0 EL n0 own vm0 T' h' L' k n ss → Wr h h' a j.toNatClampNeg (.int (nar .byte x)) → Arv Z h' a kA .byte z (vs.set i (.int (nar .byte x))) dv → Go p e below P (T'.setTop (mkF m (pc + 1) Ls rest))) : Go p e below P (T.setTop (mkF m pc Ls (.int x :: .int j :: .ref a :: rest))) := by
  obtain ⟨cl, A, q1, S, N, H, Gs⟩ := F
  obtain ⟨T', h', X', e', w', st⟩ := RoadKit.stB W.X W.ex W.hZ W.hp A (inb S q) (g := mkF m pc Ls (.int x :: .int j :: .ref a :: rest)) rfl rfl hd
  exact Go.st st (K T' h' _ (W.stepW X' e' w' hs ha) w' (Arv.set A q1 S N H Gs (fits_nar_byte _) w' i hi hl))
theorem Wk.castY (W : Wk p l e R s m args below meth c Z a0 EL n0 own vm0 T h L k n ss) {C : String} {index : Nat} (w : (Cond.classLink own index C).before a0 Z = true) {a : Addr} (F : Ins Z h a C true) (hd : decode c.code pc = .ok (.checkcast index, 3))
    (K : ∀ T', Wk p l e R s m args below meth c Z a0 EL n0 own vm0 T' h L k n ss → Go p e below P (T'.setTop (mkF m (pc + 3) Ls (.ref a :: rest)))) : Go p e below P (T.setTop (mkF m pc Ls (.ref a :: rest))) := by
  obtain ⟨T', X', e', st⟩ := RoadKit.castY W.X W.ex W.hZ W.ho w W.hp F (g := mkF m pc Ls (.ref a :: rest)) rfl rfl hd
  exact Go.st st (K T' (W.same X' e'))
theorem Wk.instY (W : Wk p l e R s m args below meth c Z a0 EL n0 own vm0 T h L k n ss) {C : String} {index : Nat} (w : (Cond.classLink own index C).before a0 Z = true) {a : Addr} (F : Ins Z h a C true) (hd : decode c.code pc = .ok (.instanceof index, 3))
    (K : ∀ T', Wk p l e R s m args below meth c Z a0 EL n0 own vm0 T' h L k n ss → Go p e below P (T'.setTop (mkF m (pc + 3) Ls (.int 1 :: rest)))) : Go p e below P (T.setTop (mkF m pc Ls (.ref a :: rest))) := by
  obtain ⟨T', X', e', st⟩ := RoadKit.instY W.X W.ex W.hZ W.ho w W.hp F (g := mkF m pc Ls (.ref a :: rest)) rfl rfl hd
  exact Go.st st (K T' (W.same X' e'))
theorem Wk.instN (W : Wk p l e R s m args below meth c Z a0 EL n0 own vm0 T h L k n ss) {C D : String} {index : Nat} (w : (Cond.classLink own index C).before a0 Z = true) {a : Addr} (E : Exa Z h a D) (F : ∃ c t, Z.vm.findClass D = some c ∧ Z.vm.findClass C = some t ∧ Z.vm.assignable c t = false) (hd : decode c.code pc = .ok (.instanceof index, 3))
    (K : ∀ T', Wk p l e R s m args below meth c Z a0 EL n0 own vm0 T' h L k n ss → Go p e below P (T'.setTop (mkF m (pc + 3) Ls (.int 0 :: rest)))) : Go p e below P (T.setTop (mkF m pc Ls (.ref a :: rest))) := by
  obtain ⟨T', X', e', st⟩ := RoadKit.instNo W.X W.ex W.hZ W.ho w W.hp E F (g := mkF m pc Ls (.ref a :: rest)) rfl rfl hd
  exact Go.st st (K T' (W.same X' e'))
theorem Wk.initO (W : Wk p l e R s m args below meth c Z a0 EL n0 own vm0 T h L k n ss) {index : Nat} (w1 : (Cond.methodLink own index Lib.objectInit).before a0 Z = true) (w2 : (Cond.instanceMethod Lib.objectInit).before a0 Z = true) (w3 : (Cond.code Lib.objectInit ⟨#[0xb1]⟩ 1 none).before a0 Z = true) (hsz : Ls.size = c.maxLocals) {a : Addr} (hd : decode c.code pc = .ok (.invokespecial index, 3)) (hf : 1 ≤ R.frames) {Wd : Nat} (hW : (rest.map fun v => v.category).sum ≤ Wd) (hl : Wd + 12 ≤ R.locals)
    (K : ∀ T', Wk p l e R s m args below meth c Z a0 EL n0 own vm0 T' h L k n ss → Go p e below P (T'.setTop (mkF m (pc + 3) Ls rest))) : Go p e below P (T.setTop (mkF m pc Ls (.ref a :: rest))) := by
  obtain ⟨T', X', e', st⟩ := RoadKit.initO W.X W.ex W.hZ W.ho w1 w2 w3 W.hp (g := mkF m pc Ls (.ref a :: rest)) rfl hsz rfl hd hf (W := Wd) (by show 2 * 0 + _ ≤ _; omega) hl
  exact Go.st st (K T' (W.same X' e'))
/-- an array's clone() -/
theorem Wk.clone (W : Wk p l e R s m args below meth c Z a0 EL n0 own vm0 T h L k n ss) {index : Nat} {ad : String} (w1 : (Cond.methodLink own index ⟨ad, "clone", "()Ljava/lang/Object;"⟩).before a0 Z = true) (w2 : (Cond.sameMethod ad "java/lang/Object" "clone" "()Ljava/lang/Object;").before a0 Z = true) (w3 : (Cond.native ⟨"java/lang/Object", "clone", "()Ljava/lang/Object;"⟩).before a0 Z = true)
    (w4 : (Cond.instanceMethod ⟨"java/lang/Object", "clone", "()Ljava/lang/Object;"⟩).before a0 Z = true) (w5 : (Cond.selects ad ⟨ad, "clone", "()Ljava/lang/Object;"⟩ ⟨"java/lang/Object", "clone", "()Ljava/lang/Object;"⟩).before a0 Z = true) (w6 : (Cond.castable ad "java/lang/Cloneable").before a0 Z = true)
    {a : Addr} {kA : ClassId} {ty : FieldType} {z : Int32} {vs : List Value} {dv : Value} (F : Arv Z h a kA ty z vs dv) (E : Exa Z h a ad) (hsz : Ls.size = c.maxLocals) (hd : decode c.code pc = .ok (.invokevirtual index, 3)) (hf : 1 ≤ R.frames) {Wd cap : Nat} (hW : (rest.map fun v => v.category).sum ≤ Wd) (hl : Wd + 14 ≤ R.locals) (hcap : z.toNatClampNeg ≤ cap) (hk : k + 1 = k') (hn : n + cap = n') (hc : k' ≤ R.cells) (hs : n' ≤ R.slots)
    (K : ∀ T' h' b, b = h.size → n0 ≤ b → Wk p l e R s m args below meth c Z a0 EL n0 own vm0 T' h' L k' n' (b :: ss) → Ext h h' → Arv Z h' b kA ty z vs dv → Exa Z h' b ad → Go p e below P (T'.setTop (mkF m (pc + 3) Ls (.ref b :: rest)))) : Go p e below P (T.setTop (mkF m pc Ls (.ref a :: rest))) := by
  subst hk hn
  obtain ⟨T', h', X', e', ex, A, E', st⟩ := RoadKit.cloneH W.X W.ex W.hZ W.ho w1 w2 w3 w4 w5 w6 W.hp F.arh E (g := mkF m pc Ls (.ref a :: rest)) rfl hsz rfl hd hf (W := Wd) (by show 2 * 0 + _ ≤ _; omega) hl hcap hc hs
  have W' := W.stepE X' e' ex
  exact Go.st st (K T' h' _ rfl W.n0le (W'.cons ((Safe.new (Nat.le_refl _)).ext ex W.cv) A.lt) ex A E')
/-- 'ldc' of a String constant of EL, read -/
theorem Wk.ldc (W : Wk p l e R s m args below meth c Z a0 EL n0 own vm0 T h L k n ss) {text : String} {index : Nat} (w : (Cond.stringLink own index text).before a0 Z = true) (wS : ∀ a ∈ Bundle.stringAtoms, a.before a0 Z = true) (hmem : (own, index) ∈ EL) {vs : List Value} {z : Int32} (ht : (∀ c ∈ text.toList, c.toNat < 256) ∧ text.toList.map (fun c => Value.int (Jvm.Lit.byteI c.toNat.toUInt16)) = vs) (hz : ¬ z < 0) (hlz : z.toNatClampNeg = vs.length)
    (hd : decode c.code pc = .ok (.ldc index, 2)) {j : Nat} (hj : 4 * text.toList.length ≤ j) (hbig : j ≤ 536870912) (hk : k + 2 = k') (hn : n + (j + 4) = n') (hc : k' ≤ R.cells) (hl : n' ≤ R.slots)
    (K : ∀ vm1 T' h' a b kA, Wk p l e R s m args below meth c Z a0 EL n0 own vm1 T' h' L k' n' ss → Ext h h' → Exa Z h' a "java/lang/String" → Fld Z h' a "java/lang/String" "coder" "B" (.int 0) → Fld Z h' a "java/lang/String" "value" "[B" (.ref b) → Arv Z h' b kA .byte z vs (.int 0) → (∀ x ∈ ss, x ≠ a ∧ x ≠ b) → Go p e below P (T'.setTop (mkF m (pc + 2) Ls (.ref a :: rest)))) : Go p e below P (T.setTop (mkF m pc Ls rest)) := by
  subst hk hn
  obtain ⟨j0, S, hj0⟩ := W.sc
  obtain ⟨a, T', h', k1, b, kA, X', e', E, S', hk1, hZ', ho', EA, FC, FV, AV, la, lb, A, -, ne, st⟩ := RoadKit.ldcCH W.X W.ex W.hZ W.ho w wS W.hp S hj0 W.ew hmem W.cv ht hz hlz (g := mkF m pc Ls rest) rfl hd hj hbig hc hl
  have W' := W.step X' e' ⟨k1, S', hk1⟩ hZ' ho' A W.fr (W.old.ext E)
  exact Go.st st (K T'.vm T' h' a b kA W' E EA FC FV AV fun x hx => ne x (W'.sf x hx).1)
end K
section C
variable {p : Program} {l : Launch} {e : Env} {R : Room} {s : State} {m : MethodId} {args : Array Value} {below : List Frame} {meth : Method} {c : Code} {Z : State} {a0 : Array Value} {EL : List (String × Nat)} {n0 : Nat} {own : String} {vm0 vm1 : Vm} {T T' : State} {h h' : Heap} {L L' : List Loc} {k n k' n' : Nat} {ss ss' : List Addr} {P : Outcome → State → Prop} {U V : State} {pc : Nat} {Ls : Array Slot} {rest : List Value}
/-- the end that a body owes -/
def Pst (Z : State) (EL : List (String × Nat)) (n0 : Nat) (s : State) (ck cn : Nat) (Q : Option Value → Vm → Heap → Prop) (o : Outcome) (U : State) : Prop :=
  ∃ v L, o = .returned v ∧ (Q v U.vm U.heap ∧ Fr n0 L ∧ Old Z n0 U.heap) ∧ CHr Z EL s.vm s.heap U.vm U.heap ∧ ReturnedEndW s o U L ck cn
/-- a body's contract: called with as' at the heap h, the cells ss no literal's, it returns with Q -/
def Ct (l : Launch) (Z : State) (EL : List (String × Nat)) (n0 : Nat) (ws : List Cond) (y : MethodName) (bytes : ByteArray) (maxL : Nat) (ret : Option FieldType) (rm : Room) (as' : Array Value) (ss : List Addr) (h : Heap) (Q : Option Value → Vm → Heap → Prop) : Prop :=
  MetFree l y (head1 (Cond.code y bytes maxL ret :: ws) rm) (fun a U => a = as' ∧ Z.Warmed39 U.vm ∧ U.heap = h ∧ CHv Z EL U.vm h ∧ Saf Z EL U.vm h ss) (fun _ _ _ _ _ => True) (fun _ U o U' => Pst Z EL n0 U rm.cells rm.slots Q o U')
theorem Ct.intro {ws : List Cond} {y : MethodName} {bytes : ByteArray} {maxL : Nat} {ret : Option FieldType} {rm : Room} {as' : Array Value} {Q : Option Value → Vm → Heap → Prop} (hx : plainFor y = true) (O : Old Z n0 h) (hew : EW Z a0 EL)
    (body : ∀ (p : Program) (e : Env) (s : State) (m : MethodId) (below : List Frame) (meth : Method) (c : Code) (s₁ : State), Wk p l e rm s m as' below meth c Z a0 EL n0 y.cls s.vm s₁ h [] 0 0 ss → c.code = bytes → c.maxLocals = maxL → meth.sig.returnType = ret → meth.name = y.name → Go p e below (Pst Z EL n0 s rm.cells rm.slots Q) (s₁.setTop (entryFrame m as' maxL))) :
    Ct l Z EL n0 ws y bytes maxL ret rm as' ss h Q := by
  refine MetFree.of_bodySF hx hisR ?_
  intro p e s m args below meth c s₁ Bd hml0 hP hK
  obtain ⟨rfl, hZ, hh, hcv, hsf⟩ := hP
  subst hh
  have X0 : Stand p l e rm s m args below meth c s₁ [] 0 0 := Stand.of_body Bd
  have e0 : s₁.heap = s.heap := by rw [Bd.state]; rfl
  exact body p e s m below meth c s₁ ⟨X0, e0, ⟨_, (State.WarmedH.refl s).since s.heap.size, Nat.le_refl _⟩, hZ, findClass_of_methodNamed Bd.named, CHr.refl hcv, Fr.nil n0, O, hsf, Bd.exec, hew, Bd.notSynchronized⟩ Bd.bytes hml0 Bd.returns (name_of_methodNamed Bd.named Bd.method).1
theorem Ct.mono {ws : List Cond} {y : MethodName} {bytes : ByteArray} {maxL : Nat} {ret : Option FieldType} {rm : Room} {as' : Array Value} {Q Q' : Option Value → Vm → Heap → Prop} (C : Ct l Z EL n0 ws y bytes maxL ret rm as' ss h Q) (q : ∀ v vm h', Q v vm h' → Q' v vm h') : Ct l Z EL n0 ws y bytes maxL ret rm as' ss h Q' := by
  intro p e ha hc hk s m args below hf happ hP hK
  obtain ⟨n, o, h1, h2, h3, v, L, h4, ⟨h5, h6⟩, h7⟩ := C p e ha hc hk s m args below hf happ hP hK
  exact ⟨n, o, h1, h2, h3, v, L, h4, ⟨q _ _ _ h5, h6⟩, h7⟩
theorem Wk.ret {v : Option Value} {ck cn : Nat} {Q : Option Value → Vm → Heap → Prop} {g : JFrame} (W : Wk p l e R s m args below meth c Z a0 EL n0 own vm0 T h L k n ss) (hv : meth.sig.returnType = none → v = none) (hk : k ≤ ck) (hn : n ≤ cn)
    (st : ∀ fs, (∀ (f : JFrame) (acts : List Action), f.method = m → f.locked = none → f.entered = [] → (doReturn e (T.setTop f) acts v).1 = T.setFrames fs) → Steps p.tables e below (T.setTop g) (T.setFrames fs)) (q : ∀ vm1, CHr Z EL vm0 h vm1 h → Q v vm1 h) : Go p e below (Pst Z EL n0 s ck cn Q) (T.setTop g) := by
  obtain ⟨j, S, hj⟩ := W.sc
  have hj' : j ≤ T.heap.size := by rw [W.hp]; exact hj
  obtain ⟨fs, hr, hrun, hend, r1, r2, r3, r4⟩ := W.X.leaveW S hj' (v := v) hv W.nl
  have A := CHv.at W.X W.hZ W.ew W.cv
  have e1 : (T.setFrames fs).heap = h := W.hp
  refine ⟨_, _, st fs hr, hrun, hend, v, L, rfl, ⟨?_, W.fr, ?_⟩, ?_, r1, r2, r3, r4.mono hk hn⟩
  · rw [e1]; exact q _ A
  · rw [e1]; exact W.old
  · rw [e1]; exact W.cr.trans A
theorem Wk.retV {ck cn : Nat} {Q : Option Value → Vm → Heap → Prop} (W : Wk p l e R s m args below meth c Z a0 EL n0 own vm0 T h L k n ss) (hret : meth.sig.returnType = none) (hd : decode c.code pc = .ok (.return_, 1)) (hk : k ≤ ck) (hn : n ≤ cn) (q : ∀ vm1, CHr Z EL vm0 h vm1 h → Q none vm1 h) : Go p e below (Pst Z EL n0 s ck cn Q) (T.setTop (mkF m pc Ls [])) :=
  W.ret (fun _ => rfl) hk hn (fun fs hr => W.X.returnOut W.ex hret hd hr) q
theorem Wk.retA {ck cn : Nat} {Q : Option Value → Vm → Heap → Prop} {v : Value} {t : FieldType} (W : Wk p l e R s m args below meth c Z a0 EL n0 own vm0 T h L k n ss) (hret : meth.sig.returnType = some t) (ht : t.isReference = true) (hv : v.isRef = true) (hd : decode c.code pc = .ok (.areturn, 1)) (hk : k ≤ ck) (hn : n ≤ cn) (q : ∀ vm1, CHr Z EL vm0 h vm1 h → Q (some v) vm1 h) : Go p e below (Pst Z EL n0 s ck cn Q) (T.setTop (mkF m pc Ls (v :: rest))) :=
  W.ret (fun h => by rw [hret] at h; cases h) hk hn (fun fs hr => retOut W.X W.ex hret (by rcases ref_cases hv with rfl | ⟨z, rfl⟩ <;> cases t <;> first | rfl | cases ht) (Or.inr (Or.inr (Or.inr (Or.inr ⟨rfl, ht, hv⟩)))) hd hr) q
theorem Wk.retI {ck cn : Nat} {Q : Option Value → Vm → Heap → Prop} {z : Int32} (W : Wk p l e R s m args below meth c Z a0 EL n0 own vm0 T h L k n ss) (hret : meth.sig.returnType = some .int) (hd : decode c.code pc = .ok (.ireturn, 1)) (hk : k ≤ ck) (hn : n ≤ cn) (q : ∀ vm1, CHr Z EL vm0 h vm1 h → Q (some (.int z)) vm1 h) : Go p e below (Pst Z EL n0 s ck cn Q) (T.setTop (mkF m pc Ls (.int z :: rest))) :=
  W.ret (fun h => by rw [hret] at h; cases h) hk hn (fun fs hr => retOut W.X W.ex hret rfl (Or.inl ⟨rfl, Or.inl rfl, z, rfl⟩) hd hr) q
theorem Wk.retN {ck cn : Nat} {Q : Option Value → Vm → Heap → Prop} {z : Int32} {t : FieldType} (W : Wk p l e R s m args below meth c Z a0 EL n0 own vm0 T h L k n ss) (hret : meth.sig.returnType = some t) (ht : t = .boolean ∨ t = .byte ∨ t = .char ∨ t = .short) (hd : decode c.code pc = .ok (.ireturn, 1)) (hk : k ≤ ck) (hn : n ≤ cn) (q : ∀ vm1, CHr Z EL vm0 h vm1 h → Q (some (.int (nar t z))) vm1 h) : Go p e below (Pst Z EL n0 s ck cn Q) (T.setTop (mkF m pc Ls (.int z :: rest))) :=
  W.ret (fun h => by rw [hret] at h; cases h) hk hn (fun fs hr => RoadKit.retN W.X W.ex hret ht hd hr) q
/-- a contract pays a call -/
theorem Ct.back {y : MethodName} {bytes : ByteArray} {maxL : Nat} {ret : Option FieldType} {rm : Room} {as' : Array Value} {Q : Option Value → Vm → Heap → Prop} {len Wd : Nat} (C : Ct l Z EL n0 [] y bytes maxL ret rm as' ss' h Q) (W : Wk p l e R s m args below meth c Z a0 EL n0 own vm0 T h L k n ss) (wc : (Cond.code y bytes maxL ret).before a0 Z = true) (wz : (Cond.initialized y.cls).before a0 Z = true) (hss : ∀ x ∈ ss', x ∈ ss) (hf : rm.frames + 1 ≤ R.frames) (hl : Wd + (maxL + 11) + rm.locals ≤ R.locals) :
    BackS l R p e below (s.setVm vm0) args y len Wd (fun A a => a = as' ∧ A.U.heap = h ∧ A.cells + rm.cells ≤ R.cells ∧ A.slots + rm.slots ≤ R.slots)
      (fun A _ v B => ∃ L', (Q v B.U.vm B.U.heap ∧ Fr n0 L' ∧ Old Z n0 B.U.heap) ∧ B.locs = A.locs ++ L' ∧ B.cells = A.cells + rm.cells ∧ B.slots = A.slots + rm.slots ∧ CHr Z EL vm0 h B.U.vm B.U.heap) :=
  BackS.of_freeW (bytes := bytes) (maxL := maxL) (ret := ret) (E := fun _ first o t L' k' n' => k' = rm.cells ∧ n' = rm.slots ∧ (∃ v, o = .returned v ∧ (Q v t.vm t.heap ∧ Fr n0 L' ∧ Old Z n0 t.heap)) ∧ CHr Z EL first.vm first.heap t.vm t.heap) C hf hl
    (fun m' meth' c' A a Y hp => by
      have hU : Z.Warmed39 A.U.vm := wtrans (s := s.setVm vm0) W.hZ Y.warmed
      exact ⟨by show (Cond.and _ .tt).before a A.U = true; rw [Cond.before_and, mv hU wc]; rfl, mv hU wc, mv hU wz, hp.2.2.1, hp.2.2.2⟩)
    (fun m' meth' c' A a g mk Y hp => by
      have A0 : CHr Z EL vm0 h A.U.vm h := CHv.at Y W.hZ W.ew W.cv
      have A1 : Saf Z EL vm0 h ss' := fun x hx => W.sf x (hss x hx)
      exact ⟨hp.1, wtrans (s := s.setVm vm0) W.hZ Y.warmed, hp.2.1, A0.1, A1.chr A0⟩) (fun _ _ _ _ _ _ _ _ _ => trivial)
    (fun _ _ _ _ ⟨v, L', h1, h2, h3, h4⟩ => ⟨L', _, _, h4, rfl, rfl, ⟨v, h1, h2⟩, h3⟩)
    (fun m' meth' c' A a g mk v t L' k' n' Y hp _ _ ⟨e1, e2, ⟨v', e3, e4⟩, e5⟩ => by
      cases e3; subst e1 e2
      refine ⟨L', e4, rfl, rfl, rfl, (CHv.at Y W.hZ W.ew W.cv).trans ?_⟩
      rw [← hp.2.1]; exact e5)
/-- behind a call that may have interned -/
theorem Wk.behind {B : Pt} {n1 : Nat} (W : Wk p l e R s m args below meth c Z a0 EL n0 own vm0 T h L k n ss) (X : Stand p l e R ((s.setVm vm0).setVm B.U.vm) m args below meth c B.U B.locs B.cells B.slots) (S : (s.setVm vm0).Since B.U.vm B.U.heap.size) (g : T.heap.size ≤ B.U.heap.size) (hl : B.locs = L ++ L') (F : Fr n0 L') (O : Old Z n0 B.U.heap) (A : CHr Z EL vm0 h B.U.vm B.U.heap) (hk : B.cells = k') (hn : B.slots = n') : Wk p l e R s m args below meth c Z a0 EL n0 own B.U.vm B.U B.U.heap (L ++ L') k' n' ss := by
  obtain ⟨j, S0, hj⟩ := W.sc
  obtain ⟨X', S', hZ', ho'⟩ := rebS (n1 := T.heap.size) S0 (by rw [W.hp]; exact hj) X S g W.hZ W.ho
  subst hk hn
  rw [← hl]
  exact W.step X' rfl ⟨_, S', Nat.le_refl _⟩ hZ' ho' A (by rw [hl]; exact W.fr.app F) O
theorem Wk.callS (W : Wk p l e R s m args below meth c Z a0 EL n0 own vm0 T h L k n ss) {index : Nat} {y : MethodName} {bytes : ByteArray} {maxL : Nat} {ret : Option FieldType} {rm : Room} {as' : Array Value} {Q : Option Value → Vm → Heap → Prop} {Wd : Nat} {st argsL : List Value} (w1 : (Cond.methodLink own index y).before a0 Z = true) (w2 : (Cond.static y).before a0 Z = true) (w3 : (Cond.initialized y.cls).before a0 Z = true) (w4 : (Cond.code y bytes maxL ret).before a0 Z = true) (hy : y.cls ≠ "java/lang/invoke/MethodHandle" ∧ y.cls ≠ "java/lang/invoke/VarHandle")
    (C : Ct l Z EL n0 [] y bytes maxL ret rm as' ss' h Q) (hss : ∀ x ∈ ss', x ∈ ss) (hf : rm.frames + 1 ≤ R.frames) (hl : Wd + (maxL + 11) + rm.locals ≤ R.locals) (hk : k + rm.cells = k') (hn : n + rm.slots = n') (hc : k' ≤ R.cells) (hs : n' ≤ R.slots) (hsz : Ls.size = c.maxLocals) (ha : argsL.toArray = as') (hlen : ∀ sig, parseMethodDescriptor y.desc = some sig → argsL.length = sig.parameters.length) (hst : st = argsL.reverse ++ rest) (hW : (rest.map fun v => v.category).sum ≤ Wd) (hd : decode c.code pc = .ok (.invokestatic index, 3))
    (K : ∀ v vm1 T' h' L', Wk p l e R s m args below meth c Z a0 EL n0 own vm1 T' h' L' k' n' ss → Q v vm1 h' → Go p e below P (T'.setTop (mkF m (pc + 3) Ls (v.toList ++ rest)))) : Go p e below P (T.setTop (mkF m pc Ls st)) := by
  subst hk hn ha hst
  obtain ⟨v, vm₁, B, -, X', S', g', ⟨L', ⟨q1, q2, q3⟩, q4, q5, q6, q7⟩, stp⟩ := RoadKit.callSS W.X W.ex W.ho (mvT W.hZ w1) (mvT W.hZ w2) (mvT W.hZ w3) (mvT W.hZ w4) hy (C.back (len := 3) (Wd := Wd) W w4 w3 hss hf hl) (g := mkF m pc Ls (argsL.reverse ++ rest)) rfl hsz (argsL := argsL) (rest := rest) hlen rfl (by show 2 * 0 + _ ≤ _; omega) hd (fun _ _ => ⟨rfl, W.hp, hc, hs⟩)
  exact Go.tr stp (K v _ _ _ _ (W.behind (n1 := 0) X' S' g' q4 q2 q3 q7 q5 q6) q1)
theorem Wk.callI (W : Wk p l e R s m args below meth c Z a0 EL n0 own vm0 T h L k n ss) {index : Nat} {y : MethodName} {bytes : ByteArray} {maxL : Nat} {rm : Room} {as' : Array Value} {Q : Option Value → Vm → Heap → Prop} {Wd : Nat} {st argsL : List Value} {a : Addr} (hy1 : y.name = "<init>") (w1 : (Cond.methodLink own index y).before a0 Z = true) (w2 : (Cond.instanceMethod y).before a0 Z = true) (w3 : (Cond.initialized y.cls).before a0 Z = true) (w4 : (Cond.code y bytes maxL none).before a0 Z = true) (hy : y.cls ≠ "java/lang/invoke/MethodHandle" ∧ y.cls ≠ "java/lang/invoke/VarHandle")
    (C : Ct l Z EL n0 [] y bytes maxL none rm as' ss' h Q) (hss : ∀ x ∈ ss', x ∈ ss) (hf : rm.frames + 1 ≤ R.frames) (hl : Wd + (maxL + 11) + rm.locals ≤ R.locals) (hk : k + rm.cells = k') (hn : n + rm.slots = n') (hc : k' ≤ R.cells) (hs : n' ≤ R.slots) (hsz : Ls.size = c.maxLocals) (ha : (Value.ref a :: argsL).toArray = as') (hlen : ∀ sig, parseMethodDescriptor y.desc = some sig → argsL.length = sig.parameters.length) (hst : st = argsL.reverse ++ .ref a :: rest) (hW : (rest.map fun v => v.category).sum ≤ Wd) (hd : decode c.code pc = .ok (.invokespecial index, 3))
    (K : ∀ v vm1 T' h' L', Wk p l e R s m args below meth c Z a0 EL n0 own vm1 T' h' L' k' n' ss → Q v vm1 h' → Go p e below P (T'.setTop (mkF m (pc + 3) Ls (v.toList ++ rest)))) : Go p e below P (T.setTop (mkF m pc Ls st)) := by
  subst hk hn ha hst
  obtain ⟨v, vm₁, B, -, X', S', g', ⟨L', ⟨q1, q2, q3⟩, q4, q5, q6, q7⟩, stp⟩ := W.X.specialBackS W.ex hy1 W.ho (mvT W.hZ w1) (mvT W.hZ w2) (mvT W.hZ w4) hy (C.back (len := 3) (Wd := Wd) W w4 w3 hss hf hl) (g := mkF m pc Ls (argsL.reverse ++ .ref a :: rest)) rfl hsz (Steps.refl _) (argsL := argsL) (rest := rest) hlen rfl (by show 2 * 0 + _ ≤ _; omega) hd (fun _ _ => ⟨rfl, W.hp, hc, hs⟩)
  exact Go.tr stp (K v _ _ _ _ (W.behind (n1 := 0) X' S' g' q4 q2 q3 q7 q5 q6) q1)
theorem Wk.callV (W : Wk p l e R s m args below meth c Z a0 EL n0 own vm0 T h L k n ss) {D : String} {index : Nat} {y z : MethodName} {bytes : ByteArray} {maxL : Nat} {ret : Option FieldType} {rm : Room} {as' : Array Value} {Q : Option Value → Vm → Heap → Prop} {Wd : Nat} {st argsL : List Value} {a : Addr} (w1 : (Cond.methodLink own index y).before a0 Z = true) (w2 : (Cond.declares y).before a0 Z = true) (w5 : (Cond.selects D y z).before a0 Z = true) (w6 : (Cond.instanceMethod z).before a0 Z = true) (w3 : (Cond.initialized z.cls).before a0 Z = true) (w4 : (Cond.code z bytes maxL ret).before a0 Z = true) (nf : NotFace (s.setVm vm0) y) (hy : y.cls ≠ "java/lang/invoke/MethodHandle" ∧ y.cls ≠ "java/lang/invoke/VarHandle")
    (E : Exa Z h a D) (C : Ct l Z EL n0 [] z bytes maxL ret rm as' ss' h Q) (hss : ∀ x ∈ ss', x ∈ ss) (hf : rm.frames + 1 ≤ R.frames) (hl : Wd + (maxL + 11) + rm.locals ≤ R.locals) (hk : k + rm.cells = k') (hn : n + rm.slots = n') (hc : k' ≤ R.cells) (hs : n' ≤ R.slots) (hsz : Ls.size = c.maxLocals) (ha : (Value.ref a :: argsL).toArray = as') (hlen : ∀ sig, parseMethodDescriptor y.desc = some sig → argsL.length = sig.parameters.length) (hst : st = argsL.reverse ++ .ref a :: rest) (hW : (rest.map fun v => v.category).sum ≤ Wd) (hd : decode c.code pc = .ok (.invokevirtual index, 3))
    (K : ∀ v vm1 T' h' L', Wk p l e R s m args below meth c Z a0 EL n0 own vm1 T' h' L' k' n' ss → Q v vm1 h' → Go p e below P (T'.setTop (mkF m (pc + 3) Ls (v.toList ++ rest)))) : Go p e below P (T.setTop (mkF m pc Ls st)) := by
  subst hk hn ha hst
  obtain ⟨cB, kB, i1, i2, i3⟩ := isOf W.hZ W.hp E
  obtain ⟨v, vm₁, B, -, X', S', g', ⟨L', ⟨q1, q2, q3⟩, q4, q5, q6, q7⟩, stp⟩ := W.X.virtualBackS W.ex W.ho (mvT W.hZ w1) (mvT W.hZ w2) nf (mvT W.hZ w5) (mvT W.hZ w6) hy (C.back (len := 3) (Wd := Wd) W w4 w3 hss hf hl) i1 i3 (g := mkF m pc Ls (argsL.reverse ++ .ref a :: rest)) rfl hsz (Steps.refl _) (argsL := argsL) (rest := rest) hlen rfl (by show 2 * 0 + _ ≤ _; omega) hd (fun _ _ => ⟨rfl, W.hp, hc, hs⟩)
  exact Go.tr stp (K v _ _ _ _ (W.behind (n1 := 0) X' S' g' q4 q2 q3 q7 q5 q6) q1)
theorem Wk.nf (W : Wk p l e R s m args below meth c Z a0 EL n0 own vm0 T h L k n ss) {D : String} {y : MethodName} (w5 : (Cond.selects D y y).before a0 Z = true) : NotFace (s.setVm vm0) y := notFace_of_selects (args := #[]) (mvT W.hZ w5)
/-- a law of the library's pays a call -/
theorem Wk.libI (W : Wk p l e R s m args below meth c Z a0 EL n0 own vm0 T h L k n ss) {index : Nat} {y : MethodName} {bytes : ByteArray} {maxL : Nat} {as' : Array Value} {Q : Option Value → Heap → List Loc → Prop} {ws : List Addr} {Wd ck cn : Nat} {st argsL : List Value} {a : Addr} (hy1 : y.name = "<init>") (w1 : (Cond.methodLink own index y).before a0 Z = true) (w2 : (Cond.instanceMethod y).before a0 Z = true) (w4 : (Cond.code y bytes maxL none).before a0 Z = true) (hy : y.cls ≠ "java/lang/invoke/MethodHandle" ∧ y.cls ≠ "java/lang/invoke/VarHandle")
    (hB : Back l R p e below (s.setVm vm0) args y 3 Wd (fun A a => a = as' ∧ A.U.heap = h ∧ A.cells + ck ≤ R.cells ∧ A.slots + cn ≤ R.slots) (fun A _ v B => ∃ L', Q v B.U.heap L' ∧ B.locs = A.locs ++ L' ∧ B.cells = A.cells + ck ∧ B.slots = A.slots + cn)) (hQ : ∀ v h' L', Q v h' L' → Fr n0 L' ∧ Keep h h' ws) (hws : ∀ x ∈ ws, x ∈ ss) (hwn : ∀ x ∈ ws, n0 ≤ x)
    (hk : k + ck = k') (hn : n + cn = n') (hc : k' ≤ R.cells) (hs : n' ≤ R.slots) (hsz : Ls.size = c.maxLocals) (ha : (Value.ref a :: argsL).toArray = as') (hlen : ∀ sig, parseMethodDescriptor y.desc = some sig → argsL.length = sig.parameters.length) (hst : st = argsL.reverse ++ .ref a :: rest) (hW : (rest.map fun v => v.category).sum ≤ Wd) (hd : decode c.code pc = .ok (.invokespecial index, 3))
    (K : ∀ v T' h' L0 L', Wk p l e R s m args below meth c Z a0 EL n0 own vm0 T' h' L' k' n' ss → Q v h' L0 → Go p e below P (T'.setTop (mkF m (pc + 3) Ls (v.toList ++ rest)))) : Go p e below P (T.setTop (mkF m pc Ls st)) := by
  subst hk hn ha hst
  obtain ⟨v, vm₁, B, -, X', ⟨L', q1, q4, q5, q6⟩, stp⟩ := W.X.specialBack W.ex hy1 W.ho (mvT W.hZ w1) (mvT W.hZ w2) (mvT W.hZ w4) hy hB (g := mkF m pc Ls (argsL.reverse ++ .ref a :: rest)) rfl hsz (Steps.refl _) (argsL := argsL) (rest := rest) hlen rfl (by show 2 * 0 + _ ≤ _; omega) hd (fun _ _ => ⟨rfl, W.hp, hc, hs⟩)
  obtain ⟨r1, r2⟩ := hQ _ _ _ q1
  have e4 : B.locs = L ++ L' := q4
  have e5 : B.cells = k + ck := q5
  have e6 : B.slots = n + cn := q6
  rw [e5, e6] at X'
  exact Go.tr stp (K v _ _ _ _ (W.stepK X' rfl r2 hws hwn (by rw [e4]; exact W.fr.app r1)) q1)
theorem Wk.libV (W : Wk p l e R s m args below meth c Z a0 EL n0 own vm0 T h L k n ss) {D : String} {index : Nat} {y z : MethodName} {as' : Array Value} {Q : Option Value → Heap → List Loc → Prop} {ws : List Addr} {Wd ck cn : Nat} {st argsL : List Value} {a : Addr} (w1 : (Cond.methodLink own index y).before a0 Z = true) (w2 : (Cond.declares y).before a0 Z = true) (w5 : (Cond.selects D y z).before a0 Z = true) (w6 : (Cond.instanceMethod z).before a0 Z = true) (nf : NotFace (s.setVm vm0) y) (hy : y.cls ≠ "java/lang/invoke/MethodHandle" ∧ y.cls ≠ "java/lang/invoke/VarHandle") (E : Exa Z h a D)
    (hB : Back l R p e below (s.setVm vm0) args z 3 Wd (fun A a => a = as' ∧ A.U.heap = h ∧ A.cells + ck ≤ R.cells ∧ A.slots + cn ≤ R.slots) (fun A _ v B => ∃ L', Q v B.U.heap L' ∧ B.locs = A.locs ++ L' ∧ B.cells = A.cells + ck ∧ B.slots = A.slots + cn)) (hQ : ∀ v h' L', Q v h' L' → Fr n0 L' ∧ Keep h h' ws) (hws : ∀ x ∈ ws, x ∈ ss) (hwn : ∀ x ∈ ws, n0 ≤ x)
    (hk : k + ck = k') (hn : n + cn = n') (hc : k' ≤ R.cells) (hs : n' ≤ R.slots) (hsz : Ls.size = c.maxLocals) (ha : (Value.ref a :: argsL).toArray = as') (hlen : ∀ sig, parseMethodDescriptor y.desc = some sig → argsL.length = sig.parameters.length) (hst : st = argsL.reverse ++ .ref a :: rest) (hW : (rest.map fun v => v.category).sum ≤ Wd) (hd : decode c.code pc = .ok (.invokevirtual index, 3))
    (K : ∀ v T' h' L0 L', Wk p l e R s m args below meth c Z a0 EL n0 own vm0 T' h' L' k' n' ss → Q v h' L0 → Go p e below P (T'.setTop (mkF m (pc + 3) Ls (v.toList ++ rest)))) : Go p e below P (T.setTop (mkF m pc Ls st)) := by
  subst hk hn ha hst
  obtain ⟨cB, kB, i1, i2, i3⟩ := isOf W.hZ W.hp E
  obtain ⟨v, vm₁, B, -, X', ⟨L', q1, q4, q5, q6⟩, stp⟩ := W.X.virtualBack W.ex W.ho (mvT W.hZ w1) (mvT W.hZ w2) nf (mvT W.hZ w5) (mvT W.hZ w6) hy hB i1 i3 (g := mkF m pc Ls (argsL.reverse ++ .ref a :: rest)) rfl hsz (Steps.refl _) (argsL := argsL) (rest := rest) hlen rfl (by show 2 * 0 + _ ≤ _; omega) hd (fun _ _ => ⟨rfl, W.hp, hc, hs⟩)
  obtain ⟨r1, r2⟩ := hQ _ _ _ q1
  have e4 : B.locs = L ++ L' := q4
  have e5 : B.cells = k + ck := q5
  have e6 : B.slots = n + cn := q6
  rw [e5, e6] at X'
  exact Go.tr stp (K v _ _ _ _ (W.stepK X' rfl r2 hws hwn (by rw [e4]; exact W.fr.app r1)) q1)
end C
end Jvm.OwnKit
namespace Jvm.OwnKit
open Sem ClassFile Op Lib Bundle Jvm.Stand Jvm.Free Jvm.LawKit Jvm.RoadKit
section St
variable {Z : State} {h h' : Heap} {a t : Addr} {cs : List Int32}
abbrev bsOf (cs : List Int32) : List Value := (cs.map fun c => c.toInt8.toInt32).map Value.int
def Ch8 (cs : List Int32) : Prop := ∀ c ∈ cs, ¬ c < 0 ∧ ¬ (255 : Int32) < c
/-- the object at a is a String whose bytes lie at t and spell cs -/
def StrAt (Z : State) (h : Heap) (a t : Addr) (cs : List Int32) : Prop := Exa Z h a "java/lang/String" ∧ Fld Z h a "java/lang/String" "coder" "B" (.int 0) ∧ Fld Z h a "java/lang/String" "value" "[B" (.ref t) ∧ (∃ kb, Arv Z h t kb .byte (Int32.ofNat cs.length) (bsOf cs) (.int 0)) ∧ Ch8 cs ∧ cs.length ≤ 4000
theorem StrAt.E (S : StrAt Z h a t cs) : Exa Z h a "java/lang/String" := S.1
theorem StrAt.ext (S : StrAt Z h a t cs) (E : Ext h h') : StrAt Z h' a t cs := by
  obtain ⟨s1, s2, s3, ⟨kb, s4⟩, s5⟩ := S
  exact ⟨s1.ext E, s2.ext E, s3.ext E, ⟨kb, s4.ext E⟩, s5⟩
theorem StrAt.keep {ws : List Addr} (S : StrAt Z h a t cs) (K : Keep h h' ws) (q1 : a ∉ ws) (q2 : t ∉ ws) : StrAt Z h' a t cs := by
  obtain ⟨s1, s2, s3, ⟨kb, s4⟩, s5⟩ := S
  exact ⟨s1.keep K, s2.keep K q1, s3.keep K q1, ⟨kb, s4.keep K q2⟩, s5⟩
theorem StrAt.wr {b : Addr} {sl : Nat} {v : Value} (S : StrAt Z h a t cs) (W : Wr h h' b sl v) (q1 : a ≠ b) (q2 : t ≠ b) : StrAt Z h' a t cs := S.keep (Keep.of_wr W) (ninS q1 nin0) (ninS q2 nin0)
theorem StrAt.lt (S : StrAt Z h a t cs) : a < h.size := S.1.lt
theorem StrAt.ltt (S : StrAt Z h a t cs) : t < h.size := by obtain ⟨s1, s2, s3, ⟨kb, s4⟩, s5⟩ := S; exact s4.lt
theorem StrAt.neC {x : Addr} {C : String} (S : StrAt Z h a t cs) (E : Exa Z h x C) (hn : C ≠ "java/lang/String") : a ≠ x := fun q => (Exa.ne E S.1 hn) q.symm
theorem StrAt.neT {x : Addr} {C : String} {n : Nat} {a0 : Array Value} (S : StrAt Z h a t cs) (E : Exa Z h x C) (w : (Cond.instantiable C n).before a0 Z = true) : t ≠ x := by
  obtain ⟨s1, s2, s3, ⟨kb, s4⟩, s5⟩ := S
  exact fun q => (Exa.neArv E s4 w) q.symm
theorem StrAt.kb (S : StrAt Z h a t cs) : ∃ kb, Arv Z h t kb .byte (Int32.ofNat cs.length) (bsOf cs) (.int 0) := S.2.2.2.1
theorem StrAt.ch (S : StrAt Z h a t cs) : Ch8 cs := S.2.2.2.2.1
theorem StrAt.le (S : StrAt Z h a t cs) : cs.length ≤ 4000 := S.2.2.2.2.2
theorem Ch8.nil : Ch8 [] := fun _ q => nomatch q
theorem Ch8.cons {c : Int32} (h1 : ¬ c < 0 ∧ ¬ (255 : Int32) < c) (h2 : Ch8 cs) : Ch8 (c :: cs) := fun x hx => by
  rcases List.mem_cons.mp hx with rfl | hx
  · exact h1
  · exact h2 x hx
theorem Ch8.up (C : Ch8 cs) : ∀ c ∈ cs, ¬ c < 0 ∧ ¬ (65535 : Int32) < c := fun c hc => ⟨(C c hc).1, fun q => (C c hc).2 (by rw [Int32.lt_iff_toInt_lt] at q ⊢; have e1 : (65535 : Int32).toInt = 65535 := rfl; have e2 : (255 : Int32).toInt = 255 := rfl; omega)⟩
theorem Ch8.getD (C : Ch8 cs) (i : Nat) : ¬ cs.getD i 0 < 0 ∧ ¬ (255 : Int32) < cs.getD i 0 := by
  rw [List.getD_eq_getElem?_getD]
  cases h : cs[i]? with
  | none => exact ⟨by decide, by decide⟩
  | some x => exact C x (List.mem_of_getElem? h)
theorem Ch8.set {x : Int32} (C : Ch8 cs) (hx : ¬ x < 0 ∧ ¬ (255 : Int32) < x) (i : Nat) : Ch8 (cs.set i x) := fun c hc => by
  rcases List.mem_or_eq_of_mem_set hc with h | rfl
  · exact C c h
  · exact hx
theorem and255 (x : Int32) : ¬ (x &&& (255 : Int32)) < 0 ∧ ¬ (255 : Int32) < (x &&& (255 : Int32)) := by
  have q := c_and x 255 (by decide)
  have e1 : (255 : Int32).toInt = 255 := rfl
  have e0 : (0 : Int32).toInt = 0 := rfl
  rw [Int32.lt_iff_toInt_lt, Int32.lt_iff_toInt_lt, e0]
  omega
theorem nar_char {c : Int32} (h : ¬ c < 0 ∧ ¬ (255 : Int32) < c) : nar .char c = c := by
  have h1 := h.1
  have h2 := h.2
  rw [Int32.lt_iff_toInt_lt] at h1 h2
  have e1 : (255 : Int32).toInt = 255 := rfl
  have e0 : (0 : Int32).toInt = 0 := rfl
  have q := c_i2c c
  apply Int32.toInt_inj.mp
  show c.toUInt32.toUInt16.toUInt32.toInt32.toInt = c.toInt
  omega
theorem i2c_id {c : Int32} (h : ¬ c < 0 ∧ ¬ (255 : Int32) < c) : c.toUInt32.toUInt16.toUInt32.toInt32 = c := nar_char h
theorem nar_byte (c : Int32) : nar .byte c.toInt8.toInt32 = c.toInt8.toInt32 := by
  show c.toInt8.toInt32.toInt8.toInt32 = c.toInt8.toInt32
  simp
end St
end Jvm.OwnKit
namespace Jvm.OwnKit
open Sem ClassFile Op Lib Bundle Jvm.Stand Jvm.Free Jvm.LawKit Jvm.RoadKit
section En
variable {Z : State} {args : Array Value} {a b : Addr} {u : Term}
/-- the case's words on an array's elements, from place i on: ints -/
def Els (args : Array Value) (Z : State) (t : Term) : Nat → List Int32 → Prop
  | _, [] => True
  | i, x :: r => (Cond.eq (.elem t (.int (Int32.ofNat i))) (.int x)).value args Z none Z [] = some true ∧ Els args Z t (i + 1) r
theorem arrayAt_cell {cl : Cell} (h : Z.arrayAt? a = some cl) : Z.heap[a]? = some cl := by
  simp only [State.arrayAt?, Option.bind_eq_bind, Option.bind_eq_some_iff] at h
  obtain ⟨x, hx, h2⟩ := h
  split at h2
  · obtain ⟨k, -, h3⟩ := h2; cases h3
  · obtain ⟨k, hk, h3⟩ := h2
    split at h3
    · cases h3; exact hx
    · cases h3
theorem els_has {t : Term} {cl : Cell} (ev : t.eval args Z none [] Z = some (.ref b)) (ha : Z.arrayAt? b = some cl) (h31 : cl.slots.size < 2 ^ 31) : ∀ (bs : List Int32) (i : Nat), i + bs.length ≤ cl.slots.size → Els args Z t i bs → HasL cl i (bs.map Value.int)
  | [], _, _, _ => trivial
  | x :: r, i, hi, ⟨h1, h2⟩ => by
    have e1 := eqv_i (Term.int_eval x) h1
    have hlt : i < cl.slots.size := by simp only [List.length_cons] at hi; omega
    rw [SBG.elem_at (ix := .int (Int32.ofNat i)) ev ha hlt h31 rfl] at e1
    exact ⟨e1, els_has ev ha h31 r (i + 1) (by simp only [List.length_cons] at hi; omega) h2⟩
/-- a String that the case's words spell -/
theorem str_start (hf : Fit Z) {z : Int32} {cs : List Int32} (hE : (Cond.exactly u "java/lang/String").value args Z none Z [] = some true) (hC : (Cond.eq (.field u "java/lang/String" "coder" "B") (.int 0)).value args Z none Z [] = some true) (hA : (Cond.arrayOf (.field u "java/lang/String" "value" "[B") .byte).value args Z none Z [] = some true)
    (hL : (Cond.eq (.length (.field u "java/lang/String" "value" "[B")) (.int z)).value args Z none Z [] = some true) (hz : z = Int32.ofNat cs.length) (hle : cs.length ≤ 4000) (hels : Els args Z (.field u "java/lang/String" "value" "[B") 0 (cs.map fun c => c.toInt8.toInt32)) (hch : Ch8 cs) : ∃ a r, u.eval args Z none [] Z = some (.ref a) ∧ StrAt Z Z.heap a r cs := by
  obtain ⟨a, ea⟩ := exa_v hE
  have ec := eqv_i (Term.int_eval 0) hC
  have el := eqv_i (Term.int_eval z) hL
  obtain ⟨r, cl, er, hcl, hsz⟩ := Term.length_spec el
  have h31 := SBG.length_lt er hcl el
  have hc := arrayAt_cell hcl
  have A : Arr Z Z.heap r cl .byte := ⟨hc, Cond.arrayOf_spec (Cond.before_iff.mpr hA) er hc⟩
  have ez : cl.slots.size.toInt32 = z := by simpa using hsz.symm
  have hlen : (Int32.ofNat cs.length).toNatClampNeg = cs.length := by show (Int32.ofNat cs.length).toInt.toNat = _; rw [Int32.toInt_ofNat_small (by omega)]; rfl
  have hn0 : ¬ Int32.ofNat cs.length < 0 := Int32.ofNat_not_neg (show cs.length < 2 ^ 31 by omega)
  have hs : cl.slots.size = cs.length := by
    have q : (cl.slots.size.toInt32).toNatClampNeg = cl.slots.size := by show (Int32.ofNat cl.slots.size).toInt.toNat = _; rw [Int32.toInt_ofNat_small h31]; rfl
    rw [← q, ez, hz, hlen]
  subst hz
  refine ⟨a, r, ea, Exa.start ea hE, Fld.start (by simpa [Term.eval, ea] using ec), Fld.start (by simpa [Term.eval, ea] using er), ⟨cl.cls, ?_⟩, hch, hle⟩
  exact Arv.start hf A h31 ez hn0 (by rw [hlen]; simp) (els_has er hcl h31 _ 0 (by simp [hs]) hels)
/-- a field of an object that the case's words name -/
theorem fld_start {C nm d : String} {v : Value} (ea : u.eval args Z none [] Z = some (.ref a)) (ev : (Term.field u C nm d).eval args Z none [] Z = some v) : Fld Z Z.heap a C nm d v := Fld.start (by simpa [Term.eval, ea] using ev)
theorem eqv_r {X F : Term} {idx : List Nat} (hF : F.eval args Z none idx Z = some (.ref a)) (h : (Cond.eq X F).value args Z none Z idx = some true) : X.eval args Z none idx Z = some (.ref a) := by
  obtain ⟨x, y', e1, e2, k1, k2⟩ := cmp_v (Or.inl h)
  cases hF.symm.trans e2
  rw [e1]
  cases x with
  | ref q => simp only [Cond.value, e1, hF] at h; simpa using h
  | null => simp only [Cond.value, e1, hF] at h; simp at h
  | int q => obtain ⟨z, hz⟩ := k1; cases hz
  | long q => obtain ⟨z, hz⟩ := k1; cases hz
  | float q => obtain ⟨z, hz⟩ := k1; cases hz
  | double q => obtain ⟨z, hz⟩ := k1; cases hz
  | retAddr q => simp [Kin, Value.isRef] at k1
/-- the case's words on an array's elements, from place i on: objects -/
def Elr (args : Array Value) (Z : State) (t : Term) : Nat → List (Term × Addr) → Prop
  | _, [] => True
  | i, x :: r => ((Cond.eq (.elem t (.int (Int32.ofNat i))) x.1).value args Z none Z [] = some true ∧ x.1.eval args Z none [] Z = some (.ref x.2)) ∧ Elr args Z t (i + 1) r
theorem elr_has {t : Term} {cl : Cell} (ev : t.eval args Z none [] Z = some (.ref b)) (ha : Z.arrayAt? b = some cl) (h31 : cl.slots.size < 2 ^ 31) : ∀ (bs : List (Term × Addr)) (i : Nat), i + bs.length ≤ cl.slots.size → Elr args Z t i bs → HasL cl i (bs.map fun x => Value.ref x.2)
  | [], _, _, _ => trivial
  | x :: r, i, hi, ⟨⟨h1, h1'⟩, h2⟩ => by
    have e1 := eqv_r h1' h1
    have hlt : i < cl.slots.size := by simp only [List.length_cons] at hi; omega
    rw [SBG.elem_at (ix := .int (Int32.ofNat i)) ev ha hlt h31 rfl] at e1
    exact ⟨e1, elr_has ev ha h31 r (i + 1) (by simp only [List.length_cons] at hi; omega) h2⟩
/-- an array of objects that the case's words tell -/
theorem arr_start (hf : Fit Z) {z : Int32} {C ad : String} {bs : List (Term × Addr)} (hE : (Cond.exactly u ad).value args Z none Z [] = some true) (hA : (Cond.arrayOf u (.object C)).value args Z none Z [] = some true) (hL : (Cond.eq (.length u) (.int z)).value args Z none Z [] = some true) (hz : z = Int32.ofNat bs.length) (hle : bs.length ≤ 4000) (hels : Elr args Z u 0 bs) :
    ∃ a k, u.eval args Z none [] Z = some (.ref a) ∧ Exa Z Z.heap a ad ∧ Arv Z Z.heap a k (.object C) z (bs.map fun x => Value.ref x.2) .null := by
  have el := eqv_i (Term.int_eval z) hL
  obtain ⟨r, cl, er, hcl, hsz⟩ := Term.length_spec el
  have h31 := SBG.length_lt er hcl el
  have hc := arrayAt_cell hcl
  have A : Arr Z Z.heap r cl (.object C) := ⟨hc, Cond.arrayOf_spec (Cond.before_iff.mpr hA) er hc⟩
  have ez : cl.slots.size.toInt32 = z := by simpa using hsz.symm
  have hlen : (Int32.ofNat bs.length).toNatClampNeg = bs.length := by show (Int32.ofNat bs.length).toInt.toNat = _; rw [Int32.toInt_ofNat_small (by omega)]; rfl
  have hn0 : ¬ Int32.ofNat bs.length < 0 := Int32.ofNat_not_neg (show bs.length < 2 ^ 31 by omega)
  have hs : cl.slots.size = bs.length := by
    have q : (cl.slots.size.toInt32).toNatClampNeg = cl.slots.size := by show (Int32.ofNat cl.slots.size).toInt.toNat = _; rw [Int32.toInt_ofNat_small h31]; rfl
    rw [← q, ez, hz, hlen]
  subst hz
  exact ⟨r, cl.cls, er, Exa.start er hE, Arv.start hf A h31 ez hn0 (by rw [hlen]; simp) (elr_has er hcl h31 _ 0 (by simp [hs]) hels)⟩
end En
end Jvm.OwnKit
namespace Jvm.OwnKit
open Sem ClassFile Op Lib Bundle Jvm.Stand Jvm.Free Jvm.LawKit Jvm.RoadKit
theorem idxn (x n : Int32) (d : Int) (hd : n.toInt = d) (h0 : 0 < d) : ¬ ((x &&& (2147483647 : Int32)) % n) < 0 ∧ ((x &&& (2147483647 : Int32)) % n) < n := by
  have q := c_and x 2147483647 (by decide)
  have r := (c_irem (x &&& 2147483647) n d hd).1 q.1
  rw [Int32.lt_iff_toInt_lt, Int32.lt_iff_toInt_lt, r, hd]
  have e0 : (0 : Int32).toInt = 0 := rfl
  have l1 := Int.emod_nonneg (x &&& 2147483647).toInt (show d ≠ 0 by omega)
  have l2 := Int.emod_lt_of_pos (x &&& 2147483647).toInt h0
  omega
theorem natn {j n : Int32} {d : Nat} (hd : n.toInt = (d : Int)) (h : ¬ j < 0 ∧ j < n) : j.toNatClampNeg < d := by
  have h1 := h.1
  have h2 := h.2
  rw [Int32.lt_iff_toInt_lt] at h1 h2
  have e0 : (0 : Int32).toInt = 0 := rfl
  show j.toInt.toNat < d
  omega
theorem map_getD (cs : List Int32) (i : Nat) : (cs.map Value.int).getD i (.int 0) = .int (cs.getD i 0) := by
  simp only [List.getD_eq_getElem?_getD, List.getElem?_map]
  cases cs[i]? <;> rfl
theorem and3 (x : Int32) : (x &&& 3) = 0 ∨ (x &&& 3) = 1 ∨ (x &&& 3) = 2 ∨ (x &&& 3) = 3 := by
  have q := c_and x 3 (by decide)
  have e3 : (3 : Int32).toInt = 3 := rfl
  rw [e3] at q
  have e : (x &&& 3).toInt = 0 ∨ (x &&& 3).toInt = 1 ∨ (x &&& 3).toInt = 2 ∨ (x &&& 3).toInt = 3 := by omega
  rcases e with e | e | e | e
  · exact Or.inl (Int32.toInt_inj.mp (by rw [e]; rfl))
  · exact Or.inr (Or.inl (Int32.toInt_inj.mp (by rw [e]; rfl)))
  · exact Or.inr (Or.inr (Or.inl (Int32.toInt_inj.mp (by rw [e]; rfl))))
  · exact Or.inr (Or.inr (Or.inr (Int32.toInt_inj.mp (by rw [e]; rfl))))
/-- a small number is one of the first d -/
theorem below_lit {j n : Int32} {d : Nat} (hd : n.toInt = (d : Int)) (h : ¬ j < 0 ∧ j < n) : ∃ i, i < d ∧ j = Int32.ofNat i := by
  refine ⟨j.toNatClampNeg, natn hd h, ?_⟩
  have h1 := h.1
  rw [Int32.lt_iff_toInt_lt] at h1
  have e0 : (0 : Int32).toInt = 0 := rfl
  have hb := j.toInt_lt
  apply Int32.toInt_inj.mp
  show j.toInt = (Int32.ofNat j.toInt.toNat).toInt
  rw [Int32.toInt_ofNat_small (by omega)]
  omega
end Jvm.OwnKit
namespace Jvm.OwnKit
open Sem ClassFile Op Lib Bundle Jvm.Stand Jvm.Free Jvm.LawKit Jvm.RoadKit
section M
variable {p : Program} {l : Launch} {e : Env} {R : Room} {s : State} {m : MethodId} {args : Array Value} {below : List Frame} {meth : Method} {c : Code} {Z : State} {a0 : Array Value} {EL : List (String × Nat)} {n0 : Nat} {own : String} {vm0 vm1 : Vm} {T T' : State} {h h' : Heap} {L L' : List Loc} {k n k' n' : Nat} {ss ss' : List Addr} {P : Outcome → State → Prop} {U V : State} {pc : Nat} {Ls : Array Slot} {rest : List Value}
/-- anewarray -/
theorem Wk.newR (W : Wk p l e R s m args below meth c Z a0 EL n0 own vm0 T h L k n ss) {C : String} {index : Nat} (w1 : (Cond.classLink own index C).before a0 Z = true) (w2 : (Cond.arrayOver (.object C)).before a0 Z = true) (hd : decode c.code pc = .ok (.anewarray index, 3)) {z : Int32} (hz : ¬ z < 0) {cap : Nat} (hcap : z.toNatClampNeg ≤ cap) (hb : cap * 8 ≤ 536870912) (hk : k + 1 = k') (hn : n + cap = n') (hc : k' ≤ R.cells) (hl : n' ≤ R.slots)
    (K : ∀ T' h' b kA, b = h.size → n0 ≤ b → Wk p l e R s m args below meth c Z a0 EL n0 own vm0 T' h' L k' n' (b :: ss) → Ext h h' → Arv Z h' b kA (.object C) z (List.replicate cap .null) .null → Ovr Z kA C → Go p e below P (T'.setTop (mkF m (pc + 3) Ls (.ref b :: rest)))) : Go p e below P (T.setTop (mkF m pc Ls (.int z :: rest))) := by
  subst hk hn
  obtain ⟨T', h', cA, X', e', E, A, O, st⟩ := RoadKit.newR W.X W.ex W.hZ W.ho w1 w2 W.hp (g := mkF m pc Ls (.int z :: rest)) rfl hd rfl hz hcap hb hc hl
  have W' := W.stepE X' e' E
  exact Go.st st (K T' h' _ cA rfl W.n0le (W'.cons ((Safe.new (Nat.le_refl _)).ext E W.cv) A.lt) E ((Arv.new A hz).pad (pad_rep [] _ cap)) O)
/-- aastore -/
theorem Wk.stR (W : Wk p l e R s m args below meth c Z a0 EL n0 own vm0 T h L k n ss) {a y : Addr} {kA : ClassId} {C : String} {z j : Int32} {vs : List Value} {dv : Value} (F : Arv Z h a kA (.object C) z vs dv) (O : Ovr Z kA C) (I : Ins Z h y C true) (q : ¬ j < 0 ∧ j < z) (i : Nat) (hi : j.toNatClampNeg = i) (hl : i < vs.length) (hs : a ∈ ss) (ha : n0 ≤ a) (hd : decode c.code pc = .ok (.aastore, 1))
    (K : ∀ T' h' L', Wk p l e R s m args below meth c Z a0 EL n0 own vm0 T' h' L' k n ss → Wr h h' a j.toNatClampNeg (.ref y) → Arv Z h' a kA (.object C) z (vs.set i (.ref y)) dv → Go p e below P (T'.setTop (mkF m (pc + 1) Ls rest))) : Go p e below P (T.setTop (mkF m pc Ls (.ref y :: .int j :: .ref a :: rest))) := by
  obtain ⟨cl, A, q1, S, N, H, Gs⟩ := F
  obtain ⟨T', h', X', e', w', st⟩ := RoadKit.stR W.X W.ex W.hZ W.hp A (inb S q) rfl (Sto.ofV A q1 O I) (g := mkF m pc Ls (.ref y :: .int j :: .ref a :: rest)) rfl rfl hd
  exact Go.st st (K T' h' _ (W.stepW X' e' w' hs ha) w' (Arv.set A q1 S N H Gs rfl w' i hi hl))
/-- System.arraycopy of a primitive kind -/
theorem Wk.cpP (W : Wk p l e R s m args below meth c Z a0 EL n0 own vm0 T h L k n ss) {index : Nat} (w1 : (Cond.methodLink own index Jvm.Stand.acN).before a0 Z = true) (w2 : (Cond.native Jvm.Stand.acN).before a0 Z = true) (w3 : (Cond.static Jvm.Stand.acN).before a0 Z = true) (w4 : (Cond.initialized "java/lang/System").before a0 Z = true)
    {a b : Addr} {kA kB : ClassId} {ty : FieldType} {z z' sp dp nn : Int32} {vs vd us : List Value} {dv dd : Value} (A : Arv Z h a kA ty z vs dv) (B : Arv Z h b kB ty z' vd dd) (hty : refKind ty = false) (h1 : ¬ sp < 0) (h2 : ¬ dp < 0) (h3 : ¬ nn < 0) (h4 : sp.toNatClampNeg + nn.toNatClampNeg ≤ z.toNatClampNeg) (h5 : dp.toNatClampNeg + nn.toNatClampNeg ≤ z'.toNatClampNeg)
    (hus : us = (List.range nn.toNatClampNeg).map fun i => vs.getD (sp.toNatClampNeg + i) dv) (hlv : dp.toNatClampNeg + nn.toNatClampNeg ≤ vd.length) (hs : b ∈ ss) (ge : n0 ≤ b) (hsz : Ls.size = c.maxLocals) (hd : decode c.code pc = .ok (.invokestatic index, 3)) (hf : 1 ≤ R.frames) {Wd : Nat} (hW : (rest.map fun v => v.category).sum ≤ Wd) (hlo : Wd + (nativeFrameWords "java/lang/System" "arraycopy" 5 + 11) ≤ R.locals)
    (K : ∀ T' h' L', Wk p l e R s m args below meth c Z a0 EL n0 own vm0 T' h' L' k n ss → Keep h h' [b] → Arv Z h' b kB ty z' (vd.take dp.toNatClampNeg ++ us ++ vd.drop (dp.toNatClampNeg + nn.toNatClampNeg)) dd → Go p e below P (T'.setTop (mkF m (pc + 3) Ls rest))) : Go p e below P (T.setTop (mkF m pc Ls (.int nn :: .int dp :: .ref b :: .int sp :: .ref a :: rest))) := by
  obtain ⟨T', h', L', X', e', N', K', B', st⟩ := RoadKit.cpA W.X W.ex W.hZ W.ho w1 w2 w3 w4 W.hp A B (Or.inl ⟨rfl, hty⟩) h1 h2 h3 h4 h5 hus hlv W.fr ge (g := mkF m pc Ls (.int nn :: .int dp :: .ref b :: .int sp :: .ref a :: rest)) rfl hsz rfl hd hf (W := Wd) (by show 2 * 0 + _ ≤ _; omega) hlo
  exact Go.st st (K T' h' L' (W.stepK X' e' K' (allS hs all0) (allS ge all0) N') K' B')
/-- a private method, by invokevirtual -/
theorem Wk.callP (W : Wk p l e R s m args below meth c Z a0 EL n0 own vm0 T h L k n ss) {D : String} {index : Nat} {y : MethodName} {bytes : ByteArray} {maxL : Nat} {ret : Option FieldType} {rm : Room} {as' : Array Value} {Q : Option Value → Vm → Heap → Prop} {Wd : Nat} {st argsL : List Value} {a : Addr} (w1 : (Cond.methodLink own index y).before a0 Z = true) (w2 : (Cond.privateMethod y).before a0 Z = true) (w5 : (Cond.selects y.cls y y).before a0 Z = true) (w6 : (Cond.instanceMethod y).before a0 Z = true) (w3 : (Cond.initialized y.cls).before a0 Z = true) (w4 : (Cond.code y bytes maxL ret).before a0 Z = true) (hy : y.cls ≠ "java/lang/invoke/MethodHandle" ∧ y.cls ≠ "java/lang/invoke/VarHandle")
    (E : Exa Z h a D) (C : Ct l Z EL n0 [] y bytes maxL ret rm as' ss' h Q) (hss : ∀ x ∈ ss', x ∈ ss) (hf : rm.frames + 1 ≤ R.frames) (hl : Wd + (maxL + 11) + rm.locals ≤ R.locals) (hk : k + rm.cells = k') (hn : n + rm.slots = n') (hc : k' ≤ R.cells) (hs : n' ≤ R.slots) (hsz : Ls.size = c.maxLocals) (ha : (Value.ref a :: argsL).toArray = as') (hlen : ∀ sig, parseMethodDescriptor y.desc = some sig → argsL.length = sig.parameters.length) (hst : st = argsL.reverse ++ .ref a :: rest) (hW : (rest.map fun v => v.category).sum ≤ Wd) (hd : decode c.code pc = .ok (.invokevirtual index, 3))
    (K : ∀ v vm1 T' h' L', Wk p l e R s m args below meth c Z a0 EL n0 own vm1 T' h' L' k' n' ss → Q v vm1 h' → Go p e below P (T'.setTop (mkF m (pc + 3) Ls (v.toList ++ rest)))) : Go p e below P (T.setTop (mkF m pc Ls st)) := by
  subst hk hn ha hst
  obtain ⟨cell, c1, c2⟩ := E.cell
  obtain ⟨v, vm₁, B, -, X', S', g', ⟨L', ⟨q1, q2, q3⟩, q4, q5, q6, q7⟩, stp⟩ := W.X.privateBackS W.ex W.ho (mvT W.hZ w1) (mvT W.hZ w6) (mvT W.hZ w5) (Cond.privateMethod_at (mvP W.hZ w2 (args := #[]))) (mvT W.hZ w4) hy (C.back (len := 3) (Wd := Wd) W w4 w3 hss hf hl) (g := mkF m pc Ls (argsL.reverse ++ .ref a :: rest)) rfl hsz (Steps.refl _) (a := a) (cell := cell) (by rw [W.hp]; exact c1) c2 (argsL := argsL) (rest := rest) hlen rfl (by show 2 * 0 + _ ≤ _; omega) hd (fun _ _ => ⟨rfl, W.hp, hc, hs⟩)
  exact Go.tr stp (K v _ _ _ _ (W.behind (n1 := 0) X' S' g' q4 q2 q3 q7 q5 q6) q1)
/-- an interface's method -/
theorem Wk.callF (W : Wk p l e R s m args below meth c Z a0 EL n0 own vm0 T h L k n ss) {D : String} {index count : Nat} {x y : MethodName} {bytes : ByteArray} {maxL : Nat} {ret : Option FieldType} {rm : Room} {as' : Array Value} {Q : Option Value → Vm → Heap → Prop} {Wd : Nat} {st argsL : List Value} {a : Addr} (w1 : (Cond.methodLink own index x).before a0 Z = true) (w2 : (Cond.declares x).before a0 Z = true) (w7 : (Cond.interfaceMethod x.cls x.cls x.name x.desc).before args (s.setVm vm0) = true) (w5 : (Cond.selects D x y).before a0 Z = true) (w6 : (Cond.instanceMethod y).before a0 Z = true) (w8 : (Cond.publicMethod y).before a0 Z = true) (w9 : (Cond.unhidden D x.name x.desc).before a0 Z = true) (w10 : (Cond.castable D x.cls).before a0 Z = true) (w3 : (Cond.initialized y.cls).before a0 Z = true) (w4 : (Cond.code y bytes maxL ret).before a0 Z = true) (hy : x.cls ≠ "java/lang/invoke/MethodHandle" ∧ x.cls ≠ "java/lang/invoke/VarHandle")
    (E : Exa Z h a D) (C : Ct l Z EL n0 [] y bytes maxL ret rm as' ss' h Q) (hss : ∀ x ∈ ss', x ∈ ss) (hf : rm.frames + 1 ≤ R.frames) (hl : Wd + (maxL + 11) + rm.locals ≤ R.locals) (hk : k + rm.cells = k') (hn : n + rm.slots = n') (hc : k' ≤ R.cells) (hs : n' ≤ R.slots) (hsz : Ls.size = c.maxLocals) (ha : (Value.ref a :: argsL).toArray = as') (hlen : ∀ sig, parseMethodDescriptor x.desc = some sig → argsL.length = sig.parameters.length) (hst : st = argsL.reverse ++ .ref a :: rest) (hW : (rest.map fun v => v.category).sum ≤ Wd) (hd : decode c.code pc = .ok (.invokeinterface index count, 5))
    (K : ∀ v vm1 T' h' L', Wk p l e R s m args below meth c Z a0 EL n0 own vm1 T' h' L' k' n' ss → Q v vm1 h' → Go p e below P (T'.setTop (mkF m (pc + 5) Ls (v.toList ++ rest)))) : Go p e below P (T.setTop (mkF m pc Ls st)) := by
  subst hk hn ha hst
  obtain ⟨cB, kB, i1, i2, i3⟩ := isOf W.hZ W.hp E
  obtain ⟨v, vm₁, B, -, X', S', g', ⟨L', ⟨q1, q2, q3⟩, q4, q5, q6, q7⟩, stp⟩ := W.X.interfaceBackS W.ex W.ho (mvT W.hZ w1) (mvT W.hZ w2) w7 (mvT W.hZ w5) (mvT W.hZ w6) (mvT W.hZ w8) (mvT W.hZ w9) (mvT W.hZ w10) hy (C.back (len := 5) (Wd := Wd) W w4 w3 hss hf hl) i1 i2 i3 (g := mkF m pc Ls (argsL.reverse ++ .ref a :: rest)) rfl hsz (Steps.refl _) (argsL := argsL) (rest := rest) hlen rfl (by show 2 * 0 + _ ≤ _; omega) hd (fun _ _ => ⟨rfl, W.hp, hc, hs⟩)
  exact Go.tr stp (K v _ _ _ _ (W.behind (n1 := 0) X' S' g' q4 q2 q3 q7 q5 q6) q1)
end M
end Jvm.OwnKit
namespace Jvm.Pilot.@@N@@
open Jvm Jvm.ClassFile Sem Op Lib Jvm.Free Jvm.Stand Jvm.LawKit Jvm.RoadKit Jvm.OwnKit Bundle Jvm.Pilot.@@N@@.Jvm.D
def Ctx (Z : State) (a0 : Array Value) (n0 : Nat) (g1 : Int32) (gf : Value) (ea : Addr) (kea : ClassId) : Prop := (∀ d ∈ tables_1, d.before a0 Z = true) ∧ EW Z a0 consts_1 ∧ Sta Z Z.heap "java/lang/String" "COMPACT_STRINGS" "Z" (.int g1) ∧ ¬ g1 = 0 ∧ Sta Z Z.heap "jdk/internal/util/Preconditions" "SIOOBE_FORMATTER" "Ljava/util/function/BiFunction;" gf ∧ gf.isRef = true ∧ (Sta Z Z.heap "java/util/ArrayList" "DEFAULTCAPACITY_EMPTY_ELEMENTDATA" "[Ljava/lang/Object;" (.ref ea)) ∧ (Arv Z Z.heap ea kea (.object "java/lang/Object") 0 [] .null) ∧ True
theorem Ctx.words {Z : State} {a0 : Array Value} {n0 : Nat} {g1 : Int32} {gf : Value} {ea : Addr} {kea : ClassId} (cx : Ctx Z a0 n0 g1 gf ea kea) : (∀ d ∈ tables_1, d.before a0 Z = true) := cx.1
theorem Ctx.ew {Z : State} {a0 : Array Value} {n0 : Nat} {g1 : Int32} {gf : Value} {ea : Addr} {kea : ClassId} (cx : Ctx Z a0 n0 g1 gf ea kea) : EW Z a0 consts_1 := cx.2.1
theorem Ctx.cmp {Z : State} {a0 : Array Value} {n0 : Nat} {g1 : Int32} {gf : Value} {ea : Addr} {kea : ClassId} (cx : Ctx Z a0 n0 g1 gf ea kea) : Sta Z Z.heap "java/lang/String" "COMPACT_STRINGS" "Z" (.int g1) := cx.2.2.1
theorem Ctx.g1 {Z : State} {a0 : Array Value} {n0 : Nat} {g1 : Int32} {gf : Value} {ea : Addr} {kea : ClassId} (cx : Ctx Z a0 n0 g1 gf ea kea) : ¬ g1 = 0 := cx.2.2.2.1
theorem Ctx.fmt {Z : State} {a0 : Array Value} {n0 : Nat} {g1 : Int32} {gf : Value} {ea : Addr} {kea : ClassId} (cx : Ctx Z a0 n0 g1 gf ea kea) : Sta Z Z.heap "jdk/internal/util/Preconditions" "SIOOBE_FORMATTER" "Ljava/util/function/BiFunction;" gf := cx.2.2.2.2.1
theorem Ctx.fref {Z : State} {a0 : Array Value} {n0 : Nat} {g1 : Int32} {gf : Value} {ea : Addr} {kea : ClassId} (cx : Ctx Z a0 n0 g1 gf ea kea) : gf.isRef = true := cx.2.2.2.2.2.1
theorem Ctx.stea {Z : State} {a0 : Array Value} {n0 : Nat} {g1 : Int32} {gf : Value} {ea : Addr} {kea : ClassId} (cx : Ctx Z a0 n0 g1 gf ea kea) : (Sta Z Z.heap "java/util/ArrayList" "DEFAULTCAPACITY_EMPTY_ELEMENTDATA" "[Ljava/lang/Object;" (.ref ea)) := cx.2.2.2.2.2.2.1
theorem Ctx.vea {Z : State} {a0 : Array Value} {n0 : Nat} {g1 : Int32} {gf : Value} {ea : Addr} {kea : ClassId} (cx : Ctx Z a0 n0 g1 gf ea kea) : (Arv Z Z.heap ea kea (.object "java/lang/Object") 0 [] .null) := cx.2.2.2.2.2.2.2.1
theorem Ctx.w {Z : State} {a0 : Array Value} {n0 : Nat} {g1 : Int32} {gf : Value} {ea : Addr} {kea : ClassId} (cx : Ctx Z a0 n0 g1 gf ea kea) (k : Nat) {d : Jvm.Cond} (hd : tables_1[k]? = some d) : d.before a0 Z = true := cx.1 _ (List.mem_of_getElem? hd)
theorem Ctx.str {Z : State} {a0 : Array Value} {n0 : Nat} {g1 : Int32} {gf : Value} {ea : Addr} {kea : ClassId} (cx : Ctx Z a0 n0 g1 gf ea kea) : ∀ a ∈ Bundle.stringAtoms, a.before a0 Z = true := fun d hd => cx.1 d ((by decide +kernel : ∀ d ∈ Bundle.stringAtoms, d ∈ tables_1) d hd)
theorem Ctx.vw {Z : State} {a0 : Array Value} {n0 : Nat} {g1 : Int32} {gf : Value} {ea : Addr} {kea : ClassId} (cx : Ctx Z a0 n0 g1 gf ea kea) : ∀ d ∈ StrChars.Road.words, d.before a0 Z = true := fun d hd => cx.1 d ((by decide +kernel : ∀ d ∈ StrChars.Road.words, d ∈ tables_1) d hd)
theorem Ctx.lw {Z : State} {a0 : Array Value} {n0 : Nat} {g1 : Int32} {gf : Value} {ea : Addr} {kea : ClassId} (cx : Ctx Z a0 n0 g1 gf ea kea) : ∀ d ∈ StrChars.Road.wordsLen, d.before a0 Z = true := fun d hd => cx.1 d ((by decide +kernel : ∀ d ∈ StrChars.Road.wordsLen, d ∈ tables_1) d hd)
theorem Ctx.qw {Z : State} {a0 : Array Value} {n0 : Nat} {g1 : Int32} {gf : Value} {ea : Addr} {kea : ClassId} (cx : Ctx Z a0 n0 g1 gf ea kea) : ∀ d ∈ StrChars.Road.wordsEq, d.before a0 Z = true := fun d hd => cx.1 d ((by decide +kernel : ∀ d ∈ StrChars.Road.wordsEq, d ∈ tables_1) d hd)
def chV (x : Int32) : Int32 := if (x &&& 256) = 0 then x &&& 255 else 61
theorem chV_rng (x : Int32) : ¬ chV x < 0 ∧ ¬ (255 : Int32) < chV x := by
  unfold chV
  split
  · exact and255 x
  · decide
def fi : List Int32 → Nat
  | [] => 0
  | c :: r => if c = 61 then 0 else fi r + 1
def ixV (cs : List Int32) : Int32 := if fi cs < cs.length then Int32.ofNat (fi cs) else -1
theorem b61 {c : Int32} (r : ¬ c < 0 ∧ ¬ (255 : Int32) < c) : c.toInt8.toInt32 = 61 ↔ c = 61 := by
  constructor
  · intro q
    have r1 := r.1
    have r2 := r.2
    rw [Int32.lt_iff_toInt_lt] at r1 r2
    have e1 : (255 : Int32).toInt = 255 := rfl
    have e0 : (0 : Int32).toInt = 0 := rfl
    have q' := congrArg Int32.toInt q
    rw [Int8.toInt_toInt32, Int32.toInt_toInt8] at q'
    have e61 : (61 : Int32).toInt = 61 := rfl
    apply Int32.toInt_inj.mp
    rw [e61] at q' ⊢
    have : c.toInt.bmod (2 ^ 8) = c.toInt % 256 ∨ c.toInt.bmod (2^8) = c.toInt % 256 - 256 := by
      unfold Int.bmod; simp only []; split <;> simp
    omega
  · rintro rfl; rfl
theorem fi_le : (cs : List Int32) → fi cs ≤ cs.length
  | [] => Nat.le_refl _
  | c :: r => by
    have := fi_le r
    unfold fi
    split
    · exact Nat.zero_le _
    · simp; exact this
theorem ix_neg {cs : List Int32} (hl : cs.length ≤ 4) (q : ixV cs < 0) : cs.take (fi cs) = cs := by
  unfold ixV at q
  split at q
  · rename_i hlt
    exfalso
    have hk : fi cs < 4 := by omega
    generalize fi cs = k at q hk
    match k, hk with
    | 0, _ => exact absurd q (by decide)
    | 1, _ => exact absurd q (by decide)
    | 2, _ => exact absurd q (by decide)
    | 3, _ => exact absurd q (by decide)
  · rename_i hlt
    exact List.take_of_length_le (by omega)
theorem ix_pos {cs : List Int32} (q : ¬ ixV cs < 0) : ixV cs = Int32.ofNat (fi cs) ∧ fi cs < cs.length := by
  unfold ixV at q ⊢
  split at q
  · rename_i hlt; exact ⟨if_pos hlt, hlt⟩
  · exact absurd (by decide) q
theorem ix_nil {cs : List Int32} (hl : cs.length ≤ 4) (q : ¬ (0 : Int32) < Int32.ofNat cs.length) : ixV cs = -1 := by
  match cs, hl with
  | [], _ => rfl
  | [_], _ => exact absurd (show (0 : Int32) < 1 by decide) q
  | [_, _], _ => exact absurd (show (0 : Int32) < 2 by decide) q
  | [_, _, _], _ => exact absurd (show (0 : Int32) < 3 by decide) q
  | [_, _, _, _], _ => exact absurd (show (0 : Int32) < 4 by decide) q
theorem ix_nil' {cs : List Int32} (hl : cs.length ≤ 4) (q : ¬ (0 : Int32) < Int32.ofNat cs.length) : ixV cs = -1 := ix_nil hl q
theorem len_lt {cs : List Int32} (hl : cs.length ≤ 4) {k : Nat} (hk : k < cs.length) : Int32.ofNat k < Int32.ofNat cs.length ∧ ¬ Int32.ofNat k < 0 := by
  rw [Int32.lt_iff_toInt_lt, Int32.lt_iff_toInt_lt, Int32.toInt_ofNat_small (by omega), Int32.toInt_ofNat_small (by omega)]
  have e0 : (0 : Int32).toInt = 0 := rfl
  omega
theorem take_range {cs : List Int32} {k : Nat} (hk : k ≤ cs.length) : ((cs.take k).map fun c => c.toInt8.toInt32).map Value.int = (List.range k).map fun i => ((cs.map fun c => c.toInt8.toInt32).map Value.int).getD (0 + i) (.int 0) := by
  apply List.ext_getElem
  · simp; omega
  · intro i h1 h2
    simp at h1 h2
    simp [List.getD_eq_getElem?_getD, show i < cs.length by omega]
theorem len_take {cs : List Int32} {k : Nat} (hk : k ≤ cs.length) : (cs.take k).length = k := by simp; omega
theorem sub0_lt {x y : Int32} (q : y < x) : y < x - 0 := by simpa using q
theorem ne_lt {x y : Int32} (q : x < y) : ¬ x = y := fun e => Int32.lt_irrefl (e ▸ q)
theorem nlt_lt {x y : Int32} (q : x < y) : ¬ y < x := fun r => by
  rw [Int32.lt_iff_toInt_lt] at q r
  omega
theorem clampN {cs : List Int32} (hl : cs.length ≤ 4) : (Int32.ofNat cs.length).toNatClampNeg = cs.length := by
  show (Int32.ofNat cs.length).toInt.toNat = _
  rw [Int32.toInt_ofNat_small (by omega)]
  omega
theorem lt5 {i : Nat} (hi : i < 5) : i = 0 ∨ i = 1 ∨ i = 2 ∨ i = 3 ∨ i = 4 := by omega
theorem d1_0 : decode method_2_code 0 = .ok (.iload_n 0, 1) := by decide +kernel
theorem d1_1 : decode method_2_code 1 = .ok (.sipush 256, 3) := by decide +kernel
theorem d1_4 : decode method_2_code 4 = .ok (.iand, 1) := by decide +kernel
theorem d1_5 : decode method_2_code 5 = .ok (.ifCond .eq 6, 3) := by decide +kernel
theorem d1_8 : decode method_2_code 8 = .ok (.bipush 61, 2) := by decide +kernel
theorem d1_10 : decode method_2_code 10 = .ok (.ireturn, 1) := by decide +kernel
theorem d1_11 : decode method_2_code 11 = .ok (.iload_n 0, 1) := by decide +kernel
theorem d1_12 : decode method_2_code 12 = .ok (.sipush 255, 3) := by decide +kernel
theorem d1_15 : decode method_2_code 15 = .ok (.iand, 1) := by decide +kernel
theorem d1_16 : decode method_2_code 16 = .ok (.i2c, 1) := by decide +kernel
theorem d1_17 : decode method_2_code 17 = .ok (.ireturn, 1) := by decide +kernel
theorem d2_0 : decode method_3_code 0 = .ok (.iload_n 0, 1) := by decide +kernel
theorem d2_1 : decode method_3_code 1 = .ok (.ifCond .gt 14, 3) := by decide +kernel
theorem d2_4 : decode method_3_code 4 = .ok (.new 7, 3) := by decide +kernel
theorem d2_7 : decode method_3_code 7 = .ok (.dup, 1) := by decide +kernel
theorem d2_8 : decode method_3_code 8 = .ok (.iconst 0, 1) := by decide +kernel
theorem d2_9 : decode method_3_code 9 = .ok (.newarray .char, 2) := by decide +kernel
theorem d2_11 : decode method_3_code 11 = .ok (.invokespecial 9, 3) := by decide +kernel
theorem d2_14 : decode method_3_code 14 = .ok (.areturn, 1) := by decide +kernel
theorem d2_15 : decode method_3_code 15 = .ok (.iload_n 0, 1) := by decide +kernel
theorem d2_16 : decode method_3_code 16 = .ok (.iconst 1, 1) := by decide +kernel
theorem d2_17 : decode method_3_code 17 = .ok (.if_icmp .ne 18, 3) := by decide +kernel
theorem d2_20 : decode method_3_code 20 = .ok (.new 7, 3) := by decide +kernel
theorem d2_23 : decode method_3_code 23 = .ok (.dup, 1) := by decide +kernel
theorem d2_24 : decode method_3_code 24 = .ok (.iconst 1, 1) := by decide +kernel
theorem d2_25 : decode method_3_code 25 = .ok (.newarray .char, 2) := by decide +kernel
theorem d2_27 : decode method_3_code 27 = .ok (.dup, 1) := by decide +kernel
theorem d2_28 : decode method_3_code 28 = .ok (.iconst 0, 1) := by decide +kernel
theorem d2_29 : decode method_3_code 29 = .ok (.iload_n 1, 1) := by decide +kernel
theorem d2_30 : decode method_3_code 30 = .ok (.castore, 1) := by decide +kernel
theorem d2_31 : decode method_3_code 31 = .ok (.invokespecial 9, 3) := by decide +kernel
theorem d2_34 : decode method_3_code 34 = .ok (.areturn, 1) := by decide +kernel
theorem d2_35 : decode method_3_code 35 = .ok (.iload_n 0, 1) := by decide +kernel
theorem d2_36 : decode method_3_code 36 = .ok (.iconst 2, 1) := by decide +kernel
theorem d2_37 : decode method_3_code 37 = .ok (.if_icmp .ne 22, 3) := by decide +kernel
theorem d2_40 : decode method_3_code 40 = .ok (.new 7, 3) := by decide +kernel
theorem d2_43 : decode method_3_code 43 = .ok (.dup, 1) := by decide +kernel
theorem d2_44 : decode method_3_code 44 = .ok (.iconst 2, 1) := by decide +kernel
theorem d2_45 : decode method_3_code 45 = .ok (.newarray .char, 2) := by decide +kernel
theorem d2_47 : decode method_3_code 47 = .ok (.dup, 1) := by decide +kernel
theorem d2_48 : decode method_3_code 48 = .ok (.iconst 0, 1) := by decide +kernel
theorem d2_49 : decode method_3_code 49 = .ok (.iload_n 1, 1) := by decide +kernel
theorem d2_50 : decode method_3_code 50 = .ok (.castore, 1) := by decide +kernel
theorem d2_51 : decode method_3_code 51 = .ok (.dup, 1) := by decide +kernel
theorem d2_52 : decode method_3_code 52 = .ok (.iconst 1, 1) := by decide +kernel
theorem d2_53 : decode method_3_code 53 = .ok (.iload_n 2, 1) := by decide +kernel
theorem d2_54 : decode method_3_code 54 = .ok (.castore, 1) := by decide +kernel
theorem d2_55 : decode method_3_code 55 = .ok (.invokespecial 9, 3) := by decide +kernel
theorem d2_58 : decode method_3_code 58 = .ok (.areturn, 1) := by decide +kernel
theorem d2_59 : decode method_3_code 59 = .ok (.iload_n 0, 1) := by decide +kernel
theorem d2_60 : decode method_3_code 60 = .ok (.iconst 3, 1) := by decide +kernel
theorem d2_61 : decode method_3_code 61 = .ok (.if_icmp .ne 26, 3) := by decide +kernel
theorem d2_64 : decode method_3_code 64 = .ok (.new 7, 3) := by decide +kernel
theorem d2_67 : decode method_3_code 67 = .ok (.dup, 1) := by decide +kernel
theorem d2_68 : decode method_3_code 68 = .ok (.iconst 3, 1) := by decide +kernel
theorem d2_69 : decode method_3_code 69 = .ok (.newarray .char, 2) := by decide +kernel
theorem d2_71 : decode method_3_code 71 = .ok (.dup, 1) := by decide +kernel
theorem d2_72 : decode method_3_code 72 = .ok (.iconst 0, 1) := by decide +kernel
theorem d2_73 : decode method_3_code 73 = .ok (.iload_n 1, 1) := by decide +kernel
theorem d2_74 : decode method_3_code 74 = .ok (.castore, 1) := by decide +kernel
theorem d2_75 : decode method_3_code 75 = .ok (.dup, 1) := by decide +kernel
theorem d2_76 : decode method_3_code 76 = .ok (.iconst 1, 1) := by decide +kernel
theorem d2_77 : decode method_3_code 77 = .ok (.iload_n 2, 1) := by decide +kernel
theorem d2_78 : decode method_3_code 78 = .ok (.castore, 1) := by decide +kernel
theorem d2_79 : decode method_3_code 79 = .ok (.dup, 1) := by decide +kernel
theorem d2_80 : decode method_3_code 80 = .ok (.iconst 2, 1) := by decide +kernel
theorem d2_81 : decode method_3_code 81 = .ok (.iload_n 3, 1) := by decide +kernel
theorem d2_82 : decode method_3_code 82 = .ok (.castore, 1) := by decide +kernel
theorem d2_83 : decode method_3_code 83 = .ok (.invokespecial 9, 3) := by decide +kernel
theorem d2_86 : decode method_3_code 86 = .ok (.areturn, 1) := by decide +kernel
theorem d2_87 : decode method_3_code 87 = .ok (.new 7, 3) := by decide +kernel
theorem d2_90 : decode method_3_code 90 = .ok (.dup, 1) := by decide +kernel
theorem d2_91 : decode method_3_code 91 = .ok (.iconst 4, 1) := by decide +kernel
theorem d2_92 : decode method_3_code 92 = .ok (.newarray .char, 2) := by decide +kernel
theorem d2_94 : decode method_3_code 94 = .ok (.dup, 1) := by decide +kernel
theorem d2_95 : decode method_3_code 95 = .ok (.iconst 0, 1) := by decide +kernel
theorem d2_96 : decode method_3_code 96 = .ok (.iload_n 1, 1) := by decide +kernel
theorem d2_97 : decode method_3_code 97 = .ok (.castore, 1) := by decide +kernel
theorem d2_98 : decode method_3_code 98 = .ok (.dup, 1) := by decide +kernel
theorem d2_99 : decode method_3_code 99 = .ok (.iconst 1, 1) := by decide +kernel
theorem d2_100 : decode method_3_code 100 = .ok (.iload_n 2, 1) := by decide +kernel
theorem d2_101 : decode method_3_code 101 = .ok (.castore, 1) := by decide +kernel
theorem d2_102 : decode method_3_code 102 = .ok (.dup, 1) := by decide +kernel
theorem d2_103 : decode method_3_code 103 = .ok (.iconst 2, 1) := by decide +kernel
theorem d2_104 : decode method_3_code 104 = .ok (.iload_n 3, 1) := by decide +kernel
theorem d2_105 : decode method_3_code 105 = .ok (.castore, 1) := by decide +kernel
theorem d2_106 : decode method_3_code 106 = .ok (.dup, 1) := by decide +kernel
theorem d2_107 : decode method_3_code 107 = .ok (.iconst 3, 1) := by decide +kernel
theorem d2_108 : decode method_3_code 108 = .ok (.iload 4, 2) := by decide +kernel
theorem d2_110 : decode method_3_code 110 = .ok (.castore, 1) := by decide +kernel
theorem d2_111 : decode method_3_code 111 = .ok (.invokespecial 9, 3) := by decide +kernel
theorem d2_114 : decode method_3_code 114 = .ok (.areturn, 1) := by decide +kernel
theorem d3_0 : decode jdk_42_method_3_code 0 = .ok (.aload_n 0, 1) := by decide +kernel
theorem d3_1 : decode jdk_42_method_3_code 1 = .ok (.aload_n 1, 1) := by decide +kernel
theorem d3_2 : decode jdk_42_method_3_code 2 = .ok (.iconst 0, 1) := by decide +kernel
theorem d3_3 : decode jdk_42_method_3_code 3 = .ok (.aload_n 1, 1) := by decide +kernel
theorem d3_4 : decode jdk_42_method_3_code 4 = .ok (.arraylength, 1) := by decide +kernel
theorem d3_5 : decode jdk_42_method_3_code 5 = .ok (.aconst_null, 1) := by decide +kernel
theorem d3_6 : decode jdk_42_method_3_code 6 = .ok (.invokespecial 27, 3) := by decide +kernel
theorem d3_9 : decode jdk_42_method_3_code 9 = .ok (.return_, 1) := by decide +kernel
theorem d4_0 : decode jdk_42_method_149_code 0 = .ok (.aload_n 0, 1) := by decide +kernel
theorem d4_1 : decode jdk_42_method_149_code 1 = .ok (.invokespecial 1, 3) := by decide +kernel
theorem d4_4 : decode jdk_42_method_149_code 4 = .ok (.iload_n 3, 1) := by decide +kernel
theorem d4_5 : decode jdk_42_method_149_code 5 = .ok (.ifCond .ne 22, 3) := by decide +kernel
theorem d4_8 : decode jdk_42_method_149_code 8 = .ok (.aload_n 0, 1) := by decide +kernel
theorem d4_9 : decode jdk_42_method_149_code 9 = .ok (.ldc 7, 2) := by decide +kernel
theorem d4_11 : decode jdk_42_method_149_code 11 = .ok (.getfield 9, 3) := by decide +kernel
theorem d4_14 : decode jdk_42_method_149_code 14 = .ok (.putfield 9, 3) := by decide +kernel
theorem d4_17 : decode jdk_42_method_149_code 17 = .ok (.aload_n 0, 1) := by decide +kernel
theorem d4_18 : decode jdk_42_method_149_code 18 = .ok (.ldc 7, 2) := by decide +kernel
theorem d4_20 : decode jdk_42_method_149_code 20 = .ok (.getfield 15, 3) := by decide +kernel
theorem d4_23 : decode jdk_42_method_149_code 23 = .ok (.putfield 15, 3) := by decide +kernel
theorem d4_26 : decode jdk_42_method_149_code 26 = .ok (.return_, 1) := by decide +kernel
theorem d6_0 : decode jdk_38_method_2_code 0 = .ok (.aload_n 0, 1) := by decide +kernel
theorem d6_1 : decode jdk_38_method_2_code 1 = .ok (.invokespecial 1, 3) := by decide +kernel
theorem d6_4 : decode jdk_38_method_2_code 4 = .ok (.aload_n 0, 1) := by decide +kernel
theorem d6_5 : decode jdk_38_method_2_code 5 = .ok (.getstatic 39, 3) := by decide +kernel
theorem d6_8 : decode jdk_38_method_2_code 8 = .ok (.putfield 9, 3) := by decide +kernel
theorem d6_11 : decode jdk_38_method_2_code 11 = .ok (.return_, 1) := by decide +kernel
theorem d7_0 : decode jdk_39_method_1_code 0 = .ok (.aload_n 0, 1) := by decide +kernel
theorem d7_1 : decode jdk_39_method_1_code 1 = .ok (.invokespecial 1, 3) := by decide +kernel
theorem d7_4 : decode jdk_39_method_1_code 4 = .ok (.aload_n 0, 1) := by decide +kernel
theorem d7_5 : decode jdk_39_method_1_code 5 = .ok (.iconst 0, 1) := by decide +kernel
theorem d7_6 : decode jdk_39_method_1_code 6 = .ok (.putfield 7, 3) := by decide +kernel
theorem d7_9 : decode jdk_39_method_1_code 9 = .ok (.return_, 1) := by decide +kernel
theorem d8_0 : decode jdk_22_method_1_code 0 = .ok (.aload_n 0, 1) := by decide +kernel
theorem d8_1 : decode jdk_22_method_1_code 1 = .ok (.invokespecial 1, 3) := by decide +kernel
theorem d8_4 : decode jdk_22_method_1_code 4 = .ok (.return_, 1) := by decide +kernel
theorem d9_0 : decode jdk_38_method_25_code 0 = .ok (.aload_n 0, 1) := by decide +kernel
theorem d9_1 : decode jdk_38_method_25_code 1 = .ok (.dup, 1) := by decide +kernel
theorem d9_2 : decode jdk_38_method_25_code 2 = .ok (.getfield 63, 3) := by decide +kernel
theorem d9_5 : decode jdk_38_method_25_code 5 = .ok (.iconst 1, 1) := by decide +kernel
theorem d9_6 : decode jdk_38_method_25_code 6 = .ok (.iadd, 1) := by decide +kernel
theorem d9_7 : decode jdk_38_method_25_code 7 = .ok (.putfield 63, 3) := by decide +kernel
theorem d9_10 : decode jdk_38_method_25_code 10 = .ok (.aload_n 0, 1) := by decide +kernel
theorem d9_11 : decode jdk_38_method_25_code 11 = .ok (.aload_n 1, 1) := by decide +kernel
theorem d9_12 : decode jdk_38_method_25_code 12 = .ok (.aload_n 0, 1) := by decide +kernel
theorem d9_13 : decode jdk_38_method_25_code 13 = .ok (.getfield 9, 3) := by decide +kernel
theorem d9_16 : decode jdk_38_method_25_code 16 = .ok (.aload_n 0, 1) := by decide +kernel
theorem d9_17 : decode jdk_38_method_25_code 17 = .ok (.getfield 48, 3) := by decide +kernel
theorem d9_20 : decode jdk_38_method_25_code 20 = .ok (.invokevirtual 131, 3) := by decide +kernel
theorem d9_23 : decode jdk_38_method_25_code 23 = .ok (.iconst 1, 1) := by decide +kernel
theorem d9_24 : decode jdk_38_method_25_code 24 = .ok (.ireturn, 1) := by decide +kernel
theorem d10_0 : decode jdk_38_method_24_code 0 = .ok (.iload_n 3, 1) := by decide +kernel
theorem d10_1 : decode jdk_38_method_24_code 1 = .ok (.aload_n 2, 1) := by decide +kernel
theorem d10_2 : decode jdk_38_method_24_code 2 = .ok (.arraylength, 1) := by decide +kernel
theorem d10_3 : decode jdk_38_method_24_code 3 = .ok (.if_icmp .ne 8, 3) := by decide +kernel
theorem d10_6 : decode jdk_38_method_24_code 6 = .ok (.aload_n 0, 1) := by decide +kernel
theorem d10_7 : decode jdk_38_method_24_code 7 = .ok (.invokevirtual 129, 3) := by decide +kernel
theorem d10_10 : decode jdk_38_method_24_code 10 = .ok (.astore_n 2, 1) := by decide +kernel
theorem d10_11 : decode jdk_38_method_24_code 11 = .ok (.aload_n 2, 1) := by decide +kernel
theorem d10_12 : decode jdk_38_method_24_code 12 = .ok (.iload_n 3, 1) := by decide +kernel
theorem d10_13 : decode jdk_38_method_24_code 13 = .ok (.aload_n 1, 1) := by decide +kernel
theorem d10_14 : decode jdk_38_method_24_code 14 = .ok (.aastore, 1) := by decide +kernel
theorem d10_15 : decode jdk_38_method_24_code 15 = .ok (.aload_n 0, 1) := by decide +kernel
theorem d10_16 : decode jdk_38_method_24_code 16 = .ok (.iload_n 3, 1) := by decide +kernel
theorem d10_17 : decode jdk_38_method_24_code 17 = .ok (.iconst 1, 1) := by decide +kernel
theorem d10_18 : decode jdk_38_method_24_code 18 = .ok (.iadd, 1) := by decide +kernel
theorem d10_19 : decode jdk_38_method_24_code 19 = .ok (.putfield 48, 3) := by decide +kernel
theorem d10_22 : decode jdk_38_method_24_code 22 = .ok (.return_, 1) := by decide +kernel
theorem d11_0 : decode jdk_38_method_7_code 0 = .ok (.aload_n 0, 1) := by decide +kernel
theorem d11_1 : decode jdk_38_method_7_code 1 = .ok (.aload_n 0, 1) := by decide +kernel
theorem d11_2 : decode jdk_38_method_7_code 2 = .ok (.getfield 48, 3) := by decide +kernel
theorem d11_5 : decode jdk_38_method_7_code 5 = .ok (.iconst 1, 1) := by decide +kernel
theorem d11_6 : decode jdk_38_method_7_code 6 = .ok (.iadd, 1) := by decide +kernel
theorem d11_7 : decode jdk_38_method_7_code 7 = .ok (.invokevirtual 69, 3) := by decide +kernel
theorem d11_10 : decode jdk_38_method_7_code 10 = .ok (.areturn, 1) := by decide +kernel
theorem d12_0 : decode jdk_38_method_6_code 0 = .ok (.aload_n 0, 1) := by decide +kernel
theorem d12_1 : decode jdk_38_method_6_code 1 = .ok (.getfield 9, 3) := by decide +kernel
theorem d12_4 : decode jdk_38_method_6_code 4 = .ok (.arraylength, 1) := by decide +kernel
theorem d12_5 : decode jdk_38_method_6_code 5 = .ok (.istore_n 2, 1) := by decide +kernel
theorem d12_6 : decode jdk_38_method_6_code 6 = .ok (.iload_n 2, 1) := by decide +kernel
theorem d12_7 : decode jdk_38_method_6_code 7 = .ok (.ifCond .gt 13, 3) := by decide +kernel
theorem d12_10 : decode jdk_38_method_6_code 10 = .ok (.aload_n 0, 1) := by decide +kernel
theorem d12_11 : decode jdk_38_method_6_code 11 = .ok (.getfield 9, 3) := by decide +kernel
theorem d12_14 : decode jdk_38_method_6_code 14 = .ok (.getstatic 39, 3) := by decide +kernel
theorem d12_17 : decode jdk_38_method_6_code 17 = .ok (.if_acmp .eq 28, 3) := by decide +kernel
theorem d12_45 : decode jdk_38_method_6_code 45 = .ok (.aload_n 0, 1) := by decide +kernel
theorem d12_46 : decode jdk_38_method_6_code 46 = .ok (.bipush 10, 2) := by decide +kernel
theorem d12_48 : decode jdk_38_method_6_code 48 = .ok (.iload_n 1, 1) := by decide +kernel
theorem d12_49 : decode jdk_38_method_6_code 49 = .ok (.invokestatic 79, 3) := by decide +kernel
theorem d12_52 : decode jdk_38_method_6_code 52 = .ok (.anewarray 7, 3) := by decide +kernel
theorem d12_55 : decode jdk_38_method_6_code 55 = .ok (.dup_x1, 1) := by decide +kernel
theorem d12_56 : decode jdk_38_method_6_code 56 = .ok (.putfield 9, 3) := by decide +kernel
theorem d12_59 : decode jdk_38_method_6_code 59 = .ok (.areturn, 1) := by decide +kernel
theorem d13_0 : decode jdk_29_method_65_code 0 = .ok (.iload_n 0, 1) := by decide +kernel
theorem d13_1 : decode jdk_29_method_65_code 1 = .ok (.iload_n 1, 1) := by decide +kernel
theorem d13_2 : decode jdk_29_method_65_code 2 = .ok (.if_icmp .lt 7, 3) := by decide +kernel
theorem d13_5 : decode jdk_29_method_65_code 5 = .ok (.iload_n 0, 1) := by decide +kernel
theorem d13_6 : decode jdk_29_method_65_code 6 = .ok (.goto 4, 3) := by decide +kernel
theorem d13_10 : decode jdk_29_method_65_code 10 = .ok (.ireturn, 1) := by decide +kernel
theorem d14_0 : decode prog_4_method_1_code 0 = .ok (.aload_n 0, 1) := by decide +kernel
theorem d14_1 : decode prog_4_method_1_code 1 = .ok (.invokespecial 1, 3) := by decide +kernel
theorem d14_4 : decode prog_4_method_1_code 4 = .ok (.aload_n 0, 1) := by decide +kernel
theorem d14_5 : decode prog_4_method_1_code 5 = .ok (.aload_n 1, 1) := by decide +kernel
theorem d14_6 : decode prog_4_method_1_code 6 = .ok (.invokeinterface 7 1, 5) := by decide +kernel
theorem d14_11 : decode prog_4_method_1_code 11 = .ok (.putfield 13, 3) := by decide +kernel
theorem d14_14 : decode prog_4_method_1_code 14 = .ok (.return_, 1) := by decide +kernel
theorem d15_0 : decode jdk_38_method_55_code 0 = .ok (.new 267, 3) := by decide +kernel
theorem d15_3 : decode jdk_38_method_55_code 3 = .ok (.dup, 1) := by decide +kernel
theorem d15_4 : decode jdk_38_method_55_code 4 = .ok (.aload_n 0, 1) := by decide +kernel
theorem d15_5 : decode jdk_38_method_55_code 5 = .ok (.invokespecial 269, 3) := by decide +kernel
theorem d15_8 : decode jdk_38_method_55_code 8 = .ok (.areturn, 1) := by decide +kernel
theorem d16_0 : decode jdk_49_method_1_code 0 = .ok (.aload_n 0, 1) := by decide +kernel
theorem d16_1 : decode jdk_49_method_1_code 1 = .ok (.aload_n 1, 1) := by decide +kernel
theorem d16_2 : decode jdk_49_method_1_code 2 = .ok (.putfield 1, 3) := by decide +kernel
theorem d16_5 : decode jdk_49_method_1_code 5 = .ok (.aload_n 0, 1) := by decide +kernel
theorem d16_6 : decode jdk_49_method_1_code 6 = .ok (.invokespecial 7, 3) := by decide +kernel
theorem d16_9 : decode jdk_49_method_1_code 9 = .ok (.aload_n 0, 1) := by decide +kernel
theorem d16_10 : decode jdk_49_method_1_code 10 = .ok (.iconst (-1), 1) := by decide +kernel
theorem d16_11 : decode jdk_49_method_1_code 11 = .ok (.putfield 13, 3) := by decide +kernel
theorem d16_14 : decode jdk_49_method_1_code 14 = .ok (.aload_n 0, 1) := by decide +kernel
theorem d16_15 : decode jdk_49_method_1_code 15 = .ok (.aload_n 0, 1) := by decide +kernel
theorem d16_16 : decode jdk_49_method_1_code 16 = .ok (.getfield 1, 3) := by decide +kernel
theorem d16_19 : decode jdk_49_method_1_code 19 = .ok (.getfield 17, 3) := by decide +kernel
theorem d16_22 : decode jdk_49_method_1_code 22 = .ok (.putfield 22, 3) := by decide +kernel
theorem d16_25 : decode jdk_49_method_1_code 25 = .ok (.return_, 1) := by decide +kernel
theorem d17_0 : decode prog_4_method_3_code 0 = .ok (.aload_n 0, 1) := by decide +kernel
theorem d17_1 : decode prog_4_method_3_code 1 = .ok (.aload_n 0, 1) := by decide +kernel
theorem d17_2 : decode prog_4_method_3_code 2 = .ok (.getfield 13, 3) := by decide +kernel
theorem d17_5 : decode prog_4_method_3_code 5 = .ok (.invokeinterface 25 1, 5) := by decide +kernel
theorem d17_10 : decode prog_4_method_3_code 10 = .ok (.checkcast 29, 3) := by decide +kernel
theorem d17_13 : decode prog_4_method_3_code 13 = .ok (.putfield 31, 3) := by decide +kernel
theorem d17_16 : decode prog_4_method_3_code 16 = .ok (.aload_n 0, 1) := by decide +kernel
theorem d17_17 : decode prog_4_method_3_code 17 = .ok (.getfield 31, 3) := by decide +kernel
theorem d17_20 : decode prog_4_method_3_code 20 = .ok (.areturn, 1) := by decide +kernel
theorem d18_0 : decode jdk_49_method_3_code 0 = .ok (.aload_n 0, 1) := by decide +kernel
theorem d18_1 : decode jdk_49_method_3_code 1 = .ok (.invokevirtual 31, 3) := by decide +kernel
theorem d18_4 : decode jdk_49_method_3_code 4 = .ok (.aload_n 0, 1) := by decide +kernel
theorem d18_5 : decode jdk_49_method_3_code 5 = .ok (.getfield 25, 3) := by decide +kernel
theorem d18_8 : decode jdk_49_method_3_code 8 = .ok (.istore_n 1, 1) := by decide +kernel
theorem d18_9 : decode jdk_49_method_3_code 9 = .ok (.iload_n 1, 1) := by decide +kernel
theorem d18_10 : decode jdk_49_method_3_code 10 = .ok (.aload_n 0, 1) := by decide +kernel
theorem d18_11 : decode jdk_49_method_3_code 11 = .ok (.getfield 1, 3) := by decide +kernel
theorem d18_14 : decode jdk_49_method_3_code 14 = .ok (.getfield 28, 3) := by decide +kernel
theorem d18_17 : decode jdk_49_method_3_code 17 = .ok (.if_icmp .lt 11, 3) := by decide +kernel
theorem d18_28 : decode jdk_49_method_3_code 28 = .ok (.aload_n 0, 1) := by decide +kernel
theorem d18_29 : decode jdk_49_method_3_code 29 = .ok (.getfield 1, 3) := by decide +kernel
theorem d18_32 : decode jdk_49_method_3_code 32 = .ok (.getfield 37, 3) := by decide +kernel
theorem d18_35 : decode jdk_49_method_3_code 35 = .ok (.astore_n 2, 1) := by decide +kernel
theorem d18_36 : decode jdk_49_method_3_code 36 = .ok (.iload_n 1, 1) := by decide +kernel
theorem d18_37 : decode jdk_49_method_3_code 37 = .ok (.aload_n 2, 1) := by decide +kernel
theorem d18_38 : decode jdk_49_method_3_code 38 = .ok (.arraylength, 1) := by decide +kernel
theorem d18_39 : decode jdk_49_method_3_code 39 = .ok (.if_icmp .lt 11, 3) := by decide +kernel
theorem d18_50 : decode jdk_49_method_3_code 50 = .ok (.aload_n 0, 1) := by decide +kernel
theorem d18_51 : decode jdk_49_method_3_code 51 = .ok (.iload_n 1, 1) := by decide +kernel
theorem d18_52 : decode jdk_49_method_3_code 52 = .ok (.iconst 1, 1) := by decide +kernel
theorem d18_53 : decode jdk_49_method_3_code 53 = .ok (.iadd, 1) := by decide +kernel
theorem d18_54 : decode jdk_49_method_3_code 54 = .ok (.putfield 25, 3) := by decide +kernel
theorem d18_57 : decode jdk_49_method_3_code 57 = .ok (.aload_n 2, 1) := by decide +kernel
theorem d18_58 : decode jdk_49_method_3_code 58 = .ok (.aload_n 0, 1) := by decide +kernel
theorem d18_59 : decode jdk_49_method_3_code 59 = .ok (.iload_n 1, 1) := by decide +kernel
theorem d18_60 : decode jdk_49_method_3_code 60 = .ok (.dup_x1, 1) := by decide +kernel
theorem d18_61 : decode jdk_49_method_3_code 61 = .ok (.putfield 13, 3) := by decide +kernel
theorem d18_64 : decode jdk_49_method_3_code 64 = .ok (.aaload, 1) := by decide +kernel
theorem d18_65 : decode jdk_49_method_3_code 65 = .ok (.areturn, 1) := by decide +kernel
theorem d19_0 : decode jdk_49_method_6_code 0 = .ok (.aload_n 0, 1) := by decide +kernel
theorem d19_1 : decode jdk_49_method_6_code 1 = .ok (.getfield 1, 3) := by decide +kernel
theorem d19_4 : decode jdk_49_method_6_code 4 = .ok (.getfield 17, 3) := by decide +kernel
theorem d19_7 : decode jdk_49_method_6_code 7 = .ok (.aload_n 0, 1) := by decide +kernel
theorem d19_8 : decode jdk_49_method_6_code 8 = .ok (.getfield 22, 3) := by decide +kernel
theorem d19_11 : decode jdk_49_method_6_code 11 = .ok (.if_icmp .eq 11, 3) := by decide +kernel
theorem d19_22 : decode jdk_49_method_6_code 22 = .ok (.return_, 1) := by decide +kernel
theorem d20_0 : decode prog_4_method_5_code 0 = .ok (.aload_n 0, 1) := by decide +kernel
theorem d20_1 : decode prog_4_method_5_code 1 = .ok (.getfield 31, 3) := by decide +kernel
theorem d20_4 : decode prog_4_method_5_code 4 = .ok (.bipush 61, 2) := by decide +kernel
theorem d20_6 : decode prog_4_method_5_code 6 = .ok (.invokevirtual 47, 3) := by decide +kernel
theorem d20_9 : decode prog_4_method_5_code 9 = .ok (.istore_n 1, 1) := by decide +kernel
theorem d20_10 : decode prog_4_method_5_code 10 = .ok (.iload_n 1, 1) := by decide +kernel
theorem d20_11 : decode prog_4_method_5_code 11 = .ok (.ifCond .lt 15, 3) := by decide +kernel
theorem d20_14 : decode prog_4_method_5_code 14 = .ok (.aload_n 0, 1) := by decide +kernel
theorem d20_15 : decode prog_4_method_5_code 15 = .ok (.getfield 31, 3) := by decide +kernel
theorem d20_18 : decode prog_4_method_5_code 18 = .ok (.iconst 0, 1) := by decide +kernel
theorem d20_19 : decode prog_4_method_5_code 19 = .ok (.iload_n 1, 1) := by decide +kernel
theorem d20_20 : decode prog_4_method_5_code 20 = .ok (.invokevirtual 51, 3) := by decide +kernel
theorem d20_23 : decode prog_4_method_5_code 23 = .ok (.goto 7, 3) := by decide +kernel
theorem d20_26 : decode prog_4_method_5_code 26 = .ok (.aload_n 0, 1) := by decide +kernel
theorem d20_27 : decode prog_4_method_5_code 27 = .ok (.getfield 31, 3) := by decide +kernel
theorem d20_30 : decode prog_4_method_5_code 30 = .ok (.areturn, 1) := by decide +kernel
theorem d21_0 : decode jdk_42_method_79_code 0 = .ok (.aload_n 0, 1) := by decide +kernel
theorem d21_1 : decode jdk_42_method_79_code 1 = .ok (.iload_n 1, 1) := by decide +kernel
theorem d21_2 : decode jdk_42_method_79_code 2 = .ok (.iconst 0, 1) := by decide +kernel
theorem d21_3 : decode jdk_42_method_79_code 3 = .ok (.invokevirtual 633, 3) := by decide +kernel
theorem d21_6 : decode jdk_42_method_79_code 6 = .ok (.ireturn, 1) := by decide +kernel
theorem d22_0 : decode jdk_42_method_80_code 0 = .ok (.aload_n 0, 1) := by decide +kernel
theorem d22_1 : decode jdk_42_method_80_code 1 = .ok (.invokevirtual 492, 3) := by decide +kernel
theorem d22_4 : decode jdk_42_method_80_code 4 = .ok (.ifCond .eq 19, 3) := by decide +kernel
theorem d22_7 : decode jdk_42_method_80_code 7 = .ok (.aload_n 0, 1) := by decide +kernel
theorem d22_8 : decode jdk_42_method_80_code 8 = .ok (.getfield 9, 3) := by decide +kernel
theorem d22_11 : decode jdk_42_method_80_code 11 = .ok (.iload_n 1, 1) := by decide +kernel
theorem d22_12 : decode jdk_42_method_80_code 12 = .ok (.iload_n 2, 1) := by decide +kernel
theorem d22_13 : decode jdk_42_method_80_code 13 = .ok (.aload_n 0, 1) := by decide +kernel
theorem d22_14 : decode jdk_42_method_80_code 14 = .ok (.invokevirtual 505, 3) := by decide +kernel
theorem d22_17 : decode jdk_42_method_80_code 17 = .ok (.invokestatic 637, 3) := by decide +kernel
theorem d22_20 : decode jdk_42_method_80_code 20 = .ok (.goto 16, 3) := by decide +kernel
theorem d22_36 : decode jdk_42_method_80_code 36 = .ok (.ireturn, 1) := by decide +kernel
theorem d23_0 : decode jdk_42_method_154_code 0 = .ok (.getstatic 38, 3) := by decide +kernel
theorem d23_3 : decode jdk_42_method_154_code 3 = .ok (.ifCond .eq 14, 3) := by decide +kernel
theorem d23_6 : decode jdk_42_method_154_code 6 = .ok (.aload_n 0, 1) := by decide +kernel
theorem d23_7 : decode jdk_42_method_154_code 7 = .ok (.getfield 15, 3) := by decide +kernel
theorem d23_10 : decode jdk_42_method_154_code 10 = .ok (.ifCond .ne 7, 3) := by decide +kernel
theorem d23_13 : decode jdk_42_method_154_code 13 = .ok (.iconst 1, 1) := by decide +kernel
theorem d23_14 : decode jdk_42_method_154_code 14 = .ok (.goto 4, 3) := by decide +kernel
theorem d23_18 : decode jdk_42_method_154_code 18 = .ok (.ireturn, 1) := by decide +kernel
theorem d26_0 : decode jdk_43_method_22_code 0 = .ok (.iload_n 1, 1) := by decide +kernel
theorem d26_1 : decode jdk_43_method_22_code 1 = .ok (.invokestatic 88, 3) := by decide +kernel
theorem d26_4 : decode jdk_43_method_22_code 4 = .ok (.ifCond .ne 5, 3) := by decide +kernel
theorem d26_9 : decode jdk_43_method_22_code 9 = .ok (.iload_n 2, 1) := by decide +kernel
theorem d26_10 : decode jdk_43_method_22_code 10 = .ok (.iconst 0, 1) := by decide +kernel
theorem d26_11 : decode jdk_43_method_22_code 11 = .ok (.invokestatic 92, 3) := by decide +kernel
theorem d26_14 : decode jdk_43_method_22_code 14 = .ok (.istore_n 2, 1) := by decide +kernel
theorem d26_15 : decode jdk_43_method_22_code 15 = .ok (.iload_n 3, 1) := by decide +kernel
theorem d26_16 : decode jdk_43_method_22_code 16 = .ok (.aload_n 0, 1) := by decide +kernel
theorem d26_17 : decode jdk_43_method_22_code 17 = .ok (.arraylength, 1) := by decide +kernel
theorem d26_18 : decode jdk_43_method_22_code 18 = .ok (.invokestatic 38, 3) := by decide +kernel
theorem d26_21 : decode jdk_43_method_22_code 21 = .ok (.istore_n 3, 1) := by decide +kernel
theorem d26_22 : decode jdk_43_method_22_code 22 = .ok (.iload_n 2, 1) := by decide +kernel
theorem d26_23 : decode jdk_43_method_22_code 23 = .ok (.iload_n 3, 1) := by decide +kernel
theorem d26_24 : decode jdk_43_method_22_code 24 = .ok (.if_icmp .lt 5, 3) := by decide +kernel
theorem d26_27 : decode jdk_43_method_22_code 27 = .ok (.iconst (-1), 1) := by decide +kernel
theorem d26_28 : decode jdk_43_method_22_code 28 = .ok (.ireturn, 1) := by decide +kernel
theorem d26_29 : decode jdk_43_method_22_code 29 = .ok (.aload_n 0, 1) := by decide +kernel
theorem d26_30 : decode jdk_43_method_22_code 30 = .ok (.iload_n 1, 1) := by decide +kernel
theorem d26_31 : decode jdk_43_method_22_code 31 = .ok (.iload_n 2, 1) := by decide +kernel
theorem d26_32 : decode jdk_43_method_22_code 32 = .ok (.iload_n 3, 1) := by decide +kernel
theorem d26_33 : decode jdk_43_method_22_code 33 = .ok (.invokestatic 95, 3) := by decide +kernel
theorem d26_36 : decode jdk_43_method_22_code 36 = .ok (.ireturn, 1) := by decide +kernel
theorem d27_0 : decode jdk_43_method_4_code 0 = .ok (.iload_n 0, 1) := by decide +kernel
theorem d27_1 : decode jdk_43_method_4_code 1 = .ok (.ifCond .lt 14, 3) := by decide +kernel
theorem d27_4 : decode jdk_43_method_4_code 4 = .ok (.iload_n 0, 1) := by decide +kernel
theorem d27_5 : decode jdk_43_method_4_code 5 = .ok (.sipush 255, 3) := by decide +kernel
theorem d27_8 : decode jdk_43_method_4_code 8 = .ok (.if_icmp .gt 7, 3) := by decide +kernel
theorem d27_11 : decode jdk_43_method_4_code 11 = .ok (.iconst 1, 1) := by decide +kernel
theorem d27_12 : decode jdk_43_method_4_code 12 = .ok (.goto 4, 3) := by decide +kernel
theorem d27_16 : decode jdk_43_method_4_code 16 = .ok (.ireturn, 1) := by decide +kernel
theorem d28_0 : decode jdk_29_method_69_code 0 = .ok (.iload_n 0, 1) := by decide +kernel
theorem d28_1 : decode jdk_29_method_69_code 1 = .ok (.iload_n 1, 1) := by decide +kernel
theorem d28_2 : decode jdk_29_method_69_code 2 = .ok (.if_icmp .gt 7, 3) := by decide +kernel
theorem d28_5 : decode jdk_29_method_69_code 5 = .ok (.iload_n 0, 1) := by decide +kernel
theorem d28_6 : decode jdk_29_method_69_code 6 = .ok (.goto 4, 3) := by decide +kernel
theorem d28_9 : decode jdk_29_method_69_code 9 = .ok (.iload_n 1, 1) := by decide +kernel
theorem d28_10 : decode jdk_29_method_69_code 10 = .ok (.ireturn, 1) := by decide +kernel
theorem d34_0 : decode jdk_43_method_23_code 0 = .ok (.iload_n 1, 1) := by decide +kernel
theorem d34_1 : decode jdk_43_method_23_code 1 = .ok (.i2b, 1) := by decide +kernel
theorem d34_2 : decode jdk_43_method_23_code 2 = .ok (.istore 4, 2) := by decide +kernel
theorem d34_4 : decode jdk_43_method_23_code 4 = .ok (.iload_n 2, 1) := by decide +kernel
theorem d34_5 : decode jdk_43_method_23_code 5 = .ok (.istore 5, 2) := by decide +kernel
theorem d34_7 : decode jdk_43_method_23_code 7 = .ok (.iload 5, 2) := by decide +kernel
theorem d34_9 : decode jdk_43_method_23_code 9 = .ok (.iload_n 3, 1) := by decide +kernel
theorem d34_10 : decode jdk_43_method_23_code 10 = .ok (.if_icmp .ge 21, 3) := by decide +kernel
theorem d34_13 : decode jdk_43_method_23_code 13 = .ok (.aload_n 0, 1) := by decide +kernel
theorem d34_14 : decode jdk_43_method_23_code 14 = .ok (.iload 5, 2) := by decide +kernel
theorem d34_16 : decode jdk_43_method_23_code 16 = .ok (.baload, 1) := by decide +kernel
theorem d34_17 : decode jdk_43_method_23_code 17 = .ok (.iload 4, 2) := by decide +kernel
theorem d34_19 : decode jdk_43_method_23_code 19 = .ok (.if_icmp .ne 6, 3) := by decide +kernel
theorem d34_22 : decode jdk_43_method_23_code 22 = .ok (.iload 5, 2) := by decide +kernel
theorem d34_24 : decode jdk_43_method_23_code 24 = .ok (.ireturn, 1) := by decide +kernel
theorem d34_25 : decode jdk_43_method_23_code 25 = .ok (.iinc 5 1, 3) := by decide +kernel
theorem d34_28 : decode jdk_43_method_23_code 28 = .ok (.goto (-21), 3) := by decide +kernel
theorem d34_31 : decode jdk_43_method_23_code 31 = .ok (.iconst (-1), 1) := by decide +kernel
theorem d34_32 : decode jdk_43_method_23_code 32 = .ok (.ireturn, 1) := by decide +kernel
theorem d35_0 : decode jdk_42_method_92_code 0 = .ok (.aload_n 0, 1) := by decide +kernel
theorem d35_1 : decode jdk_42_method_92_code 1 = .ok (.invokevirtual 505, 3) := by decide +kernel
theorem d35_4 : decode jdk_42_method_92_code 4 = .ok (.istore_n 3, 1) := by decide +kernel
theorem d35_5 : decode jdk_42_method_92_code 5 = .ok (.iload_n 1, 1) := by decide +kernel
theorem d35_6 : decode jdk_42_method_92_code 6 = .ok (.iload_n 2, 1) := by decide +kernel
theorem d35_7 : decode jdk_42_method_92_code 7 = .ok (.iload_n 3, 1) := by decide +kernel
theorem d35_8 : decode jdk_42_method_92_code 8 = .ok (.invokestatic 521, 3) := by decide +kernel
theorem d35_11 : decode jdk_42_method_92_code 11 = .ok (.iload_n 1, 1) := by decide +kernel
theorem d35_12 : decode jdk_42_method_92_code 12 = .ok (.ifCond .ne 10, 3) := by decide +kernel
theorem d35_15 : decode jdk_42_method_92_code 15 = .ok (.iload_n 2, 1) := by decide +kernel
theorem d35_16 : decode jdk_42_method_92_code 16 = .ok (.iload_n 3, 1) := by decide +kernel
theorem d35_17 : decode jdk_42_method_92_code 17 = .ok (.if_icmp .ne 5, 3) := by decide +kernel
theorem d35_22 : decode jdk_42_method_92_code 22 = .ok (.iload_n 2, 1) := by decide +kernel
theorem d35_23 : decode jdk_42_method_92_code 23 = .ok (.iload_n 1, 1) := by decide +kernel
theorem d35_24 : decode jdk_42_method_92_code 24 = .ok (.isub, 1) := by decide +kernel
theorem d35_25 : decode jdk_42_method_92_code 25 = .ok (.istore 4, 2) := by decide +kernel
theorem d35_27 : decode jdk_42_method_92_code 27 = .ok (.aload_n 0, 1) := by decide +kernel
theorem d35_28 : decode jdk_42_method_92_code 28 = .ok (.invokevirtual 492, 3) := by decide +kernel
theorem d35_31 : decode jdk_42_method_92_code 31 = .ok (.ifCond .eq 16, 3) := by decide +kernel
theorem d35_34 : decode jdk_42_method_92_code 34 = .ok (.aload_n 0, 1) := by decide +kernel
theorem d35_35 : decode jdk_42_method_92_code 35 = .ok (.getfield 9, 3) := by decide +kernel
theorem d35_38 : decode jdk_42_method_92_code 38 = .ok (.iload_n 1, 1) := by decide +kernel
theorem d35_39 : decode jdk_42_method_92_code 39 = .ok (.iload 4, 2) := by decide +kernel
theorem d35_41 : decode jdk_42_method_92_code 41 = .ok (.invokestatic 685, 3) := by decide +kernel
theorem d35_44 : decode jdk_42_method_92_code 44 = .ok (.goto 13, 3) := by decide +kernel
theorem d35_57 : decode jdk_42_method_92_code 57 = .ok (.areturn, 1) := by decide +kernel
theorem d36_0 : decode jdk_42_method_158_code 0 = .ok (.iload_n 0, 1) := by decide +kernel
theorem d36_1 : decode jdk_42_method_158_code 1 = .ok (.iload_n 1, 1) := by decide +kernel
theorem d36_2 : decode jdk_42_method_158_code 2 = .ok (.iload_n 2, 1) := by decide +kernel
theorem d36_3 : decode jdk_42_method_158_code 3 = .ok (.getstatic 1053, 3) := by decide +kernel
theorem d36_6 : decode jdk_42_method_158_code 6 = .ok (.invokestatic 1062, 3) := by decide +kernel
theorem d36_9 : decode jdk_42_method_158_code 9 = .ok (.pop, 1) := by decide +kernel
theorem d36_10 : decode jdk_42_method_158_code 10 = .ok (.return_, 1) := by decide +kernel
theorem d37_0 : decode jdk_41_method_12_code 0 = .ok (.iload_n 0, 1) := by decide +kernel
theorem d37_1 : decode jdk_41_method_12_code 1 = .ok (.ifCond .lt 13, 3) := by decide +kernel
theorem d37_4 : decode jdk_41_method_12_code 4 = .ok (.iload_n 0, 1) := by decide +kernel
theorem d37_5 : decode jdk_41_method_12_code 5 = .ok (.iload_n 1, 1) := by decide +kernel
theorem d37_6 : decode jdk_41_method_12_code 6 = .ok (.if_icmp .gt 8, 3) := by decide +kernel
theorem d37_9 : decode jdk_41_method_12_code 9 = .ok (.iload_n 1, 1) := by decide +kernel
theorem d37_10 : decode jdk_41_method_12_code 10 = .ok (.iload_n 2, 1) := by decide +kernel
theorem d37_11 : decode jdk_41_method_12_code 11 = .ok (.if_icmp .le 11, 3) := by decide +kernel
theorem d37_22 : decode jdk_41_method_12_code 22 = .ok (.iload_n 0, 1) := by decide +kernel
theorem d37_23 : decode jdk_41_method_12_code 23 = .ok (.ireturn, 1) := by decide +kernel
theorem d38_0 : decode jdk_43_method_47_code 0 = .ok (.iload_n 2, 1) := by decide +kernel
theorem d38_1 : decode jdk_43_method_47_code 1 = .ok (.ifCond .ne 6, 3) := by decide +kernel
theorem d38_4 : decode jdk_43_method_47_code 4 = .ok (.ldc 151, 2) := by decide +kernel
theorem d38_6 : decode jdk_43_method_47_code 6 = .ok (.areturn, 1) := by decide +kernel
theorem d38_7 : decode jdk_43_method_47_code 7 = .ok (.new 1, 3) := by decide +kernel
theorem d38_10 : decode jdk_43_method_47_code 10 = .ok (.dup, 1) := by decide +kernel
theorem d38_11 : decode jdk_43_method_47_code 11 = .ok (.aload_n 0, 1) := by decide +kernel
theorem d38_12 : decode jdk_43_method_47_code 12 = .ok (.iload_n 1, 1) := by decide +kernel
theorem d38_13 : decode jdk_43_method_47_code 13 = .ok (.iload_n 1, 1) := by decide +kernel
theorem d38_14 : decode jdk_43_method_47_code 14 = .ok (.iload_n 2, 1) := by decide +kernel
theorem d38_15 : decode jdk_43_method_47_code 15 = .ok (.iadd, 1) := by decide +kernel
theorem d38_16 : decode jdk_43_method_47_code 16 = .ok (.invokestatic 232, 3) := by decide +kernel
theorem d38_19 : decode jdk_43_method_47_code 19 = .ok (.iconst 0, 1) := by decide +kernel
theorem d38_20 : decode jdk_43_method_47_code 20 = .ok (.invokespecial 112, 3) := by decide +kernel
theorem d38_23 : decode jdk_43_method_47_code 23 = .ok (.areturn, 1) := by decide +kernel
theorem d39_0 : decode jdk_65_method_132_code 0 = .ok (.iload_n 1, 1) := by decide +kernel
theorem d39_1 : decode jdk_65_method_132_code 1 = .ok (.ifCond .ne 9, 3) := by decide +kernel
theorem d39_4 : decode jdk_65_method_132_code 4 = .ok (.iload_n 2, 1) := by decide +kernel
theorem d39_5 : decode jdk_65_method_132_code 5 = .ok (.aload_n 0, 1) := by decide +kernel
theorem d39_6 : decode jdk_65_method_132_code 6 = .ok (.arraylength, 1) := by decide +kernel
theorem d39_7 : decode jdk_65_method_132_code 7 = .ok (.if_icmp .eq 10, 3) := by decide +kernel
theorem d39_10 : decode jdk_65_method_132_code 10 = .ok (.aload_n 0, 1) := by decide +kernel
theorem d39_11 : decode jdk_65_method_132_code 11 = .ok (.iload_n 1, 1) := by decide +kernel
theorem d39_12 : decode jdk_65_method_132_code 12 = .ok (.iload_n 2, 1) := by decide +kernel
theorem d39_13 : decode jdk_65_method_132_code 13 = .ok (.invokestatic 339, 3) := by decide +kernel
theorem d39_16 : decode jdk_65_method_132_code 16 = .ok (.areturn, 1) := by decide +kernel
theorem d40_0 : decode jdk_65_method_133_code 0 = .ok (.iload_n 1, 1) := by decide +kernel
theorem d40_1 : decode jdk_65_method_133_code 1 = .ok (.iload_n 2, 1) := by decide +kernel
theorem d40_2 : decode jdk_65_method_133_code 2 = .ok (.invokestatic 343, 3) := by decide +kernel
theorem d40_5 : decode jdk_65_method_133_code 5 = .ok (.iload_n 2, 1) := by decide +kernel
theorem d40_6 : decode jdk_65_method_133_code 6 = .ok (.iload_n 1, 1) := by decide +kernel
theorem d40_7 : decode jdk_65_method_133_code 7 = .ok (.isub, 1) := by decide +kernel
theorem d40_8 : decode jdk_65_method_133_code 8 = .ok (.istore_n 3, 1) := by decide +kernel
theorem d40_9 : decode jdk_65_method_133_code 9 = .ok (.iload_n 3, 1) := by decide +kernel
theorem d40_10 : decode jdk_65_method_133_code 10 = .ok (.newarray .byte, 2) := by decide +kernel
theorem d40_12 : decode jdk_65_method_133_code 12 = .ok (.astore 4, 2) := by decide +kernel
theorem d40_14 : decode jdk_65_method_133_code 14 = .ok (.aload_n 0, 1) := by decide +kernel
theorem d40_15 : decode jdk_65_method_133_code 15 = .ok (.iload_n 1, 1) := by decide +kernel
theorem d40_16 : decode jdk_65_method_133_code 16 = .ok (.aload 4, 2) := by decide +kernel
theorem d40_18 : decode jdk_65_method_133_code 18 = .ok (.iconst 0, 1) := by decide +kernel
theorem d40_19 : decode jdk_65_method_133_code 19 = .ok (.aload_n 0, 1) := by decide +kernel
theorem d40_20 : decode jdk_65_method_133_code 20 = .ok (.arraylength, 1) := by decide +kernel
theorem d40_21 : decode jdk_65_method_133_code 21 = .ok (.iload_n 1, 1) := by decide +kernel
theorem d40_22 : decode jdk_65_method_133_code 22 = .ok (.isub, 1) := by decide +kernel
theorem d40_23 : decode jdk_65_method_133_code 23 = .ok (.iload_n 3, 1) := by decide +kernel
theorem d40_24 : decode jdk_65_method_133_code 24 = .ok (.invokestatic 304, 3) := by decide +kernel
theorem d40_27 : decode jdk_65_method_133_code 27 = .ok (.invokestatic 150, 3) := by decide +kernel
theorem d40_30 : decode jdk_65_method_133_code 30 = .ok (.aload 4, 2) := by decide +kernel
theorem d40_32 : decode jdk_65_method_133_code 32 = .ok (.areturn, 1) := by decide +kernel
theorem d41_0 : decode jdk_65_method_131_code 0 = .ok (.iload_n 1, 1) := by decide +kernel
theorem d41_1 : decode jdk_65_method_131_code 1 = .ok (.iload_n 0, 1) := by decide +kernel
theorem d41_2 : decode jdk_65_method_131_code 2 = .ok (.if_icmp .ge 35, 3) := by decide +kernel
theorem d41_37 : decode jdk_65_method_131_code 37 = .ok (.return_, 1) := by decide +kernel
theorem d42_0 : decode jdk_42_method_151_code 0 = .ok (.aload_n 0, 1) := by decide +kernel
theorem d42_1 : decode jdk_42_method_151_code 1 = .ok (.invokespecial 1, 3) := by decide +kernel
theorem d42_4 : decode jdk_42_method_151_code 4 = .ok (.aload_n 0, 1) := by decide +kernel
theorem d42_5 : decode jdk_42_method_151_code 5 = .ok (.aload_n 1, 1) := by decide +kernel
theorem d42_6 : decode jdk_42_method_151_code 6 = .ok (.putfield 9, 3) := by decide +kernel
theorem d42_9 : decode jdk_42_method_151_code 9 = .ok (.aload_n 0, 1) := by decide +kernel
theorem d42_10 : decode jdk_42_method_151_code 10 = .ok (.iload_n 2, 1) := by decide +kernel
theorem d42_11 : decode jdk_42_method_151_code 11 = .ok (.putfield 15, 3) := by decide +kernel
theorem d42_14 : decode jdk_42_method_151_code 14 = .ok (.return_, 1) := by decide +kernel
theorem pn0 : plainName "java/lang/String" = true := by first | (simp [plainName, overriddenIn]; done) | decide +kernel
theorem pn1 : plainName "com/example/dovetail_fields/dovetailfields/CommandLineArgumentsOptionNamePinLaw" = true := by first | (simp [plainName, overriddenIn]; done) | decide +kernel
theorem pn2 : plainName "java/util/AbstractCollection" = true := by first | (simp [plainName, overriddenIn]; done) | decide +kernel
theorem pn3 : plainName "java/util/AbstractList" = true := by first | (simp [plainName, overriddenIn]; done) | decide +kernel
theorem pn4 : plainName "java/util/ArrayList" = true := by first | (simp [plainName, overriddenIn]; done) | decide +kernel
theorem pn5 : plainName "java/util/ArrayList$Itr" = true := by first | (simp [plainName, overriddenIn]; done) | decide +kernel
theorem pn6 : plainName "com/example/dovetail_fields/dovetailfields/CommandLineArguments" = true := by first | (simp [plainName, overriddenIn]; done) | decide +kernel
theorem pn7 : plainName "java/lang/StringLatin1" = true := by first | (simp [plainName, overriddenIn]; done) | decide +kernel
theorem pn8 : plainName "jdk/internal/util/Preconditions" = true := by first | (simp [plainName, overriddenIn]; done) | decide +kernel
theorem pn9 : plainName "java/util/Arrays" = true := by first | (simp [plainName, overriddenIn]; done) | decide +kernel
theorem pd0 : parseMethodDescriptor "([CIILjava/lang/Void;)V" = some ⟨[(.array .char), .int, .int, (.object "java/lang/Void")], none⟩ := by decide +kernel
theorem pd1 : parseMethodDescriptor "([C)V" = some ⟨[(.array .char)], none⟩ := by decide +kernel
theorem pd2 : parseMethodDescriptor "()V" = some ⟨[], none⟩ := by decide +kernel
theorem pd3 : parseMethodDescriptor "(II)I" = some ⟨[.int, .int], some .int⟩ := by decide +kernel
theorem pd4 : parseMethodDescriptor "(I)[Ljava/lang/Object;" = some ⟨[.int], some (.array (.object "java/lang/Object"))⟩ := by decide +kernel
theorem pd5 : parseMethodDescriptor "()[Ljava/lang/Object;" = some ⟨[], some (.array (.object "java/lang/Object"))⟩ := by decide +kernel
theorem pd6 : parseMethodDescriptor "(Ljava/lang/Object;[Ljava/lang/Object;I)V" = some ⟨[(.object "java/lang/Object"), (.array (.object "java/lang/Object")), .int], none⟩ := by decide +kernel
theorem pd7 : parseMethodDescriptor "(Ljava/util/ArrayList;)V" = some ⟨[(.object "java/util/ArrayList")], none⟩ := by decide +kernel
theorem pd8 : parseMethodDescriptor "()Ljava/util/Iterator;" = some ⟨[], some (.object "java/util/Iterator")⟩ := by decide +kernel
theorem pd9 : parseMethodDescriptor "()Ljava/lang/Object;" = some ⟨[], some (.object "java/lang/Object")⟩ := by decide +kernel
theorem pd10 : parseMethodDescriptor "(I)Z" = some ⟨[.int], some .boolean⟩ := by decide +kernel
theorem pd11 : parseMethodDescriptor "([BIII)I" = some ⟨[(.array .byte), .int, .int, .int], some .int⟩ := by decide +kernel
theorem pd12 : parseMethodDescriptor "()Z" = some ⟨[], some .boolean⟩ := by decide +kernel
theorem pd13 : parseMethodDescriptor "()I" = some ⟨[], some .int⟩ := by decide +kernel
theorem pd14 : parseMethodDescriptor "(IIILjava/util/function/BiFunction;)I" = some ⟨[.int, .int, .int, (.object "java/util/function/BiFunction")], some .int⟩ := by decide +kernel
theorem pd15 : parseMethodDescriptor "(II)V" = some ⟨[.int, .int], none⟩ := by decide +kernel
theorem pd16 : parseMethodDescriptor "([BII)[B" = some ⟨[(.array .byte), .int, .int], some (.array .byte)⟩ := by decide +kernel
theorem pd17 : parseMethodDescriptor "([BB)V" = some ⟨[(.array .byte), .byte], none⟩ := by decide +kernel
theorem pd18 : parseMethodDescriptor "(III)V" = some ⟨[.int, .int, .int], none⟩ := by decide +kernel
theorem pd19 : parseMethodDescriptor "([BII)Ljava/lang/String;" = some ⟨[(.array .byte), .int, .int], some (.object "java/lang/String")⟩ := by decide +kernel
theorem pd20 : parseMethodDescriptor "(I)I" = some ⟨[.int], some .int⟩ := by decide +kernel
theorem pd21 : parseMethodDescriptor "(II)Ljava/lang/String;" = some ⟨[.int, .int], some (.object "java/lang/String")⟩ := by decide +kernel
theorem pd22 : parseMethodDescriptor "(ICCCC)Ljava/lang/String;" = some ⟨[.int, .char, .char, .char, .char], some (.object "java/lang/String")⟩ := by decide +kernel
theorem pd23 : parseMethodDescriptor "(Ljava/lang/Object;)Z" = some ⟨[(.object "java/lang/Object")], some .boolean⟩ := by decide +kernel
theorem pd24 : parseMethodDescriptor "(Ljava/util/List;)V" = some ⟨[(.object "java/util/List")], none⟩ := by decide +kernel
theorem pd25 : parseMethodDescriptor "()Ljava/lang/String;" = some ⟨[], some (.object "java/lang/String")⟩ := by decide +kernel
theorem pd26 : parseMethodDescriptor "(I)C" = some ⟨[.int], some .char⟩ := by decide +kernel
set_option maxRecDepth 65536 in
set_option maxHeartbeats 40000000 in
theorem ct_i4e {l : Launch} {Z : State} {a0 : Array Value} {n0 : Nat} {g1 : Int32} {gf : Value} {ea : Addr} {kea : ClassId} (cx : Ctx Z a0 n0 g1 gf ea kea) {h : Heap} (O : Old Z n0 h) (a b : Addr) (E_a : Exa Z h a "java/lang/String") (F_value_a : Fld Z h a "java/lang/String" "value" "[B" .null) (F_coder_a : Fld Z h a "java/lang/String" "coder" "B" (.int 0)) (g_a : n0 ≤ a) :
    Ct l Z consts_1 n0 [] (⟨"java/lang/String", "<init>", "([CIILjava/lang/Void;)V"⟩ : MethodName) jdk_42_method_149_code 6 none ({ frames := 1, cells := 4, slots := 8, locals := 12 } : Room) #[(.ref a), (.ref b), (.int (0 : Int32)), (.int (0 : Int32)), .null] [a] h (fun v _ h' => v = none ∧ Keep h h' [a] ∧ ∃ t, StrAt Z h' a t []) := by
  refine Ct.intro (plainFor_of_name pn0) O cx.ew ?_
  intro p_ e_ s_ m_ bl_ mt_ c_ T0 W0 hby hml hret hnm
  refine Go.st (fun t_ k_ => castTop (g' := mkF m_ 0 #[.val (.ref a), .val (.ref b), .val (.int (0 : Int32)), .val (.int (0 : Int32)), .val .null, .unset] []) (by first | (simp [entryFrame, mkF, argsToLocals, Value.category]; done) | rfl) k_) ?_
  show Go p_ e_ bl_ _ (T0.setTop (mkF m_ 0 #[.val (.ref a), .val (.ref b), .val (.int (0 : Int32)), .val (.int (0 : Int32)), .val .null, .unset] []))
  have K0 : Keep h h [a] := Keep.refl _ _
  refine Go.st (fun _ => XS.aloadN W0.here W0.ex rfl (hb hby d4_0) rfl rfl) ?_
  show Go p_ e_ bl_ _ (T0.setTop (mkF m_ 1 #[.val (.ref a), .val (.ref b), .val (.int (0 : Int32)), .val (.int (0 : Int32)), .val .null, .unset] [(.ref a)]))
  refine W0.initO (cx.w 19 rfl) (cx.w 20 rfl) (cx.w 21 rfl) (by rw [hml]; rfl) (hb hby d4_1) (by decide) (Wd := 0) (Nat.le_of_eq rfl) (by decide) ?_
  intro T1 W1
  show Go p_ e_ bl_ _ (T1.setTop (mkF m_ 4 #[.val (.ref a), .val (.ref b), .val (.int (0 : Int32)), .val (.int (0 : Int32)), .val .null, .unset] []))
  refine Go.st (fun _ => XS.iloadN W1.here W1.ex rfl (hb hby d4_4) rfl) ?_
  show Go p_ e_ bl_ _ (T1.setTop (mkF m_ 5 #[.val (.ref a), .val (.ref b), .val (.int (0 : Int32)), .val (.int (0 : Int32)), .val .null, .unset] [(.int (0 : Int32))]))
  refine Go.st (fun _ => XS.ifNo W1.here W1.ex rfl (hb hby d4_5) rfl ((if0 _ _).trans (teq (rfl : (0 : Int32) = (0 : Int32))).2)) ?_
  show Go p_ e_ bl_ _ (T1.setTop (mkF m_ 8 #[.val (.ref a), .val (.ref b), .val (.int (0 : Int32)), .val (.int (0 : Int32)), .val .null, .unset] []))
  refine Go.st (fun _ => XS.aloadN W1.here W1.ex rfl (hb hby d4_8) rfl rfl) ?_
  show Go p_ e_ bl_ _ (T1.setTop (mkF m_ 9 #[.val (.ref a), .val (.ref b), .val (.int (0 : Int32)), .val (.int (0 : Int32)), .val .null, .unset] [(.ref a)]))
  refine W1.ldc (cx.w 22 rfl) cx.str (EL := consts_1) (List.mem_of_getElem? (i := 0) rfl) (vs := []) (z := 0) ⟨by decide, rfl⟩ (by decide) rfl (hb hby d4_9) (j := 0) (by decide) (by decide) (k' := 2) (n' := 4) rfl rfl (by decide) (by decide) ?_
  intro vm2 T2 h2 a2 d2 kA_d2 W2 E2 E_a2 F_coder_a2 F_value_a2 V_d2 nl2
  replace E_a := E_a.ext E2
  replace F_value_a := F_value_a.ext E2
  replace F_coder_a := F_coder_a.ext E2
  replace K0 := K0.ext E2
  show Go p_ e_ bl_ _ (T2.setTop (mkF m_ 11 #[.val (.ref a), .val (.ref b), .val (.int (0 : Int32)), .val (.int (0 : Int32)), .val .null, .unset] [(.ref a2), (.ref a)]))
  refine W2.getF (cx.w 28 rfl) Via.refl F_value_a2 (hb hby d4_11) ?_
  intro T3 W3
  show Go p_ e_ bl_ _ (T3.setTop (mkF m_ 14 #[.val (.ref a), .val (.ref b), .val (.int (0 : Int32)), .val (.int (0 : Int32)), .val .null, .unset] [(.ref d2), (.ref a)]))
  refine W3.putF (cx.w 28 rfl) Via.refl F_value_a E_a (Or.inr ⟨(cx.w 24 rfl), rfl, hnm⟩) (cx.w 9 rfl) (ty := (.array .byte)) (by decide) rfl rfl (List.mem_of_getElem? (i := 0) rfl) g_a (hb hby d4_14) ?_
  intro T4 h4 L4 W4 w4
  replace E_a := E_a.wr w4
  replace F_value_a := F_value_a.same w4
  replace F_coder_a := F_coder_a.other w4 (Or.inr (slot_ne (Or.inr (cx.w 25 rfl)) (Or.inr (cx.w 24 rfl)) (by decide) (t := .byte) (t' := (.array .byte)) (by decide) (by decide)))
  replace E_a2 := E_a2.wr w4
  replace F_coder_a2 := F_coder_a2.other w4 (Or.inl (Ne.symm (nl2 a (List.mem_of_getElem? (i := 0) rfl)).1))
  replace F_value_a2 := F_value_a2.other w4 (Or.inl (Ne.symm (nl2 a (List.mem_of_getElem? (i := 0) rfl)).1))
  replace V_d2 := V_d2.other w4 (Ne.symm (nl2 a (List.mem_of_getElem? (i := 0) rfl)).2)
  replace K0 := K0.wr w4 (Or.inl (List.mem_of_getElem? (i := 0) rfl))
  show Go p_ e_ bl_ _ (T4.setTop (mkF m_ 17 #[.val (.ref a), .val (.ref b), .val (.int (0 : Int32)), .val (.int (0 : Int32)), .val .null, .unset] []))
  refine Go.st (fun _ => XS.aloadN W4.here W4.ex rfl (hb hby d4_17) rfl rfl) ?_
  show Go p_ e_ bl_ _ (T4.setTop (mkF m_ 18 #[.val (.ref a), .val (.ref b), .val (.int (0 : Int32)), .val (.int (0 : Int32)), .val .null, .unset] [(.ref a)]))
  refine W4.ldc (cx.w 22 rfl) cx.str (EL := consts_1) (List.mem_of_getElem? (i := 0) rfl) (vs := []) (z := 0) ⟨by decide, rfl⟩ (by decide) rfl (hb hby d4_18) (j := 0) (by decide) (by decide) (k' := 4) (n' := 8) rfl rfl (by decide) (by decide) ?_
  intro vm5 T5 h5 a5 d5 kA_d5 W5 E5 E_a5 F_coder_a5 F_value_a5 V_d5 nl5
  replace E_a := E_a.ext E5
  replace F_value_a := F_value_a.ext E5
  replace F_coder_a := F_coder_a.ext E5
  replace E_a2 := E_a2.ext E5
  replace F_coder_a2 := F_coder_a2.ext E5
  replace F_value_a2 := F_value_a2.ext E5
  replace V_d2 := V_d2.ext E5
  replace K0 := K0.ext E5
  show Go p_ e_ bl_ _ (T5.setTop (mkF m_ 20 #[.val (.ref a), .val (.ref b), .val (.int (0 : Int32)), .val (.int (0 : Int32)), .val .null, .unset] [(.ref a5), (.ref a)]))
  refine W5.getF (cx.w 29 rfl) Via.refl F_coder_a5 (hb hby d4_20) ?_
  intro T6 W6
  show Go p_ e_ bl_ _ (T6.setTop (mkF m_ 23 #[.val (.ref a), .val (.ref b), .val (.int (0 : Int32)), .val (.int (0 : Int32)), .val .null, .unset] [(.int (0 : Int32)), (.ref a)]))
  refine W6.putF (cx.w 29 rfl) Via.refl F_coder_a E_a (Or.inr ⟨(cx.w 25 rfl), rfl, hnm⟩) (cx.w 9 rfl) (ty := .byte) (by decide) rfl rfl (List.mem_of_getElem? (i := 0) rfl) g_a (hb hby d4_23) ?_
  intro T7 h7 L7 W7 w7
  replace E_a := E_a.wr w7
  replace F_value_a := F_value_a.other w7 (Or.inr (slot_ne (Or.inr (cx.w 24 rfl)) (Or.inr (cx.w 25 rfl)) (by decide) (t := (.array .byte)) (t' := .byte) (by decide) (by decide)))
  replace F_coder_a := F_coder_a.same w7
  replace E_a2 := E_a2.wr w7
  replace F_coder_a2 := F_coder_a2.other w7 (Or.inl (Ne.symm (nl2 a (List.mem_of_getElem? (i := 0) rfl)).1))
  replace F_value_a2 := F_value_a2.other w7 (Or.inl (Ne.symm (nl2 a (List.mem_of_getElem? (i := 0) rfl)).1))
  replace V_d2 := V_d2.other w7 (Ne.symm (nl2 a (List.mem_of_getElem? (i := 0) rfl)).2)
  replace E_a5 := E_a5.wr w7
  replace F_coder_a5 := F_coder_a5.other w7 (Or.inl (Ne.symm (nl5 a (List.mem_of_getElem? (i := 0) rfl)).1))
  replace F_value_a5 := F_value_a5.other w7 (Or.inl (Ne.symm (nl5 a (List.mem_of_getElem? (i := 0) rfl)).1))
  replace V_d5 := V_d5.other w7 (Ne.symm (nl5 a (List.mem_of_getElem? (i := 0) rfl)).2)
  replace K0 := K0.wr w7 (Or.inl (List.mem_of_getElem? (i := 0) rfl))
  show Go p_ e_ bl_ _ (T7.setTop (mkF m_ 26 #[.val (.ref a), .val (.ref b), .val (.int (0 : Int32)), .val (.int (0 : Int32)), .val .null, .unset] []))
  exact W7.retV hret (hb hby d4_26) (by decide) (by decide) fun _ _ => ⟨rfl, K0, _, E_a, F_coder_a, F_value_a, ⟨_, V_d2⟩, Ch8.nil, Nat.zero_le _⟩
set_option maxRecDepth 65536 in
set_option maxHeartbeats 40000000 in
theorem ct_i1e {l : Launch} {Z : State} {a0 : Array Value} {n0 : Nat} {g1 : Int32} {gf : Value} {ea : Addr} {kea : ClassId} (cx : Ctx Z a0 n0 g1 gf ea kea) {h : Heap} (O : Old Z n0 h) (a b : Addr) {kb : ClassId} (E_a : Exa Z h a "java/lang/String") (F_value_a : Fld Z h a "java/lang/String" "value" "[B" .null) (F_coder_a : Fld Z h a "java/lang/String" "coder" "B" (.int 0)) (g_a : n0 ≤ a) (V_b : Arv Z h b kb .char 0 [] (.int 0)) :
    Ct l Z consts_1 n0 [] (⟨"java/lang/String", "<init>", "([C)V"⟩ : MethodName) jdk_42_method_3_code 2 none ({ frames := 2, cells := 4, slots := 8, locals := 29 } : Room) #[(.ref a), (.ref b)] [a] h (fun v _ h' => v = none ∧ Keep h h' [a] ∧ ∃ t, StrAt Z h' a t []) := by
  refine Ct.intro (plainFor_of_name pn0) O cx.ew ?_
  intro p_ e_ s_ m_ bl_ mt_ c_ T0 W0 hby hml hret hnm
  refine Go.st (fun t_ k_ => castTop (g' := mkF m_ 0 #[.val (.ref a), .val (.ref b)] []) (by first | (simp [entryFrame, mkF, argsToLocals, Value.category]; done) | rfl) k_) ?_
  show Go p_ e_ bl_ _ (T0.setTop (mkF m_ 0 #[.val (.ref a), .val (.ref b)] []))
  refine Go.st (fun _ => XS.aloadN W0.here W0.ex rfl (hb hby d3_0) rfl rfl) ?_
  show Go p_ e_ bl_ _ (T0.setTop (mkF m_ 1 #[.val (.ref a), .val (.ref b)] [(.ref a)]))
  refine Go.st (fun _ => XS.aloadN W0.here W0.ex rfl (hb hby d3_1) rfl rfl) ?_
  show Go p_ e_ bl_ _ (T0.setTop (mkF m_ 2 #[.val (.ref a), .val (.ref b)] [(.ref b), (.ref a)]))
  refine Go.st (fun _ => XS.iconst W0.here W0.ex rfl (hb hby d3_2)) ?_
  show Go p_ e_ bl_ _ (T0.setTop (mkF m_ 3 #[.val (.ref a), .val (.ref b)] [(.int (0 : Int32)), (.ref b), (.ref a)]))
  refine Go.st (fun _ => XS.aloadN W0.here W0.ex rfl (hb hby d3_3) rfl rfl) ?_
  show Go p_ e_ bl_ _ (T0.setTop (mkF m_ 4 #[.val (.ref a), .val (.ref b)] [(.ref b), (.int (0 : Int32)), (.ref b), (.ref a)]))
  refine W0.alen V_b (hb hby d3_4) ?_
  show Go p_ e_ bl_ _ (T0.setTop (mkF m_ 5 #[.val (.ref a), .val (.ref b)] [(.int (0 : Int32)), (.int (0 : Int32)), (.ref b), (.ref a)]))
  refine Go.st (fun _ => XS.aconstNull W0.here W0.ex rfl (hb hby d3_5)) ?_
  show Go p_ e_ bl_ _ (T0.setTop (mkF m_ 6 #[.val (.ref a), .val (.ref b)] [.null, (.int (0 : Int32)), (.int (0 : Int32)), (.ref b), (.ref a)]))
  refine W0.callI (y := (⟨"java/lang/String", "<init>", "([CIILjava/lang/Void;)V"⟩ : MethodName)) rfl (cx.w 15 rfl) (cx.w 16 rfl) (cx.w 10 rfl) (cx.w 18 rfl) (by decide) (ct_i4e cx W0.old a b E_a F_value_a F_coder_a g_a) (allS (List.mem_of_getElem? (i := 0) rfl) all0) (by decide) (Wd := 0) (by decide) (k' := 4) (n' := 8) rfl rfl (by decide) (by decide) (by rw [hml]; rfl) (a := a) (argsL := [(.ref b), (.int (0 : Int32)), (.int (0 : Int32)), .null]) (rest := []) rfl (lenOf pd0 rfl) rfl (Nat.le_of_eq rfl) (hb hby d3_6) ?_
  intro v1 vm1 T1 h1 L1 W1 q1
  obtain ⟨rfl, K1, t1, S1⟩ := q1
  show Go p_ e_ bl_ _ (T1.setTop (mkF m_ 9 #[.val (.ref a), .val (.ref b)] []))
  exact W1.retV hret (hb hby d3_9) (by decide) (by decide) fun _ _ => ⟨rfl, K1, t1, S1⟩
set_option maxRecDepth 65536 in
set_option maxHeartbeats 40000000 in
theorem ct_ch {l : Launch} {Z : State} {a0 : Array Value} {n0 : Nat} {g1 : Int32} {gf : Value} {ea : Addr} {kea : ClassId} (cx : Ctx Z a0 n0 g1 gf ea kea) {h : Heap} (O : Old Z n0 h) (x : Int32)  :
    Ct l Z consts_1 n0 [] (⟨"com/example/dovetail_fields/dovetailfields/CommandLineArgumentsOptionNamePinLaw", "ch", "(I)C"⟩ : MethodName) method_2_code 1 (some .char) ({ frames := 0, cells := 0, slots := 0, locals := 0 } : Room) #[(.int x)] [] h (fun v _ h' => v = some (.int (chV x)) ∧ h' = h) := by
  refine Ct.intro (plainFor_of_name pn1) O cx.ew ?_
  intro p_ e_ s_ m_ bl_ mt_ c_ T0 W0 hby hml hret hnm
  refine Go.st (fun t_ k_ => castTop (g' := mkF m_ 0 #[.val (.int x)] []) (by first | (simp [entryFrame, mkF, argsToLocals, Value.category]; done) | rfl) k_) ?_
  show Go p_ e_ bl_ _ (T0.setTop (mkF m_ 0 #[.val (.int x)] []))
  refine Go.st (fun _ => XS.iloadN W0.here W0.ex rfl (hb hby d1_0) rfl) ?_
  show Go p_ e_ bl_ _ (T0.setTop (mkF m_ 1 #[.val (.int x)] [(.int x)]))
  refine Go.st (fun _ => XS.sipush W0.here W0.ex rfl (hb hby d1_1)) ?_
  show Go p_ e_ bl_ _ (T0.setTop (mkF m_ 4 #[.val (.int x)] [(.int (256 : Int32)), (.int x)]))
  refine Go.st (fun _ => XS.iand W0.here W0.ex rfl (hb hby d1_4) rfl) ?_
  show Go p_ e_ bl_ _ (T0.setTop (mkF m_ 5 #[.val (.int x)] [(.int (x &&& (256 : Int32)))]))
  by_cases hx : (x &&& (256 : Int32)) = (0 : Int32)
  · refine Go.st (fun _ => XS.ifYes W0.here W0.ex rfl (pc0 := 5) (pc' := 11) rfl (hb hby d1_5) rfl ((if0 _ _).trans (teq (hx : (x &&& (256 : Int32)) = (0 : Int32))).1) (by decide) (by decide)) ?_
    show Go p_ e_ bl_ _ (T0.setTop (mkF m_ 11 #[.val (.int x)] []))
    refine Go.st (fun _ => XS.iloadN W0.here W0.ex rfl (hb hby d1_11) rfl) ?_
    show Go p_ e_ bl_ _ (T0.setTop (mkF m_ 12 #[.val (.int x)] [(.int x)]))
    refine Go.st (fun _ => XS.sipush W0.here W0.ex rfl (hb hby d1_12)) ?_
    show Go p_ e_ bl_ _ (T0.setTop (mkF m_ 15 #[.val (.int x)] [(.int (255 : Int32)), (.int x)]))
    refine Go.st (fun _ => XS.iand W0.here W0.ex rfl (hb hby d1_15) rfl) ?_
    show Go p_ e_ bl_ _ (T0.setTop (mkF m_ 16 #[.val (.int x)] [(.int (x &&& (255 : Int32)))]))
    refine Go.st (fun _ => XS.i2c W0.here W0.ex rfl (hb hby d1_16) rfl) ?_
    show Go p_ e_ bl_ _ (T0.setTop (mkF m_ 17 #[.val (.int x)] [(.int ((x &&& (255 : Int32)).toUInt32.toUInt16.toUInt32.toInt32))]))
    rw [i2c_id (and255 x)]
    show Go p_ e_ bl_ _ (T0.setTop (mkF m_ 17 #[.val (.int x)] [(.int (x &&& (255 : Int32)))]))
    exact W0.retN hret (by simp) (hb hby d1_17) (by decide) (by decide) fun _ _ => ⟨by simp only [chV, if_pos hx]; exact congrArg (fun q => some (Value.int q)) (nar_char (and255 x)), rfl⟩
  · refine Go.st (fun _ => XS.ifNo W0.here W0.ex rfl (hb hby d1_5) rfl ((if0 _ _).trans (feq (hx : ¬ ((x &&& (256 : Int32)) = (0 : Int32)))).1)) ?_
    show Go p_ e_ bl_ _ (T0.setTop (mkF m_ 8 #[.val (.int x)] []))
    refine Go.st (fun _ => XS.bipush W0.here W0.ex rfl (hb hby d1_8)) ?_
    show Go p_ e_ bl_ _ (T0.setTop (mkF m_ 10 #[.val (.int x)] [(.int (61 : Int32))]))
    exact W0.retN hret (by simp) (hb hby d1_10) (by decide) (by decide) fun _ _ => ⟨by simp only [chV, if_neg hx]; rfl, rfl⟩
set_option maxRecDepth 65536 in
set_option maxHeartbeats 40000000 in
theorem ct_mk0 {l : Launch} {Z : State} {a0 : Array Value} {n0 : Nat} {g1 : Int32} {gf : Value} {ea : Addr} {kea : ClassId} (cx : Ctx Z a0 n0 g1 gf ea kea) {h : Heap} (O : Old Z n0 h) (c0 c1 c2 c3 : Int32) (r0 : ¬ c0 < 0 ∧ ¬ (255 : Int32) < c0) (r1 : ¬ c1 < 0 ∧ ¬ (255 : Int32) < c1) (r2 : ¬ c2 < 0 ∧ ¬ (255 : Int32) < c2) (r3 : ¬ c3 < 0 ∧ ¬ (255 : Int32) < c3) :
    Ct l Z consts_1 n0 [] (⟨"com/example/dovetail_fields/dovetailfields/CommandLineArgumentsOptionNamePinLaw", "mk", "(ICCCC)Ljava/lang/String;"⟩ : MethodName) method_3_code 5 (some (.object "java/lang/String")) ({ frames := 4, cells := 6, slots := 12, locals := 66 } : Room) #[(.int (0 : Int32)), (.int c0), (.int c1), (.int c2), (.int c3)] [] h (fun v _ h' => ∃ (a t : Addr), v = some (.ref a) ∧ h.size ≤ a ∧ n0 ≤ a ∧ Keep h h' [] ∧ StrAt Z h' a t (([c0, c1, c2, c3] : List Int32).take 0)) := by
  refine Ct.intro (plainFor_of_name pn1) O cx.ew ?_
  intro p_ e_ s_ m_ bl_ mt_ c_ T0 W0 hby hml hret hnm
  refine Go.st (fun t_ k_ => castTop (g' := mkF m_ 0 #[.val (.int (0 : Int32)), .val (.int c0), .val (.int c1), .val (.int c2), .val (.int c3)] []) (by first | (simp [entryFrame, mkF, argsToLocals, Value.category]; done) | rfl) k_) ?_
  show Go p_ e_ bl_ _ (T0.setTop (mkF m_ 0 #[.val (.int (0 : Int32)), .val (.int c0), .val (.int c1), .val (.int c2), .val (.int c3)] []))
  have K0 : Keep h h [] := Keep.refl _ _
  refine Go.st (fun _ => XS.iloadN W0.here W0.ex rfl (hb hby d2_0) rfl) ?_
  show Go p_ e_ bl_ _ (T0.setTop (mkF m_ 1 #[.val (.int (0 : Int32)), .val (.int c0), .val (.int c1), .val (.int c2), .val (.int c3)] [(.int (0 : Int32))]))
  refine Go.st (fun _ => XS.ifNo W0.here W0.ex rfl (hb hby d2_1) rfl ((if0 _ _).trans (flt ((by decide) : ¬ ((0 : Int32) < (0 : Int32)))).2.2.1)) ?_
  show Go p_ e_ bl_ _ (T0.setTop (mkF m_ 4 #[.val (.int (0 : Int32)), .val (.int c0), .val (.int c1), .val (.int c2), .val (.int c3)] []))
  refine W0.newO (cx.w 8 rfl) (cx.w 9 rfl) (cx.w 10 rfl) (hb hby d2_4) (k' := 1) (n' := 4) rfl rfl (by decide) (by decide) ?_
  intro T1 h1 b1 hb1 g_b1 W1 E1 E_b1 D1
  have sz_b1 : h.size ≤ b1 := Nat.le_trans K0.1 (Nat.le_of_eq hb1.symm)
  replace K0 := K0.ext E1
  have F_value_b1 : Fld Z h1 b1 "java/lang/String" "value" "[B" .null := D1 (Or.inr (cx.w 24 rfl)) (ty := (.array .byte)) (by decide)
  have F_coder_b1 : Fld Z h1 b1 "java/lang/String" "coder" "B" (.int (0 : Int32)) := D1 (Or.inr (cx.w 25 rfl)) (ty := .byte) (by decide)
  show Go p_ e_ bl_ _ (T1.setTop (mkF m_ 7 #[.val (.int (0 : Int32)), .val (.int c0), .val (.int c1), .val (.int c2), .val (.int c3)] [(.ref b1)]))
  refine Go.st (fun _ => XS.dup W1.here W1.ex rfl (hb hby d2_7) rfl rfl) ?_
  show Go p_ e_ bl_ _ (T1.setTop (mkF m_ 8 #[.val (.int (0 : Int32)), .val (.int c0), .val (.int c1), .val (.int c2), .val (.int c3)] [(.ref b1), (.ref b1)]))
  refine Go.st (fun _ => XS.iconst W1.here W1.ex rfl (hb hby d2_8)) ?_
  show Go p_ e_ bl_ _ (T1.setTop (mkF m_ 9 #[.val (.int (0 : Int32)), .val (.int c0), .val (.int c1), .val (.int c2), .val (.int c3)] [(.int (0 : Int32)), (.ref b1), (.ref b1)]))
  refine W1.newP (ty := .char) (dv := .int 0) rfl rfl (cx.w 11 rfl) (hb hby d2_9) (z := (0 : Int32)) (by decide) (cap := 0) (by decide) (by decide) (k' := 2) (n' := 4) rfl rfl (by decide) (by decide) ?_
  intro T2 h2 b2 kA_b2 hb2 g_b2 W2 E2 V_b2
  have ne_b1_b2 : b1 ≠ b2 := Nat.ne_of_lt (Nat.lt_of_lt_of_le E_b1.lt (Nat.le_of_eq hb2.symm))
  have sz_b2 : h.size ≤ b2 := Nat.le_trans K0.1 (Nat.le_of_eq hb2.symm)
  replace E_b1 := E_b1.ext E2
  replace F_value_b1 := F_value_b1.ext E2
  replace F_coder_b1 := F_coder_b1.ext E2
  replace K0 := K0.ext E2
  replace V_b2 : Arv Z h2 b2 kA_b2 .char (0 : Int32) [] (.int 0) := V_b2
  show Go p_ e_ bl_ _ (T2.setTop (mkF m_ 11 #[.val (.int (0 : Int32)), .val (.int c0), .val (.int c1), .val (.int c2), .val (.int c3)] [(.ref b2), (.ref b1), (.ref b1)]))
  refine W2.callI (y := (⟨"java/lang/String", "<init>", "([C)V"⟩ : MethodName)) rfl (cx.w 12 rfl) (cx.w 13 rfl) (cx.w 10 rfl) (cx.w 14 rfl) (by decide) (ct_i1e cx W2.old b1 b2 E_b1 F_value_b1 F_coder_b1 g_b1 V_b2) (allS (List.mem_of_getElem? (i := 1) rfl) all0) (by decide) (Wd := 1) (by decide) (k' := 6) (n' := 12) rfl rfl (by decide) (by decide) (by rw [hml]; rfl) (a := b1) (argsL := [(.ref b2)]) (rest := [(.ref b1)]) rfl (lenOf pd1 rfl) rfl (Nat.le_of_eq rfl) (hb hby d2_11) ?_
  intro v4 vm4 T4 h4 L4 W4 q4
  obtain ⟨rfl, Ke3, t, S_n⟩ := q4
  replace E_b1 := E_b1.keep Ke3
  replace V_b2 := V_b2.keep Ke3 (ninS (Ne.symm ne_b1_b2) nin0)
  replace K0 := K0.trans Ke3 (allS (Or.inr sz_b1) all0)
  show Go p_ e_ bl_ _ (T4.setTop (mkF m_ 14 #[.val (.int (0 : Int32)), .val (.int c0), .val (.int c1), .val (.int c2), .val (.int c3)] [(.ref b1)]))
  have S_b1 : StrAt Z h4 b1 t [] := S_n
  exact W4.retA hret rfl rfl (hb hby d2_14) (by decide) (by decide) fun _ _ => ⟨b1, _, rfl, sz_b1, g_b1, K0, S_b1⟩
set_option maxRecDepth 65536 in
set_option maxHeartbeats 40000000 in
theorem ct_mk1 {l : Launch} {Z : State} {a0 : Array Value} {n0 : Nat} {g1 : Int32} {gf : Value} {ea : Addr} {kea : ClassId} (cx : Ctx Z a0 n0 g1 gf ea kea) {h : Heap} (O : Old Z n0 h) (c0 c1 c2 c3 : Int32) (r0 : ¬ c0 < 0 ∧ ¬ (255 : Int32) < c0) (r1 : ¬ c1 < 0 ∧ ¬ (255 : Int32) < c1) (r2 : ¬ c2 < 0 ∧ ¬ (255 : Int32) < c2) (r3 : ¬ c3 < 0 ∧ ¬ (255 : Int32) < c3) :
    Ct l Z consts_1 n0 [] (⟨"com/example/dovetail_fields/dovetailfields/CommandLineArgumentsOptionNamePinLaw", "mk", "(ICCCC)Ljava/lang/String;"⟩ : MethodName) method_3_code 5 (some (.object "java/lang/String")) ({ frames := 4, cells := 6, slots := 12, locals := 66 } : Room) #[(.int (1 : Int32)), (.int c0), (.int c1), (.int c2), (.int c3)] [] h (fun v _ h' => ∃ (a t : Addr), v = some (.ref a) ∧ h.size ≤ a ∧ n0 ≤ a ∧ Keep h h' [] ∧ StrAt Z h' a t (([c0, c1, c2, c3] : List Int32).take 1)) := by
  refine Ct.intro (plainFor_of_name pn1) O cx.ew ?_
  intro p_ e_ s_ m_ bl_ mt_ c_ T0 W0 hby hml hret hnm
  refine Go.st (fun t_ k_ => castTop (g' := mkF m_ 0 #[.val (.int (1 : Int32)), .val (.int c0), .val (.int c1), .val (.int c2), .val (.int c3)] []) (by first | (simp [entryFrame, mkF, argsToLocals, Value.category]; done) | rfl) k_) ?_
  show Go p_ e_ bl_ _ (T0.setTop (mkF m_ 0 #[.val (.int (1 : Int32)), .val (.int c0), .val (.int c1), .val (.int c2), .val (.int c3)] []))
  have K0 : Keep h h [] := Keep.refl _ _
  refine Go.st (fun _ => XS.iloadN W0.here W0.ex rfl (hb hby d2_0) rfl) ?_
  show Go p_ e_ bl_ _ (T0.setTop (mkF m_ 1 #[.val (.int (1 : Int32)), .val (.int c0), .val (.int c1), .val (.int c2), .val (.int c3)] [(.int (1 : Int32))]))
  refine Go.st (fun _ => XS.ifYes W0.here W0.ex rfl (pc0 := 1) (pc' := 15) rfl (hb hby d2_1) rfl ((if0 _ _).trans (tlt ((by decide) : (0 : Int32) < (1 : Int32))).2.2.1) (by decide) (by decide)) ?_
  show Go p_ e_ bl_ _ (T0.setTop (mkF m_ 15 #[.val (.int (1 : Int32)), .val (.int c0), .val (.int c1), .val (.int c2), .val (.int c3)] []))
  refine Go.st (fun _ => XS.iloadN W0.here W0.ex rfl (hb hby d2_15) rfl) ?_
  show Go p_ e_ bl_ _ (T0.setTop (mkF m_ 16 #[.val (.int (1 : Int32)), .val (.int c0), .val (.int c1), .val (.int c2), .val (.int c3)] [(.int (1 : Int32))]))
  refine Go.st (fun _ => XS.iconst W0.here W0.ex rfl (hb hby d2_16)) ?_
  show Go p_ e_ bl_ _ (T0.setTop (mkF m_ 17 #[.val (.int (1 : Int32)), .val (.int c0), .val (.int c1), .val (.int c2), .val (.int c3)] [(.int (1 : Int32)), (.int (1 : Int32))]))
  refine Go.st (fun _ => XS.icmpNo W0.here W0.ex rfl (hb hby d2_17) rfl (teq (rfl : (1 : Int32) = (1 : Int32))).2) ?_
  show Go p_ e_ bl_ _ (T0.setTop (mkF m_ 20 #[.val (.int (1 : Int32)), .val (.int c0), .val (.int c1), .val (.int c2), .val (.int c3)] []))
  refine W0.newO (cx.w 8 rfl) (cx.w 9 rfl) (cx.w 10 rfl) (hb hby d2_20) (k' := 1) (n' := 4) rfl rfl (by decide) (by decide) ?_
  intro T1 h1 b1 hb1 g_b1 W1 E1 E_b1 D1
  have sz_b1 : h.size ≤ b1 := Nat.le_trans K0.1 (Nat.le_of_eq hb1.symm)
  replace K0 := K0.ext E1
  have F_value_b1 : Fld Z h1 b1 "java/lang/String" "value" "[B" .null := D1 (Or.inr (cx.w 24 rfl)) (ty := (.array .byte)) (by decide)
  have F_coder_b1 : Fld Z h1 b1 "java/lang/String" "coder" "B" (.int (0 : Int32)) := D1 (Or.inr (cx.w 25 rfl)) (ty := .byte) (by decide)
  show Go p_ e_ bl_ _ (T1.setTop (mkF m_ 23 #[.val (.int (1 : Int32)), .val (.int c0), .val (.int c1), .val (.int c2), .val (.int c3)] [(.ref b1)]))
  refine Go.st (fun _ => XS.dup W1.here W1.ex rfl (hb hby d2_23) rfl rfl) ?_
  show Go p_ e_ bl_ _ (T1.setTop (mkF m_ 24 #[.val (.int (1 : Int32)), .val (.int c0), .val (.int c1), .val (.int c2), .val (.int c3)] [(.ref b1), (.ref b1)]))
  refine Go.st (fun _ => XS.iconst W1.here W1.ex rfl (hb hby d2_24)) ?_
  show Go p_ e_ bl_ _ (T1.setTop (mkF m_ 25 #[.val (.int (1 : Int32)), .val (.int c0), .val (.int c1), .val (.int c2), .val (.int c3)] [(.int (1 : Int32)), (.ref b1), (.ref b1)]))
  refine W1.newP (ty := .char) (dv := .int 0) rfl rfl (cx.w 11 rfl) (hb hby d2_25) (z := (1 : Int32)) (by decide) (cap := 1) (by decide) (by decide) (k' := 2) (n' := 5) rfl rfl (by decide) (by decide) ?_
  intro T2 h2 b2 kA_b2 hb2 g_b2 W2 E2 V_b2
  have ne_b1_b2 : b1 ≠ b2 := Nat.ne_of_lt (Nat.lt_of_lt_of_le E_b1.lt (Nat.le_of_eq hb2.symm))
  have sz_b2 : h.size ≤ b2 := Nat.le_trans K0.1 (Nat.le_of_eq hb2.symm)
  replace E_b1 := E_b1.ext E2
  replace F_value_b1 := F_value_b1.ext E2
  replace F_coder_b1 := F_coder_b1.ext E2
  replace K0 := K0.ext E2
  replace V_b2 : Arv Z h2 b2 kA_b2 .char (1 : Int32) [(.int 0)] (.int 0) := V_b2
  show Go p_ e_ bl_ _ (T2.setTop (mkF m_ 27 #[.val (.int (1 : Int32)), .val (.int c0), .val (.int c1), .val (.int c2), .val (.int c3)] [(.ref b2), (.ref b1), (.ref b1)]))
  refine Go.st (fun _ => XS.dup W2.here W2.ex rfl (hb hby d2_27) rfl rfl) ?_
  show Go p_ e_ bl_ _ (T2.setTop (mkF m_ 28 #[.val (.int (1 : Int32)), .val (.int c0), .val (.int c1), .val (.int c2), .val (.int c3)] [(.ref b2), (.ref b2), (.ref b1), (.ref b1)]))
  refine Go.st (fun _ => XS.iconst W2.here W2.ex rfl (hb hby d2_28)) ?_
  show Go p_ e_ bl_ _ (T2.setTop (mkF m_ 29 #[.val (.int (1 : Int32)), .val (.int c0), .val (.int c1), .val (.int c2), .val (.int c3)] [(.int (0 : Int32)), (.ref b2), (.ref b2), (.ref b1), (.ref b1)]))
  refine Go.st (fun _ => XS.iloadN W2.here W2.ex rfl (hb hby d2_29) rfl) ?_
  show Go p_ e_ bl_ _ (T2.setTop (mkF m_ 30 #[.val (.int (1 : Int32)), .val (.int c0), .val (.int c1), .val (.int c2), .val (.int c3)] [(.int c0), (.int (0 : Int32)), (.ref b2), (.ref b2), (.ref b1), (.ref b1)]))
  refine W2.stC V_b2 (j := (0 : Int32)) (x := c0) ⟨by decide, by decide⟩ 0 rfl (Nat.le_of_ble_eq_true rfl) (List.mem_of_getElem? (i := 0) rfl) g_b2 (hb hby d2_30) ?_
  intro T3 h3 L3 W3 w3 V_new
  replace E_b1 := E_b1.wr w3
  replace F_value_b1 := F_value_b1.other w3 (Or.inl ne_b1_b2)
  replace F_coder_b1 := F_coder_b1.other w3 (Or.inl ne_b1_b2)
  replace K0 := K0.wr w3 (Or.inr sz_b2)
  rw [nar_char r0] at V_new
  replace V_b2 : Arv Z h3 b2 kA_b2 .char (1 : Int32) [(.int c0)] (.int 0) := V_new
  clear V_new
  show Go p_ e_ bl_ _ (T3.setTop (mkF m_ 31 #[.val (.int (1 : Int32)), .val (.int c0), .val (.int c1), .val (.int c2), .val (.int c3)] [(.ref b2), (.ref b1), (.ref b1)]))
  refine W3.libI (y := (⟨"java/lang/String", "<init>", "([C)V"⟩ : MethodName)) rfl (cx.w 12 rfl) (cx.w 13 rfl) (cx.w 14 rfl) (by decide) (Q := StrChars.Road.QV Z b1 (1 : Int32) ((([c0] : List Int32)).map (fun c => c.toInt8.toInt32)) h3 n0) (ws := [b1]) (Wd := 1) (ck := 1) (cn := 1) (StrChars.Road.backV (W := 1) W3.hZ cx.vw (kI := 4) (cx.w 9 rfl) (cs := ([c0] : List Int32)) (bs := (([c0] : List Int32)).map (fun c => c.toInt8.toInt32)) (n := 1) g_b1 W3.n0le E_b1 F_value_b1 F_coder_b1 V_b2 (cx.cmp.ext W3.e0) cx.g1 rfl rfl (by decide) (by decide) (Ch8.cons r0 Ch8.nil) rfl (by decide) (by decide)) (fun v h' L' q => ⟨q.2.1, q.2.2.1⟩) (allS (List.mem_of_getElem? (i := 1) rfl) all0) (allS g_b1 all0) (k' := 3) (n' := 6) rfl rfl (by decide) (by decide) (by rw [hml]; rfl) (a := b1) (argsL := [(.ref b2)]) (rest := [(.ref b1)]) rfl (lenOf pd1 rfl) rfl (Nat.le_of_eq rfl) (hb hby d2_31) ?_
  intro v5 T5 h5 M5 L5 W5 q5
  obtain ⟨rfl, -, Kv4, E_n, F_cn, t, k_t, g_t, hz_t, -, F_vn, V_n⟩ := q5
  have ne_b1_t : b1 ≠ t := Nat.ne_of_lt (Nat.lt_of_lt_of_le E_b1.lt hz_t)
  have ne_b2_t : b2 ≠ t := Nat.ne_of_lt (Nat.lt_of_lt_of_le V_b2.lt hz_t)
  have sz_t : h.size ≤ t := Nat.le_trans K0.1 hz_t
  replace E_b1 := E_b1.keep Kv4
  replace V_b2 := V_b2.keep Kv4 (ninS (Ne.symm ne_b1_b2) nin0)
  replace K0 := K0.trans Kv4 (allS (Or.inr sz_b1) all0)
  show Go p_ e_ bl_ _ (T5.setTop (mkF m_ 34 #[.val (.int (1 : Int32)), .val (.int c0), .val (.int c1), .val (.int c2), .val (.int c3)] [(.ref b1)]))
  have S_b1 : StrAt Z h5 b1 t ([c0] : List Int32) := ⟨E_n, F_cn, F_vn, ⟨_, V_n⟩, (Ch8.cons r0 Ch8.nil), Nat.le_of_ble_eq_true rfl⟩
  exact W5.retA hret rfl rfl (hb hby d2_34) (by decide) (by decide) fun _ _ => ⟨b1, _, rfl, sz_b1, g_b1, K0, S_b1⟩
set_option maxRecDepth 65536 in
set_option maxHeartbeats 40000000 in
theorem ct_mk2 {l : Launch} {Z : State} {a0 : Array Value} {n0 : Nat} {g1 : Int32} {gf : Value} {ea : Addr} {kea : ClassId} (cx : Ctx Z a0 n0 g1 gf ea kea) {h : Heap} (O : Old Z n0 h) (c0 c1 c2 c3 : Int32) (r0 : ¬ c0 < 0 ∧ ¬ (255 : Int32) < c0) (r1 : ¬ c1 < 0 ∧ ¬ (255 : Int32) < c1) (r2 : ¬ c2 < 0 ∧ ¬ (255 : Int32) < c2) (r3 : ¬ c3 < 0 ∧ ¬ (255 : Int32) < c3) :
    Ct l Z consts_1 n0 [] (⟨"com/example/dovetail_fields/dovetailfields/CommandLineArgumentsOptionNamePinLaw", "mk", "(ICCCC)Ljava/lang/String;"⟩ : MethodName) method_3_code 5 (some (.object "java/lang/String")) ({ frames := 4, cells := 6, slots := 12, locals := 66 } : Room) #[(.int (2 : Int32)), (.int c0), (.int c1), (.int c2), (.int c3)] [] h (fun v _ h' => ∃ (a t : Addr), v = some (.ref a) ∧ h.size ≤ a ∧ n0 ≤ a ∧ Keep h h' [] ∧ StrAt Z h' a t (([c0, c1, c2, c3] : List Int32).take 2)) := by
  refine Ct.intro (plainFor_of_name pn1) O cx.ew ?_
  intro p_ e_ s_ m_ bl_ mt_ c_ T0 W0 hby hml hret hnm
  refine Go.st (fun t_ k_ => castTop (g' := mkF m_ 0 #[.val (.int (2 : Int32)), .val (.int c0), .val (.int c1), .val (.int c2), .val (.int c3)] []) (by first | (simp [entryFrame, mkF, argsToLocals, Value.category]; done) | rfl) k_) ?_
  show Go p_ e_ bl_ _ (T0.setTop (mkF m_ 0 #[.val (.int (2 : Int32)), .val (.int c0), .val (.int c1), .val (.int c2), .val (.int c3)] []))
  have K0 : Keep h h [] := Keep.refl _ _
  refine Go.st (fun _ => XS.iloadN W0.here W0.ex rfl (hb hby d2_0) rfl) ?_
  show Go p_ e_ bl_ _ (T0.setTop (mkF m_ 1 #[.val (.int (2 : Int32)), .val (.int c0), .val (.int c1), .val (.int c2), .val (.int c3)] [(.int (2 : Int32))]))
  refine Go.st (fun _ => XS.ifYes W0.here W0.ex rfl (pc0 := 1) (pc' := 15) rfl (hb hby d2_1) rfl ((if0 _ _).trans (tlt ((by decide) : (0 : Int32) < (2 : Int32))).2.2.1) (by decide) (by decide)) ?_
  show Go p_ e_ bl_ _ (T0.setTop (mkF m_ 15 #[.val (.int (2 : Int32)), .val (.int c0), .val (.int c1), .val (.int c2), .val (.int c3)] []))
  refine Go.st (fun _ => XS.iloadN W0.here W0.ex rfl (hb hby d2_15) rfl) ?_
  show Go p_ e_ bl_ _ (T0.setTop (mkF m_ 16 #[.val (.int (2 : Int32)), .val (.int c0), .val (.int c1), .val (.int c2), .val (.int c3)] [(.int (2 : Int32))]))
  refine Go.st (fun _ => XS.iconst W0.here W0.ex rfl (hb hby d2_16)) ?_
  show Go p_ e_ bl_ _ (T0.setTop (mkF m_ 17 #[.val (.int (2 : Int32)), .val (.int c0), .val (.int c1), .val (.int c2), .val (.int c3)] [(.int (1 : Int32)), (.int (2 : Int32))]))
  refine Go.st (fun _ => XS.icmpYes W0.here W0.ex rfl (pc0 := 17) (pc' := 35) rfl (hb hby d2_17) rfl (feq ((by decide) : ¬ ((2 : Int32) = (1 : Int32)))).2 (by decide) (by decide)) ?_
  show Go p_ e_ bl_ _ (T0.setTop (mkF m_ 35 #[.val (.int (2 : Int32)), .val (.int c0), .val (.int c1), .val (.int c2), .val (.int c3)] []))
  refine Go.st (fun _ => XS.iloadN W0.here W0.ex rfl (hb hby d2_35) rfl) ?_
  show Go p_ e_ bl_ _ (T0.setTop (mkF m_ 36 #[.val (.int (2 : Int32)), .val (.int c0), .val (.int c1), .val (.int c2), .val (.int c3)] [(.int (2 : Int32))]))
  refine Go.st (fun _ => XS.iconst W0.here W0.ex rfl (hb hby d2_36)) ?_
  show Go p_ e_ bl_ _ (T0.setTop (mkF m_ 37 #[.val (.int (2 : Int32)), .val (.int c0), .val (.int c1), .val (.int c2), .val (.int c3)] [(.int (2 : Int32)), (.int (2 : Int32))]))
  refine Go.st (fun _ => XS.icmpNo W0.here W0.ex rfl (hb hby d2_37) rfl (teq (rfl : (2 : Int32) = (2 : Int32))).2) ?_
  show Go p_ e_ bl_ _ (T0.setTop (mkF m_ 40 #[.val (.int (2 : Int32)), .val (.int c0), .val (.int c1), .val (.int c2), .val (.int c3)] []))
  refine W0.newO (cx.w 8 rfl) (cx.w 9 rfl) (cx.w 10 rfl) (hb hby d2_40) (k' := 1) (n' := 4) rfl rfl (by decide) (by decide) ?_
  intro T1 h1 b1 hb1 g_b1 W1 E1 E_b1 D1
  have sz_b1 : h.size ≤ b1 := Nat.le_trans K0.1 (Nat.le_of_eq hb1.symm)
  replace K0 := K0.ext E1
  have F_value_b1 : Fld Z h1 b1 "java/lang/String" "value" "[B" .null := D1 (Or.inr (cx.w 24 rfl)) (ty := (.array .byte)) (by decide)
  have F_coder_b1 : Fld Z h1 b1 "java/lang/String" "coder" "B" (.int (0 : Int32)) := D1 (Or.inr (cx.w 25 rfl)) (ty := .byte) (by decide)
  show Go p_ e_ bl_ _ (T1.setTop (mkF m_ 43 #[.val (.int (2 : Int32)), .val (.int c0), .val (.int c1), .val (.int c2), .val (.int c3)] [(.ref b1)]))
  refine Go.st (fun _ => XS.dup W1.here W1.ex rfl (hb hby d2_43) rfl rfl) ?_
  show Go p_ e_ bl_ _ (T1.setTop (mkF m_ 44 #[.val (.int (2 : Int32)), .val (.int c0), .val (.int c1), .val (.int c2), .val (.int c3)] [(.ref b1), (.ref b1)]))
  refine Go.st (fun _ => XS.iconst W1.here W1.ex rfl (hb hby d2_44)) ?_
  show Go p_ e_ bl_ _ (T1.setTop (mkF m_ 45 #[.val (.int (2 : Int32)), .val (.int c0), .val (.int c1), .val (.int c2), .val (.int c3)] [(.int (2 : Int32)), (.ref b1), (.ref b1)]))
  refine W1.newP (ty := .char) (dv := .int 0) rfl rfl (cx.w 11 rfl) (hb hby d2_45) (z := (2 : Int32)) (by decide) (cap := 2) (by decide) (by decide) (k' := 2) (n' := 6) rfl rfl (by decide) (by decide) ?_
  intro T2 h2 b2 kA_b2 hb2 g_b2 W2 E2 V_b2
  have ne_b1_b2 : b1 ≠ b2 := Nat.ne_of_lt (Nat.lt_of_lt_of_le E_b1.lt (Nat.le_of_eq hb2.symm))
  have sz_b2 : h.size ≤ b2 := Nat.le_trans K0.1 (Nat.le_of_eq hb2.symm)
  replace E_b1 := E_b1.ext E2
  replace F_value_b1 := F_value_b1.ext E2
  replace F_coder_b1 := F_coder_b1.ext E2
  replace K0 := K0.ext E2
  replace V_b2 : Arv Z h2 b2 kA_b2 .char (2 : Int32) [(.int 0), (.int 0)] (.int 0) := V_b2
  show Go p_ e_ bl_ _ (T2.setTop (mkF m_ 47 #[.val (.int (2 : Int32)), .val (.int c0), .val (.int c1), .val (.int c2), .val (.int c3)] [(.ref b2), (.ref b1), (.ref b1)]))
  refine Go.st (fun _ => XS.dup W2.here W2.ex rfl (hb hby d2_47) rfl rfl) ?_
  show Go p_ e_ bl_ _ (T2.setTop (mkF m_ 48 #[.val (.int (2 : Int32)), .val (.int c0), .val (.int c1), .val (.int c2), .val (.int c3)] [(.ref b2), (.ref b2), (.ref b1), (.ref b1)]))
  refine Go.st (fun _ => XS.iconst W2.here W2.ex rfl (hb hby d2_48)) ?_
  show Go p_ e_ bl_ _ (T2.setTop (mkF m_ 49 #[.val (.int (2 : Int32)), .val (.int c0), .val (.int c1), .val (.int c2), .val (.int c3)] [(.int (0 : Int32)), (.ref b2), (.ref b2), (.ref b1), (.ref b1)]))
  refine Go.st (fun _ => XS.iloadN W2.here W2.ex rfl (hb hby d2_49) rfl) ?_
  show Go p_ e_ bl_ _ (T2.setTop (mkF m_ 50 #[.val (.int (2 : Int32)), .val (.int c0), .val (.int c1), .val (.int c2), .val (.int c3)] [(.int c0), (.int (0 : Int32)), (.ref b2), (.ref b2), (.ref b1), (.ref b1)]))
  refine W2.stC V_b2 (j := (0 : Int32)) (x := c0) ⟨by decide, by decide⟩ 0 rfl (Nat.le_of_ble_eq_true rfl) (List.mem_of_getElem? (i := 0) rfl) g_b2 (hb hby d2_50) ?_
  intro T3 h3 L3 W3 w3 V_new
  replace E_b1 := E_b1.wr w3
  replace F_value_b1 := F_value_b1.other w3 (Or.inl ne_b1_b2)
  replace F_coder_b1 := F_coder_b1.other w3 (Or.inl ne_b1_b2)
  replace K0 := K0.wr w3 (Or.inr sz_b2)
  rw [nar_char r0] at V_new
  replace V_b2 : Arv Z h3 b2 kA_b2 .char (2 : Int32) [(.int c0), (.int 0)] (.int 0) := V_new
  clear V_new
  show Go p_ e_ bl_ _ (T3.setTop (mkF m_ 51 #[.val (.int (2 : Int32)), .val (.int c0), .val (.int c1), .val (.int c2), .val (.int c3)] [(.ref b2), (.ref b1), (.ref b1)]))
  refine Go.st (fun _ => XS.dup W3.here W3.ex rfl (hb hby d2_51) rfl rfl) ?_
  show Go p_ e_ bl_ _ (T3.setTop (mkF m_ 52 #[.val (.int (2 : Int32)), .val (.int c0), .val (.int c1), .val (.int c2), .val (.int c3)] [(.ref b2), (.ref b2), (.ref b1), (.ref b1)]))
  refine Go.st (fun _ => XS.iconst W3.here W3.ex rfl (hb hby d2_52)) ?_
  show Go p_ e_ bl_ _ (T3.setTop (mkF m_ 53 #[.val (.int (2 : Int32)), .val (.int c0), .val (.int c1), .val (.int c2), .val (.int c3)] [(.int (1 : Int32)), (.ref b2), (.ref b2), (.ref b1), (.ref b1)]))
  refine Go.st (fun _ => XS.iloadN W3.here W3.ex rfl (hb hby d2_53) rfl) ?_
  show Go p_ e_ bl_ _ (T3.setTop (mkF m_ 54 #[.val (.int (2 : Int32)), .val (.int c0), .val (.int c1), .val (.int c2), .val (.int c3)] [(.int c1), (.int (1 : Int32)), (.ref b2), (.ref b2), (.ref b1), (.ref b1)]))
  refine W3.stC V_b2 (j := (1 : Int32)) (x := c1) ⟨by decide, by decide⟩ 1 rfl (Nat.le_of_ble_eq_true rfl) (List.mem_of_getElem? (i := 0) rfl) g_b2 (hb hby d2_54) ?_
  intro T4 h4 L4 W4 w4 V_new
  replace E_b1 := E_b1.wr w4
  replace F_value_b1 := F_value_b1.other w4 (Or.inl ne_b1_b2)
  replace F_coder_b1 := F_coder_b1.other w4 (Or.inl ne_b1_b2)
  replace K0 := K0.wr w4 (Or.inr sz_b2)
  rw [nar_char r1] at V_new
  replace V_b2 : Arv Z h4 b2 kA_b2 .char (2 : Int32) [(.int c0), (.int c1)] (.int 0) := V_new
  clear V_new
  show Go p_ e_ bl_ _ (T4.setTop (mkF m_ 55 #[.val (.int (2 : Int32)), .val (.int c0), .val (.int c1), .val (.int c2), .val (.int c3)] [(.ref b2), (.ref b1), (.ref b1)]))
  refine W4.libI (y := (⟨"java/lang/String", "<init>", "([C)V"⟩ : MethodName)) rfl (cx.w 12 rfl) (cx.w 13 rfl) (cx.w 14 rfl) (by decide) (Q := StrChars.Road.QV Z b1 (2 : Int32) ((([c0, c1] : List Int32)).map (fun c => c.toInt8.toInt32)) h4 n0) (ws := [b1]) (Wd := 1) (ck := 1) (cn := 2) (StrChars.Road.backV (W := 1) W4.hZ cx.vw (kI := 4) (cx.w 9 rfl) (cs := ([c0, c1] : List Int32)) (bs := (([c0, c1] : List Int32)).map (fun c => c.toInt8.toInt32)) (n := 2) g_b1 W4.n0le E_b1 F_value_b1 F_coder_b1 V_b2 (cx.cmp.ext W4.e0) cx.g1 rfl rfl (by decide) (by decide) (Ch8.cons r0 (Ch8.cons r1 Ch8.nil)) rfl (by decide) (by decide)) (fun v h' L' q => ⟨q.2.1, q.2.2.1⟩) (allS (List.mem_of_getElem? (i := 1) rfl) all0) (allS g_b1 all0) (k' := 3) (n' := 8) rfl rfl (by decide) (by decide) (by rw [hml]; rfl) (a := b1) (argsL := [(.ref b2)]) (rest := [(.ref b1)]) rfl (lenOf pd1 rfl) rfl (Nat.le_of_eq rfl) (hb hby d2_55) ?_
  intro v6 T6 h6 M6 L6 W6 q6
  obtain ⟨rfl, -, Kv5, E_n, F_cn, t, k_t, g_t, hz_t, -, F_vn, V_n⟩ := q6
  have ne_b1_t : b1 ≠ t := Nat.ne_of_lt (Nat.lt_of_lt_of_le E_b1.lt hz_t)
  have ne_b2_t : b2 ≠ t := Nat.ne_of_lt (Nat.lt_of_lt_of_le V_b2.lt hz_t)
  have sz_t : h.size ≤ t := Nat.le_trans K0.1 hz_t
  replace E_b1 := E_b1.keep Kv5
  replace V_b2 := V_b2.keep Kv5 (ninS (Ne.symm ne_b1_b2) nin0)
  replace K0 := K0.trans Kv5 (allS (Or.inr sz_b1) all0)
  show Go p_ e_ bl_ _ (T6.setTop (mkF m_ 58 #[.val (.int (2 : Int32)), .val (.int c0), .val (.int c1), .val (.int c2), .val (.int c3)] [(.ref b1)]))
  have S_b1 : StrAt Z h6 b1 t ([c0, c1] : List Int32) := ⟨E_n, F_cn, F_vn, ⟨_, V_n⟩, (Ch8.cons r0 (Ch8.cons r1 Ch8.nil)), Nat.le_of_ble_eq_true rfl⟩
  exact W6.retA hret rfl rfl (hb hby d2_58) (by decide) (by decide) fun _ _ => ⟨b1, _, rfl, sz_b1, g_b1, K0, S_b1⟩
set_option maxRecDepth 65536 in
set_option maxHeartbeats 40000000 in
theorem ct_mk3 {l : Launch} {Z : State} {a0 : Array Value} {n0 : Nat} {g1 : Int32} {gf : Value} {ea : Addr} {kea : ClassId} (cx : Ctx Z a0 n0 g1 gf ea kea) {h : Heap} (O : Old Z n0 h) (c0 c1 c2 c3 : Int32) (r0 : ¬ c0 < 0 ∧ ¬ (255 : Int32) < c0) (r1 : ¬ c1 < 0 ∧ ¬ (255 : Int32) < c1) (r2 : ¬ c2 < 0 ∧ ¬ (255 : Int32) < c2) (r3 : ¬ c3 < 0 ∧ ¬ (255 : Int32) < c3) :
    Ct l Z consts_1 n0 [] (⟨"com/example/dovetail_fields/dovetailfields/CommandLineArgumentsOptionNamePinLaw", "mk", "(ICCCC)Ljava/lang/String;"⟩ : MethodName) method_3_code 5 (some (.object "java/lang/String")) ({ frames := 4, cells := 6, slots := 12, locals := 66 } : Room) #[(.int (3 : Int32)), (.int c0), (.int c1), (.int c2), (.int c3)] [] h (fun v _ h' => ∃ (a t : Addr), v = some (.ref a) ∧ h.size ≤ a ∧ n0 ≤ a ∧ Keep h h' [] ∧ StrAt Z h' a t (([c0, c1, c2, c3] : List Int32).take 3)) := by
  refine Ct.intro (plainFor_of_name pn1) O cx.ew ?_
  intro p_ e_ s_ m_ bl_ mt_ c_ T0 W0 hby hml hret hnm
  refine Go.st (fun t_ k_ => castTop (g' := mkF m_ 0 #[.val (.int (3 : Int32)), .val (.int c0), .val (.int c1), .val (.int c2), .val (.int c3)] []) (by first | (simp [entryFrame, mkF, argsToLocals, Value.category]; done) | rfl) k_) ?_
  show Go p_ e_ bl_ _ (T0.setTop (mkF m_ 0 #[.val (.int (3 : Int32)), .val (.int c0), .val (.int c1), .val (.int c2), .val (.int c3)] []))
  have K0 : Keep h h [] := Keep.refl _ _
  refine Go.st (fun _ => XS.iloadN W0.here W0.ex rfl (hb hby d2_0) rfl) ?_
  show Go p_ e_ bl_ _ (T0.setTop (mkF m_ 1 #[.val (.int (3 : Int32)), .val (.int c0), .val (.int c1), .val (.int c2), .val (.int c3)] [(.int (3 : Int32))]))
  refine Go.st (fun _ => XS.ifYes W0.here W0.ex rfl (pc0 := 1) (pc' := 15) rfl (hb hby d2_1) rfl ((if0 _ _).trans (tlt ((by decide) : (0 : Int32) < (3 : Int32))).2.2.1) (by decide) (by decide)) ?_
  show Go p_ e_ bl_ _ (T0.setTop (mkF m_ 15 #[.val (.int (3 : Int32)), .val (.int c0), .val (.int c1), .val (.int c2), .val (.int c3)] []))
  refine Go.st (fun _ => XS.iloadN W0.here W0.ex rfl (hb hby d2_15) rfl) ?_
  show Go p_ e_ bl_ _ (T0.setTop (mkF m_ 16 #[.val (.int (3 : Int32)), .val (.int c0), .val (.int c1), .val (.int c2), .val (.int c3)] [(.int (3 : Int32))]))
  refine Go.st (fun _ => XS.iconst W0.here W0.ex rfl (hb hby d2_16)) ?_
  show Go p_ e_ bl_ _ (T0.setTop (mkF m_ 17 #[.val (.int (3 : Int32)), .val (.int c0), .val (.int c1), .val (.int c2), .val (.int c3)] [(.int (1 : Int32)), (.int (3 : Int32))]))
  refine Go.st (fun _ => XS.icmpYes W0.here W0.ex rfl (pc0 := 17) (pc' := 35) rfl (hb hby d2_17) rfl (feq ((by decide) : ¬ ((3 : Int32) = (1 : Int32)))).2 (by decide) (by decide)) ?_
  show Go p_ e_ bl_ _ (T0.setTop (mkF m_ 35 #[.val (.int (3 : Int32)), .val (.int c0), .val (.int c1), .val (.int c2), .val (.int c3)] []))
  refine Go.st (fun _ => XS.iloadN W0.here W0.ex rfl (hb hby d2_35) rfl) ?_
  show Go p_ e_ bl_ _ (T0.setTop (mkF m_ 36 #[.val (.int (3 : Int32)), .val (.int c0), .val (.int c1), .val (.int c2), .val (.int c3)] [(.int (3 : Int32))]))
  refine Go.st (fun _ => XS.iconst W0.here W0.ex rfl (hb hby d2_36)) ?_
  show Go p_ e_ bl_ _ (T0.setTop (mkF m_ 37 #[.val (.int (3 : Int32)), .val (.int c0), .val (.int c1), .val (.int c2), .val (.int c3)] [(.int (2 : Int32)), (.int (3 : Int32))]))
  refine Go.st (fun _ => XS.icmpYes W0.here W0.ex rfl (pc0 := 37) (pc' := 59) rfl (hb hby d2_37) rfl (feq ((by decide) : ¬ ((3 : Int32) = (2 : Int32)))).2 (by decide) (by decide)) ?_
  show Go p_ e_ bl_ _ (T0.setTop (mkF m_ 59 #[.val (.int (3 : Int32)), .val (.int c0), .val (.int c1), .val (.int c2), .val (.int c3)] []))
  refine Go.st (fun _ => XS.iloadN W0.here W0.ex rfl (hb hby d2_59) rfl) ?_
  show Go p_ e_ bl_ _ (T0.setTop (mkF m_ 60 #[.val (.int (3 : Int32)), .val (.int c0), .val (.int c1), .val (.int c2), .val (.int c3)] [(.int (3 : Int32))]))
  refine Go.st (fun _ => XS.iconst W0.here W0.ex rfl (hb hby d2_60)) ?_
  show Go p_ e_ bl_ _ (T0.setTop (mkF m_ 61 #[.val (.int (3 : Int32)), .val (.int c0), .val (.int c1), .val (.int c2), .val (.int c3)] [(.int (3 : Int32)), (.int (3 : Int32))]))
  refine Go.st (fun _ => XS.icmpNo W0.here W0.ex rfl (hb hby d2_61) rfl (teq (rfl : (3 : Int32) = (3 : Int32))).2) ?_
  show Go p_ e_ bl_ _ (T0.setTop (mkF m_ 64 #[.val (.int (3 : Int32)), .val (.int c0), .val (.int c1), .val (.int c2), .val (.int c3)] []))
  refine W0.newO (cx.w 8 rfl) (cx.w 9 rfl) (cx.w 10 rfl) (hb hby d2_64) (k' := 1) (n' := 4) rfl rfl (by decide) (by decide) ?_
  intro T1 h1 b1 hb1 g_b1 W1 E1 E_b1 D1
  have sz_b1 : h.size ≤ b1 := Nat.le_trans K0.1 (Nat.le_of_eq hb1.symm)
  replace K0 := K0.ext E1
  have F_value_b1 : Fld Z h1 b1 "java/lang/String" "value" "[B" .null := D1 (Or.inr (cx.w 24 rfl)) (ty := (.array .byte)) (by decide)
  have F_coder_b1 : Fld Z h1 b1 "java/lang/String" "coder" "B" (.int (0 : Int32)) := D1 (Or.inr (cx.w 25 rfl)) (ty := .byte) (by decide)
  show Go p_ e_ bl_ _ (T1.setTop (mkF m_ 67 #[.val (.int (3 : Int32)), .val (.int c0), .val (.int c1), .val (.int c2), .val (.int c3)] [(.ref b1)]))
  refine Go.st (fun _ => XS.dup W1.here W1.ex rfl (hb hby d2_67) rfl rfl) ?_
  show Go p_ e_ bl_ _ (T1.setTop (mkF m_ 68 #[.val (.int (3 : Int32)), .val (.int c0), .val (.int c1), .val (.int c2), .val (.int c3)] [(.ref b1), (.ref b1)]))
  refine Go.st (fun _ => XS.iconst W1.here W1.ex rfl (hb hby d2_68)) ?_
  show Go p_ e_ bl_ _ (T1.setTop (mkF m_ 69 #[.val (.int (3 : Int32)), .val (.int c0), .val (.int c1), .val (.int c2), .val (.int c3)] [(.int (3 : Int32)), (.ref b1), (.ref b1)]))
  refine W1.newP (ty := .char) (dv := .int 0) rfl rfl (cx.w 11 rfl) (hb hby d2_69) (z := (3 : Int32)) (by decide) (cap := 3) (by decide) (by decide) (k' := 2) (n' := 7) rfl rfl (by decide) (by decide) ?_
  intro T2 h2 b2 kA_b2 hb2 g_b2 W2 E2 V_b2
  have ne_b1_b2 : b1 ≠ b2 := Nat.ne_of_lt (Nat.lt_of_lt_of_le E_b1.lt (Nat.le_of_eq hb2.symm))
  have sz_b2 : h.size ≤ b2 := Nat.le_trans K0.1 (Nat.le_of_eq hb2.symm)
  replace E_b1 := E_b1.ext E2
  replace F_value_b1 := F_value_b1.ext E2
  replace F_coder_b1 := F_coder_b1.ext E2
  replace K0 := K0.ext E2
  replace V_b2 : Arv Z h2 b2 kA_b2 .char (3 : Int32) [(.int 0), (.int 0), (.int 0)] (.int 0) := V_b2
  show Go p_ e_ bl_ _ (T2.setTop (mkF m_ 71 #[.val (.int (3 : Int32)), .val (.int c0), .val (.int c1), .val (.int c2), .val (.int c3)] [(.ref b2), (.ref b1), (.ref b1)]))
  refine Go.st (fun _ => XS.dup W2.here W2.ex rfl (hb hby d2_71) rfl rfl) ?_
  show Go p_ e_ bl_ _ (T2.setTop (mkF m_ 72 #[.val (.int (3 : Int32)), .val (.int c0), .val (.int c1), .val (.int c2), .val (.int c3)] [(.ref b2), (.ref b2), (.ref b1), (.ref b1)]))
  refine Go.st (fun _ => XS.iconst W2.here W2.ex rfl (hb hby d2_72)) ?_
  show Go p_ e_ bl_ _ (T2.setTop (mkF m_ 73 #[.val (.int (3 : Int32)), .val (.int c0), .val (.int c1), .val (.int c2), .val (.int c3)] [(.int (0 : Int32)), (.ref b2), (.ref b2), (.ref b1), (.ref b1)]))
  refine Go.st (fun _ => XS.iloadN W2.here W2.ex rfl (hb hby d2_73) rfl) ?_
  show Go p_ e_ bl_ _ (T2.setTop (mkF m_ 74 #[.val (.int (3 : Int32)), .val (.int c0), .val (.int c1), .val (.int c2), .val (.int c3)] [(.int c0), (.int (0 : Int32)), (.ref b2), (.ref b2), (.ref b1), (.ref b1)]))
  refine W2.stC V_b2 (j := (0 : Int32)) (x := c0) ⟨by decide, by decide⟩ 0 rfl (Nat.le_of_ble_eq_true rfl) (List.mem_of_getElem? (i := 0) rfl) g_b2 (hb hby d2_74) ?_
  intro T3 h3 L3 W3 w3 V_new
  replace E_b1 := E_b1.wr w3
  replace F_value_b1 := F_value_b1.other w3 (Or.inl ne_b1_b2)
  replace F_coder_b1 := F_coder_b1.other w3 (Or.inl ne_b1_b2)
  replace K0 := K0.wr w3 (Or.inr sz_b2)
  rw [nar_char r0] at V_new
  replace V_b2 : Arv Z h3 b2 kA_b2 .char (3 : Int32) [(.int c0), (.int 0), (.int 0)] (.int 0) := V_new
  clear V_new
  show Go p_ e_ bl_ _ (T3.setTop (mkF m_ 75 #[.val (.int (3 : Int32)), .val (.int c0), .val (.int c1), .val (.int c2), .val (.int c3)] [(.ref b2), (.ref b1), (.ref b1)]))
  refine Go.st (fun _ => XS.dup W3.here W3.ex rfl (hb hby d2_75) rfl rfl) ?_
  show Go p_ e_ bl_ _ (T3.setTop (mkF m_ 76 #[.val (.int (3 : Int32)), .val (.int c0), .val (.int c1), .val (.int c2), .val (.int c3)] [(.ref b2), (.ref b2), (.ref b1), (.ref b1)]))
  refine Go.st (fun _ => XS.iconst W3.here W3.ex rfl (hb hby d2_76)) ?_
  show Go p_ e_ bl_ _ (T3.setTop (mkF m_ 77 #[.val (.int (3 : Int32)), .val (.int c0), .val (.int c1), .val (.int c2), .val (.int c3)] [(.int (1 : Int32)), (.ref b2), (.ref b2), (.ref b1), (.ref b1)]))
  refine Go.st (fun _ => XS.iloadN W3.here W3.ex rfl (hb hby d2_77) rfl) ?_
  show Go p_ e_ bl_ _ (T3.setTop (mkF m_ 78 #[.val (.int (3 : Int32)), .val (.int c0), .val (.int c1), .val (.int c2), .val (.int c3)] [(.int c1), (.int (1 : Int32)), (.ref b2), (.ref b2), (.ref b1), (.ref b1)]))
  refine W3.stC V_b2 (j := (1 : Int32)) (x := c1) ⟨by decide, by decide⟩ 1 rfl (Nat.le_of_ble_eq_true rfl) (List.mem_of_getElem? (i := 0) rfl) g_b2 (hb hby d2_78) ?_
  intro T4 h4 L4 W4 w4 V_new
  replace E_b1 := E_b1.wr w4
  replace F_value_b1 := F_value_b1.other w4 (Or.inl ne_b1_b2)
  replace F_coder_b1 := F_coder_b1.other w4 (Or.inl ne_b1_b2)
  replace K0 := K0.wr w4 (Or.inr sz_b2)
  rw [nar_char r1] at V_new
  replace V_b2 : Arv Z h4 b2 kA_b2 .char (3 : Int32) [(.int c0), (.int c1), (.int 0)] (.int 0) := V_new
  clear V_new
  show Go p_ e_ bl_ _ (T4.setTop (mkF m_ 79 #[.val (.int (3 : Int32)), .val (.int c0), .val (.int c1), .val (.int c2), .val (.int c3)] [(.ref b2), (.ref b1), (.ref b1)]))
  refine Go.st (fun _ => XS.dup W4.here W4.ex rfl (hb hby d2_79) rfl rfl) ?_
  show Go p_ e_ bl_ _ (T4.setTop (mkF m_ 80 #[.val (.int (3 : Int32)), .val (.int c0), .val (.int c1), .val (.int c2), .val (.int c3)] [(.ref b2), (.ref b2), (.ref b1), (.ref b1)]))
  refine Go.st (fun _ => XS.iconst W4.here W4.ex rfl (hb hby d2_80)) ?_
  show Go p_ e_ bl_ _ (T4.setTop (mkF m_ 81 #[.val (.int (3 : Int32)), .val (.int c0), .val (.int c1), .val (.int c2), .val (.int c3)] [(.int (2 : Int32)), (.ref b2), (.ref b2), (.ref b1), (.ref b1)]))
  refine Go.st (fun _ => XS.iloadN W4.here W4.ex rfl (hb hby d2_81) rfl) ?_
  show Go p_ e_ bl_ _ (T4.setTop (mkF m_ 82 #[.val (.int (3 : Int32)), .val (.int c0), .val (.int c1), .val (.int c2), .val (.int c3)] [(.int c2), (.int (2 : Int32)), (.ref b2), (.ref b2), (.ref b1), (.ref b1)]))
  refine W4.stC V_b2 (j := (2 : Int32)) (x := c2) ⟨by decide, by decide⟩ 2 rfl (Nat.le_of_ble_eq_true rfl) (List.mem_of_getElem? (i := 0) rfl) g_b2 (hb hby d2_82) ?_
  intro T5 h5 L5 W5 w5 V_new
  replace E_b1 := E_b1.wr w5
  replace F_value_b1 := F_value_b1.other w5 (Or.inl ne_b1_b2)
  replace F_coder_b1 := F_coder_b1.other w5 (Or.inl ne_b1_b2)
  replace K0 := K0.wr w5 (Or.inr sz_b2)
  rw [nar_char r2] at V_new
  replace V_b2 : Arv Z h5 b2 kA_b2 .char (3 : Int32) [(.int c0), (.int c1), (.int c2)] (.int 0) := V_new
  clear V_new
  show Go p_ e_ bl_ _ (T5.setTop (mkF m_ 83 #[.val (.int (3 : Int32)), .val (.int c0), .val (.int c1), .val (.int c2), .val (.int c3)] [(.ref b2), (.ref b1), (.ref b1)]))
  refine W5.libI (y := (⟨"java/lang/String", "<init>", "([C)V"⟩ : MethodName)) rfl (cx.w 12 rfl) (cx.w 13 rfl) (cx.w 14 rfl) (by decide) (Q := StrChars.Road.QV Z b1 (3 : Int32) ((([c0, c1, c2] : List Int32)).map (fun c => c.toInt8.toInt32)) h5 n0) (ws := [b1]) (Wd := 1) (ck := 1) (cn := 3) (StrChars.Road.backV (W := 1) W5.hZ cx.vw (kI := 4) (cx.w 9 rfl) (cs := ([c0, c1, c2] : List Int32)) (bs := (([c0, c1, c2] : List Int32)).map (fun c => c.toInt8.toInt32)) (n := 3) g_b1 W5.n0le E_b1 F_value_b1 F_coder_b1 V_b2 (cx.cmp.ext W5.e0) cx.g1 rfl rfl (by decide) (by decide) (Ch8.cons r0 (Ch8.cons r1 (Ch8.cons r2 Ch8.nil))) rfl (by decide) (by decide)) (fun v h' L' q => ⟨q.2.1, q.2.2.1⟩) (allS (List.mem_of_getElem? (i := 1) rfl) all0) (allS g_b1 all0) (k' := 3) (n' := 10) rfl rfl (by decide) (by decide) (by rw [hml]; rfl) (a := b1) (argsL := [(.ref b2)]) (rest := [(.ref b1)]) rfl (lenOf pd1 rfl) rfl (Nat.le_of_eq rfl) (hb hby d2_83) ?_
  intro v7 T7 h7 M7 L7 W7 q7
  obtain ⟨rfl, -, Kv6, E_n, F_cn, t, k_t, g_t, hz_t, -, F_vn, V_n⟩ := q7
  have ne_b1_t : b1 ≠ t := Nat.ne_of_lt (Nat.lt_of_lt_of_le E_b1.lt hz_t)
  have ne_b2_t : b2 ≠ t := Nat.ne_of_lt (Nat.lt_of_lt_of_le V_b2.lt hz_t)
  have sz_t : h.size ≤ t := Nat.le_trans K0.1 hz_t
  replace E_b1 := E_b1.keep Kv6
  replace V_b2 := V_b2.keep Kv6 (ninS (Ne.symm ne_b1_b2) nin0)
  replace K0 := K0.trans Kv6 (allS (Or.inr sz_b1) all0)
  show Go p_ e_ bl_ _ (T7.setTop (mkF m_ 86 #[.val (.int (3 : Int32)), .val (.int c0), .val (.int c1), .val (.int c2), .val (.int c3)] [(.ref b1)]))
  have S_b1 : StrAt Z h7 b1 t ([c0, c1, c2] : List Int32) := ⟨E_n, F_cn, F_vn, ⟨_, V_n⟩, (Ch8.cons r0 (Ch8.cons r1 (Ch8.cons r2 Ch8.nil))), Nat.le_of_ble_eq_true rfl⟩
  exact W7.retA hret rfl rfl (hb hby d2_86) (by decide) (by decide) fun _ _ => ⟨b1, _, rfl, sz_b1, g_b1, K0, S_b1⟩
set_option maxRecDepth 65536 in
set_option maxHeartbeats 40000000 in
theorem ct_mk4 {l : Launch} {Z : State} {a0 : Array Value} {n0 : Nat} {g1 : Int32} {gf : Value} {ea : Addr} {kea : ClassId} (cx : Ctx Z a0 n0 g1 gf ea kea) {h : Heap} (O : Old Z n0 h) (c0 c1 c2 c3 : Int32) (r0 : ¬ c0 < 0 ∧ ¬ (255 : Int32) < c0) (r1 : ¬ c1 < 0 ∧ ¬ (255 : Int32) < c1) (r2 : ¬ c2 < 0 ∧ ¬ (255 : Int32) < c2) (r3 : ¬ c3 < 0 ∧ ¬ (255 : Int32) < c3) :
    Ct l Z consts_1 n0 [] (⟨"com/example/dovetail_fields/dovetailfields/CommandLineArgumentsOptionNamePinLaw", "mk", "(ICCCC)Ljava/lang/String;"⟩ : MethodName) method_3_code 5 (some (.object "java/lang/String")) ({ frames := 4, cells := 6, slots := 12, locals := 66 } : Room) #[(.int (4 : Int32)), (.int c0), (.int c1), (.int c2), (.int c3)] [] h (fun v _ h' => ∃ (a t : Addr), v = some (.ref a) ∧ h.size ≤ a ∧ n0 ≤ a ∧ Keep h h' [] ∧ StrAt Z h' a t (([c0, c1, c2, c3] : List Int32).take 4)) := by
  refine Ct.intro (plainFor_of_name pn1) O cx.ew ?_
  intro p_ e_ s_ m_ bl_ mt_ c_ T0 W0 hby hml hret hnm
  refine Go.st (fun t_ k_ => castTop (g' := mkF m_ 0 #[.val (.int (4 : Int32)), .val (.int c0), .val (.int c1), .val (.int c2), .val (.int c3)] []) (by first | (simp [entryFrame, mkF, argsToLocals, Value.category]; done) | rfl) k_) ?_
  show Go p_ e_ bl_ _ (T0.setTop (mkF m_ 0 #[.val (.int (4 : Int32)), .val (.int c0), .val (.int c1), .val (.int c2), .val (.int c3)] []))
  have K0 : Keep h h [] := Keep.refl _ _
  refine Go.st (fun _ => XS.iloadN W0.here W0.ex rfl (hb hby d2_0) rfl) ?_
  show Go p_ e_ bl_ _ (T0.setTop (mkF m_ 1 #[.val (.int (4 : Int32)), .val (.int c0), .val (.int c1), .val (.int c2), .val (.int c3)] [(.int (4 : Int32))]))
  refine Go.st (fun _ => XS.ifYes W0.here W0.ex rfl (pc0 := 1) (pc' := 15) rfl (hb hby d2_1) rfl ((if0 _ _).trans (tlt ((by decide) : (0 : Int32) < (4 : Int32))).2.2.1) (by decide) (by decide)) ?_
  show Go p_ e_ bl_ _ (T0.setTop (mkF m_ 15 #[.val (.int (4 : Int32)), .val (.int c0), .val (.int c1), .val (.int c2), .val (.int c3)] []))
  refine Go.st (fun _ => XS.iloadN W0.here W0.ex rfl (hb hby d2_15) rfl) ?_
  show Go p_ e_ bl_ _ (T0.setTop (mkF m_ 16 #[.val (.int (4 : Int32)), .val (.int c0), .val (.int c1), .val (.int c2), .val (.int c3)] [(.int (4 : Int32))]))
  refine Go.st (fun _ => XS.iconst W0.here W0.ex rfl (hb hby d2_16)) ?_
  show Go p_ e_ bl_ _ (T0.setTop (mkF m_ 17 #[.val (.int (4 : Int32)), .val (.int c0), .val (.int c1), .val (.int c2), .val (.int c3)] [(.int (1 : Int32)), (.int (4 : Int32))]))
  refine Go.st (fun _ => XS.icmpYes W0.here W0.ex rfl (pc0 := 17) (pc' := 35) rfl (hb hby d2_17) rfl (feq ((by decide) : ¬ ((4 : Int32) = (1 : Int32)))).2 (by decide) (by decide)) ?_
  show Go p_ e_ bl_ _ (T0.setTop (mkF m_ 35 #[.val (.int (4 : Int32)), .val (.int c0), .val (.int c1), .val (.int c2), .val (.int c3)] []))
  refine Go.st (fun _ => XS.iloadN W0.here W0.ex rfl (hb hby d2_35) rfl) ?_
  show Go p_ e_ bl_ _ (T0.setTop (mkF m_ 36 #[.val (.int (4 : Int32)), .val (.int c0), .val (.int c1), .val (.int c2), .val (.int c3)] [(.int (4 : Int32))]))
  refine Go.st (fun _ => XS.iconst W0.here W0.ex rfl (hb hby d2_36)) ?_
  show Go p_ e_ bl_ _ (T0.setTop (mkF m_ 37 #[.val (.int (4 : Int32)), .val (.int c0), .val (.int c1), .val (.int c2), .val (.int c3)] [(.int (2 : Int32)), (.int (4 : Int32))]))
  refine Go.st (fun _ => XS.icmpYes W0.here W0.ex rfl (pc0 := 37) (pc' := 59) rfl (hb hby d2_37) rfl (feq ((by decide) : ¬ ((4 : Int32) = (2 : Int32)))).2 (by decide) (by decide)) ?_
  show Go p_ e_ bl_ _ (T0.setTop (mkF m_ 59 #[.val (.int (4 : Int32)), .val (.int c0), .val (.int c1), .val (.int c2), .val (.int c3)] []))
  refine Go.st (fun _ => XS.iloadN W0.here W0.ex rfl (hb hby d2_59) rfl) ?_
  show Go p_ e_ bl_ _ (T0.setTop (mkF m_ 60 #[.val (.int (4 : Int32)), .val (.int c0), .val (.int c1), .val (.int c2), .val (.int c3)] [(.int (4 : Int32))]))
  refine Go.st (fun _ => XS.iconst W0.here W0.ex rfl (hb hby d2_60)) ?_
  show Go p_ e_ bl_ _ (T0.setTop (mkF m_ 61 #[.val (.int (4 : Int32)), .val (.int c0), .val (.int c1), .val (.int c2), .val (.int c3)] [(.int (3 : Int32)), (.int (4 : Int32))]))
  refine Go.st (fun _ => XS.icmpYes W0.here W0.ex rfl (pc0 := 61) (pc' := 87) rfl (hb hby d2_61) rfl (feq ((by decide) : ¬ ((4 : Int32) = (3 : Int32)))).2 (by decide) (by decide)) ?_
  show Go p_ e_ bl_ _ (T0.setTop (mkF m_ 87 #[.val (.int (4 : Int32)), .val (.int c0), .val (.int c1), .val (.int c2), .val (.int c3)] []))
  refine W0.newO (cx.w 8 rfl) (cx.w 9 rfl) (cx.w 10 rfl) (hb hby d2_87) (k' := 1) (n' := 4) rfl rfl (by decide) (by decide) ?_
  intro T1 h1 b1 hb1 g_b1 W1 E1 E_b1 D1
  have sz_b1 : h.size ≤ b1 := Nat.le_trans K0.1 (Nat.le_of_eq hb1.symm)
  replace K0 := K0.ext E1
  have F_value_b1 : Fld Z h1 b1 "java/lang/String" "value" "[B" .null := D1 (Or.inr (cx.w 24 rfl)) (ty := (.array .byte)) (by decide)
  have F_coder_b1 : Fld Z h1 b1 "java/lang/String" "coder" "B" (.int (0 : Int32)) := D1 (Or.inr (cx.w 25 rfl)) (ty := .byte) (by decide)
  show Go p_ e_ bl_ _ (T1.setTop (mkF m_ 90 #[.val (.int (4 : Int32)), .val (.int c0), .val (.int c1), .val (.int c2), .val (.int c3)] [(.ref b1)]))
  refine Go.st (fun _ => XS.dup W1.here W1.ex rfl (hb hby d2_90) rfl rfl) ?_
  show Go p_ e_ bl_ _ (T1.setTop (mkF m_ 91 #[.val (.int (4 : Int32)), .val (.int c0), .val (.int c1), .val (.int c2), .val (.int c3)] [(.ref b1), (.ref b1)]))
  refine Go.st (fun _ => XS.iconst W1.here W1.ex rfl (hb hby d2_91)) ?_
  show Go p_ e_ bl_ _ (T1.setTop (mkF m_ 92 #[.val (.int (4 : Int32)), .val (.int c0), .val (.int c1), .val (.int c2), .val (.int c3)] [(.int (4 : Int32)), (.ref b1), (.ref b1)]))
  refine W1.newP (ty := .char) (dv := .int 0) rfl rfl (cx.w 11 rfl) (hb hby d2_92) (z := (4 : Int32)) (by decide) (cap := 4) (by decide) (by decide) (k' := 2) (n' := 8) rfl rfl (by decide) (by decide) ?_
  intro T2 h2 b2 kA_b2 hb2 g_b2 W2 E2 V_b2
  have ne_b1_b2 : b1 ≠ b2 := Nat.ne_of_lt (Nat.lt_of_lt_of_le E_b1.lt (Nat.le_of_eq hb2.symm))
  have sz_b2 : h.size ≤ b2 := Nat.le_trans K0.1 (Nat.le_of_eq hb2.symm)
  replace E_b1 := E_b1.ext E2
  replace F_value_b1 := F_value_b1.ext E2
  replace F_coder_b1 := F_coder_b1.ext E2
  replace K0 := K0.ext E2
  replace V_b2 : Arv Z h2 b2 kA_b2 .char (4 : Int32) [(.int 0), (.int 0), (.int 0), (.int 0)] (.int 0) := V_b2
  show Go p_ e_ bl_ _ (T2.setTop (mkF m_ 94 #[.val (.int (4 : Int32)), .val (.int c0), .val (.int c1), .val (.int c2), .val (.int c3)] [(.ref b2), (.ref b1), (.ref b1)]))
  refine Go.st (fun _ => XS.dup W2.here W2.ex rfl (hb hby d2_94) rfl rfl) ?_
  show Go p_ e_ bl_ _ (T2.setTop (mkF m_ 95 #[.val (.int (4 : Int32)), .val (.int c0), .val (.int c1), .val (.int c2), .val (.int c3)] [(.ref b2), (.ref b2), (.ref b1), (.ref b1)]))
  refine Go.st (fun _ => XS.iconst W2.here W2.ex rfl (hb hby d2_95)) ?_
  show Go p_ e_ bl_ _ (T2.setTop (mkF m_ 96 #[.val (.int (4 : Int32)), .val (.int c0), .val (.int c1), .val (.int c2), .val (.int c3)] [(.int (0 : Int32)), (.ref b2), (.ref b2), (.ref b1), (.ref b1)]))
  refine Go.st (fun _ => XS.iloadN W2.here W2.ex rfl (hb hby d2_96) rfl) ?_
  show Go p_ e_ bl_ _ (T2.setTop (mkF m_ 97 #[.val (.int (4 : Int32)), .val (.int c0), .val (.int c1), .val (.int c2), .val (.int c3)] [(.int c0), (.int (0 : Int32)), (.ref b2), (.ref b2), (.ref b1), (.ref b1)]))
  refine W2.stC V_b2 (j := (0 : Int32)) (x := c0) ⟨by decide, by decide⟩ 0 rfl (Nat.le_of_ble_eq_true rfl) (List.mem_of_getElem? (i := 0) rfl) g_b2 (hb hby d2_97) ?_
  intro T3 h3 L3 W3 w3 V_new
  replace E_b1 := E_b1.wr w3
  replace F_value_b1 := F_value_b1.other w3 (Or.inl ne_b1_b2)
  replace F_coder_b1 := F_coder_b1.other w3 (Or.inl ne_b1_b2)
  replace K0 := K0.wr w3 (Or.inr sz_b2)
  rw [nar_char r0] at V_new
  replace V_b2 : Arv Z h3 b2 kA_b2 .char (4 : Int32) [(.int c0), (.int 0), (.int 0), (.int 0)] (.int 0) := V_new
  clear V_new
  show Go p_ e_ bl_ _ (T3.setTop (mkF m_ 98 #[.val (.int (4 : Int32)), .val (.int c0), .val (.int c1), .val (.int c2), .val (.int c3)] [(.ref b2), (.ref b1), (.ref b1)]))
  refine Go.st (fun _ => XS.dup W3.here W3.ex rfl (hb hby d2_98) rfl rfl) ?_
  show Go p_ e_ bl_ _ (T3.setTop (mkF m_ 99 #[.val (.int (4 : Int32)), .val (.int c0), .val (.int c1), .val (.int c2), .val (.int c3)] [(.ref b2), (.ref b2), (.ref b1), (.ref b1)]))
  refine Go.st (fun _ => XS.iconst W3.here W3.ex rfl (hb hby d2_99)) ?_
  show Go p_ e_ bl_ _ (T3.setTop (mkF m_ 100 #[.val (.int (4 : Int32)), .val (.int c0), .val (.int c1), .val (.int c2), .val (.int c3)] [(.int (1 : Int32)), (.ref b2), (.ref b2), (.ref b1), (.ref b1)]))
  refine Go.st (fun _ => XS.iloadN W3.here W3.ex rfl (hb hby d2_100) rfl) ?_
  show Go p_ e_ bl_ _ (T3.setTop (mkF m_ 101 #[.val (.int (4 : Int32)), .val (.int c0), .val (.int c1), .val (.int c2), .val (.int c3)] [(.int c1), (.int (1 : Int32)), (.ref b2), (.ref b2), (.ref b1), (.ref b1)]))
  refine W3.stC V_b2 (j := (1 : Int32)) (x := c1) ⟨by decide, by decide⟩ 1 rfl (Nat.le_of_ble_eq_true rfl) (List.mem_of_getElem? (i := 0) rfl) g_b2 (hb hby d2_101) ?_
  intro T4 h4 L4 W4 w4 V_new
  replace E_b1 := E_b1.wr w4
  replace F_value_b1 := F_value_b1.other w4 (Or.inl ne_b1_b2)
  replace F_coder_b1 := F_coder_b1.other w4 (Or.inl ne_b1_b2)
  replace K0 := K0.wr w4 (Or.inr sz_b2)
  rw [nar_char r1] at V_new
  replace V_b2 : Arv Z h4 b2 kA_b2 .char (4 : Int32) [(.int c0), (.int c1), (.int 0), (.int 0)] (.int 0) := V_new
  clear V_new
  show Go p_ e_ bl_ _ (T4.setTop (mkF m_ 102 #[.val (.int (4 : Int32)), .val (.int c0), .val (.int c1), .val (.int c2), .val (.int c3)] [(.ref b2), (.ref b1), (.ref b1)]))
  refine Go.st (fun _ => XS.dup W4.here W4.ex rfl (hb hby d2_102) rfl rfl) ?_
  show Go p_ e_ bl_ _ (T4.setTop (mkF m_ 103 #[.val (.int (4 : Int32)), .val (.int c0), .val (.int c1), .val (.int c2), .val (.int c3)] [(.ref b2), (.ref b2), (.ref b1), (.ref b1)]))
  refine Go.st (fun _ => XS.iconst W4.here W4.ex rfl (hb hby d2_103)) ?_
  show Go p_ e_ bl_ _ (T4.setTop (mkF m_ 104 #[.val (.int (4 : Int32)), .val (.int c0), .val (.int c1), .val (.int c2), .val (.int c3)] [(.int (2 : Int32)), (.ref b2), (.ref b2), (.ref b1), (.ref b1)]))
  refine Go.st (fun _ => XS.iloadN W4.here W4.ex rfl (hb hby d2_104) rfl) ?_
  show Go p_ e_ bl_ _ (T4.setTop (mkF m_ 105 #[.val (.int (4 : Int32)), .val (.int c0), .val (.int c1), .val (.int c2), .val (.int c3)] [(.int c2), (.int (2 : Int32)), (.ref b2), (.ref b2), (.ref b1), (.ref b1)]))
  refine W4.stC V_b2 (j := (2 : Int32)) (x := c2) ⟨by decide, by decide⟩ 2 rfl (Nat.le_of_ble_eq_true rfl) (List.mem_of_getElem? (i := 0) rfl) g_b2 (hb hby d2_105) ?_
  intro T5 h5 L5 W5 w5 V_new
  replace E_b1 := E_b1.wr w5
  replace F_value_b1 := F_value_b1.other w5 (Or.inl ne_b1_b2)
  replace F_coder_b1 := F_coder_b1.other w5 (Or.inl ne_b1_b2)
  replace K0 := K0.wr w5 (Or.inr sz_b2)
  rw [nar_char r2] at V_new
  replace V_b2 : Arv Z h5 b2 kA_b2 .char (4 : Int32) [(.int c0), (.int c1), (.int c2), (.int 0)] (.int 0) := V_new
  clear V_new
  show Go p_ e_ bl_ _ (T5.setTop (mkF m_ 106 #[.val (.int (4 : Int32)), .val (.int c0), .val (.int c1), .val (.int c2), .val (.int c3)] [(.ref b2), (.ref b1), (.ref b1)]))
  refine Go.st (fun _ => XS.dup W5.here W5.ex rfl (hb hby d2_106) rfl rfl) ?_
  show Go p_ e_ bl_ _ (T5.setTop (mkF m_ 107 #[.val (.int (4 : Int32)), .val (.int c0), .val (.int c1), .val (.int c2), .val (.int c3)] [(.ref b2), (.ref b2), (.ref b1), (.ref b1)]))
  refine Go.st (fun _ => XS.iconst W5.here W5.ex rfl (hb hby d2_107)) ?_
  show Go p_ e_ bl_ _ (T5.setTop (mkF m_ 108 #[.val (.int (4 : Int32)), .val (.int c0), .val (.int c1), .val (.int c2), .val (.int c3)] [(.int (3 : Int32)), (.ref b2), (.ref b2), (.ref b1), (.ref b1)]))
  refine Go.st (fun _ => XS.iload W5.here W5.ex rfl (hb hby d2_108) rfl) ?_
  show Go p_ e_ bl_ _ (T5.setTop (mkF m_ 110 #[.val (.int (4 : Int32)), .val (.int c0), .val (.int c1), .val (.int c2), .val (.int c3)] [(.int c3), (.int (3 : Int32)), (.ref b2), (.ref b2), (.ref b1), (.ref b1)]))
  refine W5.stC V_b2 (j := (3 : Int32)) (x := c3) ⟨by decide, by decide⟩ 3 rfl (Nat.le_of_ble_eq_true rfl) (List.mem_of_getElem? (i := 0) rfl) g_b2 (hb hby d2_110) ?_
  intro T6 h6 L6 W6 w6 V_new
  replace E_b1 := E_b1.wr w6
  replace F_value_b1 := F_value_b1.other w6 (Or.inl ne_b1_b2)
  replace F_coder_b1 := F_coder_b1.other w6 (Or.inl ne_b1_b2)
  replace K0 := K0.wr w6 (Or.inr sz_b2)
  rw [nar_char r3] at V_new
  replace V_b2 : Arv Z h6 b2 kA_b2 .char (4 : Int32) [(.int c0), (.int c1), (.int c2), (.int c3)] (.int 0) := V_new
  clear V_new
  show Go p_ e_ bl_ _ (T6.setTop (mkF m_ 111 #[.val (.int (4 : Int32)), .val (.int c0), .val (.int c1), .val (.int c2), .val (.int c3)] [(.ref b2), (.ref b1), (.ref b1)]))
  refine W6.libI (y := (⟨"java/lang/String", "<init>", "([C)V"⟩ : MethodName)) rfl (cx.w 12 rfl) (cx.w 13 rfl) (cx.w 14 rfl) (by decide) (Q := StrChars.Road.QV Z b1 (4 : Int32) ((([c0, c1, c2, c3] : List Int32)).map (fun c => c.toInt8.toInt32)) h6 n0) (ws := [b1]) (Wd := 1) (ck := 1) (cn := 4) (StrChars.Road.backV (W := 1) W6.hZ cx.vw (kI := 4) (cx.w 9 rfl) (cs := ([c0, c1, c2, c3] : List Int32)) (bs := (([c0, c1, c2, c3] : List Int32)).map (fun c => c.toInt8.toInt32)) (n := 4) g_b1 W6.n0le E_b1 F_value_b1 F_coder_b1 V_b2 (cx.cmp.ext W6.e0) cx.g1 rfl rfl (by decide) (by decide) (Ch8.cons r0 (Ch8.cons r1 (Ch8.cons r2 (Ch8.cons r3 Ch8.nil)))) rfl (by decide) (by decide)) (fun v h' L' q => ⟨q.2.1, q.2.2.1⟩) (allS (List.mem_of_getElem? (i := 1) rfl) all0) (allS g_b1 all0) (k' := 3) (n' := 12) rfl rfl (by decide) (by decide) (by rw [hml]; rfl) (a := b1) (argsL := [(.ref b2)]) (rest := [(.ref b1)]) rfl (lenOf pd1 rfl) rfl (Nat.le_of_eq rfl) (hb hby d2_111) ?_
  intro v8 T8 h8 M8 L8 W8 q8
  obtain ⟨rfl, -, Kv7, E_n, F_cn, t, k_t, g_t, hz_t, -, F_vn, V_n⟩ := q8
  have ne_b1_t : b1 ≠ t := Nat.ne_of_lt (Nat.lt_of_lt_of_le E_b1.lt hz_t)
  have ne_b2_t : b2 ≠ t := Nat.ne_of_lt (Nat.lt_of_lt_of_le V_b2.lt hz_t)
  have sz_t : h.size ≤ t := Nat.le_trans K0.1 hz_t
  replace E_b1 := E_b1.keep Kv7
  replace V_b2 := V_b2.keep Kv7 (ninS (Ne.symm ne_b1_b2) nin0)
  replace K0 := K0.trans Kv7 (allS (Or.inr sz_b1) all0)
  show Go p_ e_ bl_ _ (T8.setTop (mkF m_ 114 #[.val (.int (4 : Int32)), .val (.int c0), .val (.int c1), .val (.int c2), .val (.int c3)] [(.ref b1)]))
  have S_b1 : StrAt Z h8 b1 t ([c0, c1, c2, c3] : List Int32) := ⟨E_n, F_cn, F_vn, ⟨_, V_n⟩, (Ch8.cons r0 (Ch8.cons r1 (Ch8.cons r2 (Ch8.cons r3 Ch8.nil)))), Nat.le_of_ble_eq_true rfl⟩
  exact W8.retA hret rfl rfl (hb hby d2_114) (by decide) (by decide) fun _ _ => ⟨b1, _, rfl, sz_b1, g_b1, K0, S_b1⟩
theorem ct_mkG {l : Launch} {Z : State} {a0 : Array Value} {n0 : Nat} {g1 : Int32} {gf : Value} {ea : Addr} {kea : ClassId} (cx : Ctx Z a0 n0 g1 gf ea kea) {h : Heap} (O : Old Z n0 h) (x : Int32) (k : Nat) (c0 c1 c2 c3 : Int32) (ex : x = Int32.ofNat k) (hk : k < 5) (r0 : ¬ c0 < 0 ∧ ¬ (255 : Int32) < c0) (r1 : ¬ c1 < 0 ∧ ¬ (255 : Int32) < c1) (r2 : ¬ c2 < 0 ∧ ¬ (255 : Int32) < c2) (r3 : ¬ c3 < 0 ∧ ¬ (255 : Int32) < c3) :
    Ct l Z consts_1 n0 [] (⟨"com/example/dovetail_fields/dovetailfields/CommandLineArgumentsOptionNamePinLaw", "mk", "(ICCCC)Ljava/lang/String;"⟩ : MethodName) method_3_code 5 (some (.object "java/lang/String")) ({ frames := 4, cells := 6, slots := 12, locals := 66 } : Room) #[.int x, .int c0, .int c1, .int c2, .int c3] [] h (fun v _ h' => ∃ (a t : Addr), v = some (.ref a) ∧ h.size ≤ a ∧ n0 ≤ a ∧ Keep h h' [] ∧ StrAt Z h' a t (([c0, c1, c2, c3] : List Int32).take k)) := by
  subst ex
  match k, hk with
  | 0, _ => exact ct_mk0 cx O c0 c1 c2 c3 r0 r1 r2 r3
  | 1, _ => exact ct_mk1 cx O c0 c1 c2 c3 r0 r1 r2 r3
  | 2, _ => exact ct_mk2 cx O c0 c1 c2 c3 r0 r1 r2 r3
  | 3, _ => exact ct_mk3 cx O c0 c1 c2 c3 r0 r1 r2 r3
  | 4, _ => exact ct_mk4 cx O c0 c1 c2 c3 r0 r1 r2 r3
set_option maxRecDepth 65536 in
set_option maxHeartbeats 40000000 in
theorem ct_absc {l : Launch} {Z : State} {a0 : Array Value} {n0 : Nat} {g1 : Int32} {gf : Value} {ea : Addr} {kea : ClassId} (cx : Ctx Z a0 n0 g1 gf ea kea) {h : Heap} (O : Old Z n0 h) (a : Addr)  :
    Ct l Z consts_1 n0 [] (⟨"java/util/AbstractCollection", "<init>", "()V"⟩ : MethodName) jdk_22_method_1_code 1 none ({ frames := 1, cells := 0, slots := 0, locals := 12 } : Room) #[(.ref a)] [] h (fun v _ h' => v = none ∧ h' = h) := by
  refine Ct.intro (plainFor_of_name pn2) O cx.ew ?_
  intro p_ e_ s_ m_ bl_ mt_ c_ T0 W0 hby hml hret hnm
  refine Go.st (fun t_ k_ => castTop (g' := mkF m_ 0 #[.val (.ref a)] []) (by first | (simp [entryFrame, mkF, argsToLocals, Value.category]; done) | rfl) k_) ?_
  show Go p_ e_ bl_ _ (T0.setTop (mkF m_ 0 #[.val (.ref a)] []))
  refine Go.st (fun _ => XS.aloadN W0.here W0.ex rfl (hb hby d8_0) rfl rfl) ?_
  show Go p_ e_ bl_ _ (T0.setTop (mkF m_ 1 #[.val (.ref a)] [(.ref a)]))
  refine W0.initO (cx.w 48 rfl) (cx.w 20 rfl) (cx.w 21 rfl) (by rw [hml]; rfl) (hb hby d8_1) (by decide) (Wd := 0) (Nat.le_of_eq rfl) (by decide) ?_
  intro T1 W1
  show Go p_ e_ bl_ _ (T1.setTop (mkF m_ 4 #[.val (.ref a)] []))
  exact W1.retV hret (hb hby d8_4) (by decide) (by decide) fun _ _ => ⟨rfl, rfl⟩
set_option maxRecDepth 65536 in
set_option maxHeartbeats 40000000 in
theorem ct_absl {l : Launch} {Z : State} {a0 : Array Value} {n0 : Nat} {g1 : Int32} {gf : Value} {ea : Addr} {kea : ClassId} (cx : Ctx Z a0 n0 g1 gf ea kea) {h : Heap} (O : Old Z n0 h) (a : Addr) (E_a : Exa Z h a "java/util/ArrayList") (F_elementData_a : Fld Z h a "java/util/ArrayList" "elementData" "[Ljava/lang/Object;" .null) (F_size_a : Fld Z h a "java/util/ArrayList" "size" "I" (.int (0 : Int32))) (F_modCount_a : Fld Z h a "java/util/AbstractList" "modCount" "I" (.int (0 : Int32))) (g_a : n0 ≤ a) :
    Ct l Z consts_1 n0 [] (⟨"java/util/AbstractList", "<init>", "()V"⟩ : MethodName) jdk_39_method_1_code 1 none ({ frames := 2, cells := 0, slots := 0, locals := 24 } : Room) #[(.ref a)] [a] h (fun v _ h' => v = none ∧ Keep h h' [a] ∧ Exa Z h' a "java/util/ArrayList" ∧ Fld Z h' a "java/util/ArrayList" "elementData" "[Ljava/lang/Object;" .null ∧ Fld Z h' a "java/util/ArrayList" "size" "I" (.int (0 : Int32)) ∧ Fld Z h' a "java/util/AbstractList" "modCount" "I" (.int (0 : Int32))) := by
  refine Ct.intro (plainFor_of_name pn3) O cx.ew ?_
  intro p_ e_ s_ m_ bl_ mt_ c_ T0 W0 hby hml hret hnm
  refine Go.st (fun t_ k_ => castTop (g' := mkF m_ 0 #[.val (.ref a)] []) (by first | (simp [entryFrame, mkF, argsToLocals, Value.category]; done) | rfl) k_) ?_
  show Go p_ e_ bl_ _ (T0.setTop (mkF m_ 0 #[.val (.ref a)] []))
  have K0 : Keep h h [a] := Keep.refl _ _
  refine Go.st (fun _ => XS.aloadN W0.here W0.ex rfl (hb hby d7_0) rfl rfl) ?_
  show Go p_ e_ bl_ _ (T0.setTop (mkF m_ 1 #[.val (.ref a)] [(.ref a)]))
  refine W0.callI (y := (⟨"java/util/AbstractCollection", "<init>", "()V"⟩ : MethodName)) rfl (cx.w 42 rfl) (cx.w 43 rfl) (cx.w 46 rfl) (cx.w 47 rfl) (by decide) (ct_absc cx W0.old a) all0 (by decide) (Wd := 0) (by decide) (k' := 0) (n' := 0) rfl rfl (by decide) (by decide) (by rw [hml]; rfl) (a := a) (argsL := []) (rest := []) rfl (lenOf pd2 rfl) rfl (Nat.le_of_eq rfl) (hb hby d7_1) ?_
  intro v1 vm1 T1 h1 L1 W1 q1
  obtain ⟨rfl, eh_⟩ := q1
  subst h1
  show Go p_ e_ bl_ _ (T1.setTop (mkF m_ 4 #[.val (.ref a)] []))
  refine Go.st (fun _ => XS.aloadN W1.here W1.ex rfl (hb hby d7_4) rfl rfl) ?_
  show Go p_ e_ bl_ _ (T1.setTop (mkF m_ 5 #[.val (.ref a)] [(.ref a)]))
  refine Go.st (fun _ => XS.iconst W1.here W1.ex rfl (hb hby d7_5)) ?_
  show Go p_ e_ bl_ _ (T1.setTop (mkF m_ 6 #[.val (.ref a)] [(.int (0 : Int32)), (.ref a)]))
  refine W1.putF (cx.w 49 rfl) Via.refl F_modCount_a E_a (Or.inl (cx.w 50 rfl)) (cx.w 31 rfl) (ty := .int) (by decide) rfl rfl (List.mem_of_getElem? (i := 0) rfl) g_a (hb hby d7_6) ?_
  intro T2 h2 L2 W2 w2
  replace E_a := E_a.wr w2
  replace F_elementData_a := F_elementData_a.other w2 (Or.inr (slot_ne (Or.inl (cx.w 53 rfl)) (Or.inl (cx.w 50 rfl)) (by decide) (t := (.array (.object "java/lang/Object"))) (t' := .int) (by decide) (by decide)))
  replace F_size_a := F_size_a.other w2 (Or.inr (slot_ne (Or.inl (cx.w 62 rfl)) (Or.inl (cx.w 50 rfl)) (by decide) (t := .int) (t' := .int) (by decide) (by decide)))
  replace F_modCount_a := F_modCount_a.same w2
  replace K0 := K0.wr w2 (Or.inl (List.mem_of_getElem? (i := 0) rfl))
  show Go p_ e_ bl_ _ (T2.setTop (mkF m_ 9 #[.val (.ref a)] []))
  exact W2.retV hret (hb hby d7_9) (by decide) (by decide) fun _ _ => ⟨rfl, K0, E_a, F_elementData_a, F_size_a, F_modCount_a⟩
set_option maxRecDepth 65536 in
set_option maxHeartbeats 40000000 in
theorem ct_al {l : Launch} {Z : State} {a0 : Array Value} {n0 : Nat} {g1 : Int32} {gf : Value} {ea : Addr} {kea : ClassId} (cx : Ctx Z a0 n0 g1 gf ea kea) {h : Heap} (O : Old Z n0 h) (a : Addr) (E_a : Exa Z h a "java/util/ArrayList") (F_elementData_a : Fld Z h a "java/util/ArrayList" "elementData" "[Ljava/lang/Object;" .null) (F_size_a : Fld Z h a "java/util/ArrayList" "size" "I" (.int (0 : Int32))) (F_modCount_a : Fld Z h a "java/util/AbstractList" "modCount" "I" (.int (0 : Int32))) (g_a : n0 ≤ a) :
    Ct l Z consts_1 n0 [] (⟨"java/util/ArrayList", "<init>", "()V"⟩ : MethodName) jdk_38_method_2_code 1 none ({ frames := 3, cells := 0, slots := 0, locals := 36 } : Room) #[(.ref a)] [a] h (fun v _ h' => v = none ∧ Keep h h' [a] ∧ Exa Z h' a "java/util/ArrayList" ∧ Fld Z h' a "java/util/ArrayList" "elementData" "[Ljava/lang/Object;" (.ref ea) ∧ Fld Z h' a "java/util/ArrayList" "size" "I" (.int (0 : Int32)) ∧ Fld Z h' a "java/util/AbstractList" "modCount" "I" (.int (0 : Int32))) := by
  refine Ct.intro (plainFor_of_name pn4) O cx.ew ?_
  intro p_ e_ s_ m_ bl_ mt_ c_ T0 W0 hby hml hret hnm
  refine Go.st (fun t_ k_ => castTop (g' := mkF m_ 0 #[.val (.ref a)] []) (by first | (simp [entryFrame, mkF, argsToLocals, Value.category]; done) | rfl) k_) ?_
  show Go p_ e_ bl_ _ (T0.setTop (mkF m_ 0 #[.val (.ref a)] []))
  have K0 : Keep h h [a] := Keep.refl _ _
  refine Go.st (fun _ => XS.aloadN W0.here W0.ex rfl (hb hby d6_0) rfl rfl) ?_
  show Go p_ e_ bl_ _ (T0.setTop (mkF m_ 1 #[.val (.ref a)] [(.ref a)]))
  refine W0.callI (y := (⟨"java/util/AbstractList", "<init>", "()V"⟩ : MethodName)) rfl (cx.w 36 rfl) (cx.w 37 rfl) (cx.w 40 rfl) (cx.w 41 rfl) (by decide) (ct_absl cx W0.old a E_a F_elementData_a F_size_a F_modCount_a g_a) (allS (List.mem_of_getElem? (i := 0) rfl) all0) (by decide) (Wd := 0) (by decide) (k' := 0) (n' := 0) rfl rfl (by decide) (by decide) (by rw [hml]; rfl) (a := a) (argsL := []) (rest := []) rfl (lenOf pd2 rfl) rfl (Nat.le_of_eq rfl) (hb hby d6_1) ?_
  intro v1 vm1 T1 h1 L1 W1 q1
  obtain ⟨rfl, K1, E_n, F_elementData_n, F_size_n, F_modCount_n⟩ := q1
  replace E_a := E_a.keep K1
  replace K0 := K0.trans K1 (allS (Or.inl (List.mem_of_getElem? (i := 0) rfl)) all0)
  show Go p_ e_ bl_ _ (T1.setTop (mkF m_ 4 #[.val (.ref a)] []))
  refine Go.st (fun _ => XS.aloadN W1.here W1.ex rfl (hb hby d6_4) rfl rfl) ?_
  show Go p_ e_ bl_ _ (T1.setTop (mkF m_ 5 #[.val (.ref a)] [(.ref a)]))
  refine W1.getS (cx.w 51 rfl) Via.refl (cx.stea.ext W1.e0) (hb hby d6_5) ?_
  intro T2 W2
  show Go p_ e_ bl_ _ (T2.setTop (mkF m_ 8 #[.val (.ref a)] [(.ref ea), (.ref a)]))
  refine W2.putF (cx.w 52 rfl) Via.refl F_elementData_n E_a (Or.inl (cx.w 53 rfl)) (cx.w 31 rfl) (ty := (.array (.object "java/lang/Object"))) (by decide) rfl rfl (List.mem_of_getElem? (i := 0) rfl) g_a (hb hby d6_8) ?_
  intro T3 h3 L3 W3 w3
  replace E_a := E_a.wr w3
  replace F_elementData_n := F_elementData_n.same w3
  replace F_size_n := F_size_n.other w3 (Or.inr (slot_ne (Or.inl (cx.w 62 rfl)) (Or.inl (cx.w 53 rfl)) (by decide) (t := .int) (t' := (.array (.object "java/lang/Object"))) (by decide) (by decide)))
  replace F_modCount_n := F_modCount_n.other w3 (Or.inr (slot_ne (Or.inl (cx.w 50 rfl)) (Or.inl (cx.w 53 rfl)) (by decide) (t := .int) (t' := (.array (.object "java/lang/Object"))) (by decide) (by decide)))
  replace K0 := K0.wr w3 (Or.inl (List.mem_of_getElem? (i := 0) rfl))
  show Go p_ e_ bl_ _ (T3.setTop (mkF m_ 11 #[.val (.ref a)] []))
  exact W3.retV hret (hb hby d6_11) (by decide) (by decide) fun _ _ => ⟨rfl, K0, E_a, F_elementData_n, F_size_n, F_modCount_n⟩
set_option maxRecDepth 65536 in
set_option maxHeartbeats 40000000 in
theorem ct_max10 {l : Launch} {Z : State} {a0 : Array Value} {n0 : Nat} {g1 : Int32} {gf : Value} {ea : Addr} {kea : ClassId} (cx : Ctx Z a0 n0 g1 gf ea kea) {h : Heap} (O : Old Z n0 h)   :
    Ct l Z consts_1 n0 [] (⟨"java/lang/Math", "max", "(II)I"⟩ : MethodName) jdk_29_method_65_code 2 (some .int) ({ frames := 0, cells := 0, slots := 0, locals := 0 } : Room) #[(.int (10 : Int32)), (.int (1 : Int32))] [] h (fun v _ h' => v = some (.int 10) ∧ h' = h) := by
  refine Ct.intro (Jvm.Free.JP.mathPlain rfl (by decide +kernel)) O cx.ew ?_
  intro p_ e_ s_ m_ bl_ mt_ c_ T0 W0 hby hml hret hnm
  refine Go.st (fun t_ k_ => castTop (g' := mkF m_ 0 #[.val (.int (10 : Int32)), .val (.int (1 : Int32))] []) (by first | (simp [entryFrame, mkF, argsToLocals, Value.category]; done) | rfl) k_) ?_
  show Go p_ e_ bl_ _ (T0.setTop (mkF m_ 0 #[.val (.int (10 : Int32)), .val (.int (1 : Int32))] []))
  refine Go.st (fun _ => XS.iloadN W0.here W0.ex rfl (hb hby d13_0) rfl) ?_
  show Go p_ e_ bl_ _ (T0.setTop (mkF m_ 1 #[.val (.int (10 : Int32)), .val (.int (1 : Int32))] [(.int (10 : Int32))]))
  refine Go.st (fun _ => XS.iloadN W0.here W0.ex rfl (hb hby d13_1) rfl) ?_
  show Go p_ e_ bl_ _ (T0.setTop (mkF m_ 2 #[.val (.int (10 : Int32)), .val (.int (1 : Int32))] [(.int (1 : Int32)), (.int (10 : Int32))]))
  refine Go.st (fun _ => XS.icmpNo W0.here W0.ex rfl (hb hby d13_2) rfl (flt ((by decide) : ¬ ((10 : Int32) < (1 : Int32)))).1) ?_
  show Go p_ e_ bl_ _ (T0.setTop (mkF m_ 5 #[.val (.int (10 : Int32)), .val (.int (1 : Int32))] []))
  refine Go.st (fun _ => XS.iloadN W0.here W0.ex rfl (hb hby d13_5) rfl) ?_
  show Go p_ e_ bl_ _ (T0.setTop (mkF m_ 6 #[.val (.int (10 : Int32)), .val (.int (1 : Int32))] [(.int (10 : Int32))]))
  refine Go.st (fun _ => XS.goto W0.here W0.ex rfl (pc0 := 6) (pc' := 10) rfl (hb hby d13_6) (by decide) (by decide)) ?_
  show Go p_ e_ bl_ _ (T0.setTop (mkF m_ 10 #[.val (.int (10 : Int32)), .val (.int (1 : Int32))] [(.int (10 : Int32))]))
  exact W0.retI hret (hb hby d13_10) (by decide) (by decide) fun _ _ => ⟨rfl, rfl⟩
set_option maxRecDepth 65536 in
set_option maxHeartbeats 40000000 in
theorem ct_max00 {l : Launch} {Z : State} {a0 : Array Value} {n0 : Nat} {g1 : Int32} {gf : Value} {ea : Addr} {kea : ClassId} (cx : Ctx Z a0 n0 g1 gf ea kea) {h : Heap} (O : Old Z n0 h)   :
    Ct l Z consts_1 n0 [] (⟨"java/lang/Math", "max", "(II)I"⟩ : MethodName) jdk_29_method_65_code 2 (some .int) ({ frames := 0, cells := 0, slots := 0, locals := 0 } : Room) #[(.int (0 : Int32)), (.int (0 : Int32))] [] h (fun v _ h' => v = some (.int 0) ∧ h' = h) := by
  refine Ct.intro (Jvm.Free.JP.mathPlain rfl (by decide +kernel)) O cx.ew ?_
  intro p_ e_ s_ m_ bl_ mt_ c_ T0 W0 hby hml hret hnm
  refine Go.st (fun t_ k_ => castTop (g' := mkF m_ 0 #[.val (.int (0 : Int32)), .val (.int (0 : Int32))] []) (by first | (simp [entryFrame, mkF, argsToLocals, Value.category]; done) | rfl) k_) ?_
  show Go p_ e_ bl_ _ (T0.setTop (mkF m_ 0 #[.val (.int (0 : Int32)), .val (.int (0 : Int32))] []))
  refine Go.st (fun _ => XS.iloadN W0.here W0.ex rfl (hb hby d13_0) rfl) ?_
  show Go p_ e_ bl_ _ (T0.setTop (mkF m_ 1 #[.val (.int (0 : Int32)), .val (.int (0 : Int32))] [(.int (0 : Int32))]))
  refine Go.st (fun _ => XS.iloadN W0.here W0.ex rfl (hb hby d13_1) rfl) ?_
  show Go p_ e_ bl_ _ (T0.setTop (mkF m_ 2 #[.val (.int (0 : Int32)), .val (.int (0 : Int32))] [(.int (0 : Int32)), (.int (0 : Int32))]))
  refine Go.st (fun _ => XS.icmpNo W0.here W0.ex rfl (hb hby d13_2) rfl (flt ((by decide) : ¬ ((0 : Int32) < (0 : Int32)))).1) ?_
  show Go p_ e_ bl_ _ (T0.setTop (mkF m_ 5 #[.val (.int (0 : Int32)), .val (.int (0 : Int32))] []))
  refine Go.st (fun _ => XS.iloadN W0.here W0.ex rfl (hb hby d13_5) rfl) ?_
  show Go p_ e_ bl_ _ (T0.setTop (mkF m_ 6 #[.val (.int (0 : Int32)), .val (.int (0 : Int32))] [(.int (0 : Int32))]))
  refine Go.st (fun _ => XS.goto W0.here W0.ex rfl (pc0 := 6) (pc' := 10) rfl (hb hby d13_6) (by decide) (by decide)) ?_
  show Go p_ e_ bl_ _ (T0.setTop (mkF m_ 10 #[.val (.int (0 : Int32)), .val (.int (0 : Int32))] [(.int (0 : Int32))]))
  exact W0.retI hret (hb hby d13_10) (by decide) (by decide) fun _ _ => ⟨rfl, rfl⟩
set_option maxRecDepth 65536 in
set_option maxHeartbeats 40000000 in
theorem ct_minS {l : Launch} {Z : State} {a0 : Array Value} {n0 : Nat} {g1 : Int32} {gf : Value} {ea : Addr} {kea : ClassId} (cx : Ctx Z a0 n0 g1 gf ea kea) {h : Heap} (O : Old Z n0 h) (x : Int32)  :
    Ct l Z consts_1 n0 [] (⟨"java/lang/Math", "min", "(II)I"⟩ : MethodName) jdk_29_method_69_code 2 (some .int) ({ frames := 0, cells := 0, slots := 0, locals := 0 } : Room) #[(.int x), (.int x)] [] h (fun v _ h' => v = some (.int x) ∧ h' = h) := by
  refine Ct.intro (Jvm.Free.JP.mathPlain rfl (by decide +kernel)) O cx.ew ?_
  intro p_ e_ s_ m_ bl_ mt_ c_ T0 W0 hby hml hret hnm
  refine Go.st (fun t_ k_ => castTop (g' := mkF m_ 0 #[.val (.int x), .val (.int x)] []) (by first | (simp [entryFrame, mkF, argsToLocals, Value.category]; done) | rfl) k_) ?_
  show Go p_ e_ bl_ _ (T0.setTop (mkF m_ 0 #[.val (.int x), .val (.int x)] []))
  refine Go.st (fun _ => XS.iloadN W0.here W0.ex rfl (hb hby d28_0) rfl) ?_
  show Go p_ e_ bl_ _ (T0.setTop (mkF m_ 1 #[.val (.int x), .val (.int x)] [(.int x)]))
  refine Go.st (fun _ => XS.iloadN W0.here W0.ex rfl (hb hby d28_1) rfl) ?_
  show Go p_ e_ bl_ _ (T0.setTop (mkF m_ 2 #[.val (.int x), .val (.int x)] [(.int x), (.int x)]))
  refine Go.st (fun _ => XS.icmpNo W0.here W0.ex rfl (hb hby d28_2) rfl (flt (Int32.lt_irrefl : ¬ (x < x))).2.2.1) ?_
  show Go p_ e_ bl_ _ (T0.setTop (mkF m_ 5 #[.val (.int x), .val (.int x)] []))
  refine Go.st (fun _ => XS.iloadN W0.here W0.ex rfl (hb hby d28_5) rfl) ?_
  show Go p_ e_ bl_ _ (T0.setTop (mkF m_ 6 #[.val (.int x), .val (.int x)] [(.int x)]))
  refine Go.st (fun _ => XS.goto W0.here W0.ex rfl (pc0 := 6) (pc' := 10) rfl (hb hby d28_6) (by decide) (by decide)) ?_
  show Go p_ e_ bl_ _ (T0.setTop (mkF m_ 10 #[.val (.int x), .val (.int x)] [(.int x)]))
  exact W0.retI hret (hb hby d28_10) (by decide) (by decide) fun _ _ => ⟨rfl, rfl⟩
set_option maxRecDepth 65536 in
set_option maxHeartbeats 40000000 in
theorem ct_grow1 {l : Launch} {Z : State} {a0 : Array Value} {n0 : Nat} {g1 : Int32} {gf : Value} {ea : Addr} {kea : ClassId} (cx : Ctx Z a0 n0 g1 gf ea kea) {h : Heap} (O : Old Z n0 h) (a : Addr) (E_a : Exa Z h a "java/util/ArrayList") (F_elementData_a : Fld Z h a "java/util/ArrayList" "elementData" "[Ljava/lang/Object;" (.ref ea)) (F_size_a : Fld Z h a "java/util/ArrayList" "size" "I" (.int (0 : Int32))) (F_modCount_a : Fld Z h a "java/util/AbstractList" "modCount" "I" (.int (1 : Int32))) (g_a : n0 ≤ a) :
    Ct l Z consts_1 n0 [] (⟨"java/util/ArrayList", "grow", "(I)[Ljava/lang/Object;"⟩ : MethodName) jdk_38_method_6_code 4 (some (.array (.object "java/lang/Object"))) ({ frames := 1, cells := 1, slots := 10, locals := 14 } : Room) #[(.ref a), (.int (1 : Int32))] [a] h (fun v _ h' => ∃ (b : Addr) (kb : ClassId), v = some (.ref b) ∧ h.size ≤ b ∧ n0 ≤ b ∧ Keep h h' [a] ∧ Ovr Z kb "java/lang/Object" ∧ Arv Z h' b kb (.object "java/lang/Object") 10 [.null, .null, .null, .null, .null, .null, .null, .null, .null, .null] .null ∧ Exa Z h' a "java/util/ArrayList" ∧ Fld Z h' a "java/util/ArrayList" "elementData" "[Ljava/lang/Object;" (.ref b) ∧ Fld Z h' a "java/util/ArrayList" "size" "I" (.int (0 : Int32)) ∧ Fld Z h' a "java/util/AbstractList" "modCount" "I" (.int (1 : Int32))) := by
  refine Ct.intro (plainFor_of_name pn4) O cx.ew ?_
  intro p_ e_ s_ m_ bl_ mt_ c_ T0 W0 hby hml hret hnm
  refine Go.st (fun t_ k_ => castTop (g' := mkF m_ 0 #[.val (.ref a), .val (.int (1 : Int32)), .unset, .unset] []) (by first | (simp [entryFrame, mkF, argsToLocals, Value.category]; done) | rfl) k_) ?_
  show Go p_ e_ bl_ _ (T0.setTop (mkF m_ 0 #[.val (.ref a), .val (.int (1 : Int32)), .unset, .unset] []))
  have K0 : Keep h h [a] := Keep.refl _ _
  have V_ea := cx.vea.ext W0.e0
  refine Go.st (fun _ => XS.aloadN W0.here W0.ex rfl (hb hby d12_0) rfl rfl) ?_
  show Go p_ e_ bl_ _ (T0.setTop (mkF m_ 1 #[.val (.ref a), .val (.int (1 : Int32)), .unset, .unset] [(.ref a)]))
  refine W0.getF (cx.w 52 rfl) Via.refl F_elementData_a (hb hby d12_1) ?_
  intro T1 W1
  show Go p_ e_ bl_ _ (T1.setTop (mkF m_ 4 #[.val (.ref a), .val (.int (1 : Int32)), .unset, .unset] [(.ref ea)]))
  refine W1.alen V_ea (hb hby d12_4) ?_
  show Go p_ e_ bl_ _ (T1.setTop (mkF m_ 5 #[.val (.ref a), .val (.int (1 : Int32)), .unset, .unset] [(.int (0 : Int32))]))
  refine Go.st (fun _ => XS.istoreN W1.here W1.ex rfl (hb hby d12_5) rfl (l' := #[.val (.ref a), .val (.int (1 : Int32)), .val (.int (0 : Int32)), .unset]) rfl) ?_
  show Go p_ e_ bl_ _ (T1.setTop (mkF m_ 6 #[.val (.ref a), .val (.int (1 : Int32)), .val (.int (0 : Int32)), .unset] []))
  refine Go.st (fun _ => XS.iloadN W1.here W1.ex rfl (hb hby d12_6) rfl) ?_
  show Go p_ e_ bl_ _ (T1.setTop (mkF m_ 7 #[.val (.ref a), .val (.int (1 : Int32)), .val (.int (0 : Int32)), .unset] [(.int (0 : Int32))]))
  refine Go.st (fun _ => XS.ifNo W1.here W1.ex rfl (hb hby d12_7) rfl ((if0 _ _).trans (flt ((by decide) : ¬ ((0 : Int32) < (0 : Int32)))).2.2.1)) ?_
  show Go p_ e_ bl_ _ (T1.setTop (mkF m_ 10 #[.val (.ref a), .val (.int (1 : Int32)), .val (.int (0 : Int32)), .unset] []))
  refine Go.st (fun _ => XS.aloadN W1.here W1.ex rfl (hb hby d12_10) rfl rfl) ?_
  show Go p_ e_ bl_ _ (T1.setTop (mkF m_ 11 #[.val (.ref a), .val (.int (1 : Int32)), .val (.int (0 : Int32)), .unset] [(.ref a)]))
  refine W1.getF (cx.w 52 rfl) Via.refl F_elementData_a (hb hby d12_11) ?_
  intro T2 W2
  show Go p_ e_ bl_ _ (T2.setTop (mkF m_ 14 #[.val (.ref a), .val (.int (1 : Int32)), .val (.int (0 : Int32)), .unset] [(.ref ea)]))
  refine W2.getS (cx.w 51 rfl) Via.refl (cx.stea.ext W2.e0) (hb hby d12_14) ?_
  intro T3 W3
  show Go p_ e_ bl_ _ (T3.setTop (mkF m_ 17 #[.val (.ref a), .val (.int (1 : Int32)), .val (.int (0 : Int32)), .unset] [(.ref ea), (.ref ea)]))
  refine Go.st (fun _ => Jvm.RoadKit.acmp (g := (mkF m_ 17 #[.val (.ref a), .val (.int (1 : Int32)), .val (.int (0 : Int32)), .unset] [(.ref ea), (.ref ea)])) W3.X W3.ex rfl rfl rfl (pc0 := 17) (pc' := 45) (same := true) rfl (hb hby d12_17) rfl (decide_eq_true rfl) (by decide) (by decide)) ?_
  show Go p_ e_ bl_ _ (T3.setTop (mkF m_ 45 #[.val (.ref a), .val (.int (1 : Int32)), .val (.int (0 : Int32)), .unset] []))
  refine Go.st (fun _ => XS.aloadN W3.here W3.ex rfl (hb hby d12_45) rfl rfl) ?_
  show Go p_ e_ bl_ _ (T3.setTop (mkF m_ 46 #[.val (.ref a), .val (.int (1 : Int32)), .val (.int (0 : Int32)), .unset] [(.ref a)]))
  refine Go.st (fun _ => XS.bipush W3.here W3.ex rfl (hb hby d12_46)) ?_
  show Go p_ e_ bl_ _ (T3.setTop (mkF m_ 48 #[.val (.ref a), .val (.int (1 : Int32)), .val (.int (0 : Int32)), .unset] [(.int (10 : Int32)), (.ref a)]))
  refine Go.st (fun _ => XS.iloadN W3.here W3.ex rfl (hb hby d12_48) rfl) ?_
  show Go p_ e_ bl_ _ (T3.setTop (mkF m_ 49 #[.val (.ref a), .val (.int (1 : Int32)), .val (.int (0 : Int32)), .unset] [(.int (1 : Int32)), (.int (10 : Int32)), (.ref a)]))
  refine W3.callS (y := (⟨"java/lang/Math", "max", "(II)I"⟩ : MethodName)) (cx.w 78 rfl) (cx.w 79 rfl) (cx.w 80 rfl) (cx.w 81 rfl) (by decide) (ct_max10 cx W3.old ) all0 (by decide) (Wd := 1) (by decide) (k' := 0) (n' := 0) rfl rfl (by decide) (by decide) (by rw [hml]; rfl) (argsL := [(.int (10 : Int32)), (.int (1 : Int32))]) (rest := [(.ref a)]) rfl (lenOf pd3 rfl) rfl (Nat.le_of_eq rfl) (hb hby d12_49) ?_
  intro v4 vm4 T4 h4 L4 W4 q4
  obtain ⟨rfl, eh_⟩ := q4
  subst h4
  show Go p_ e_ bl_ _ (T4.setTop (mkF m_ 52 #[.val (.ref a), .val (.int (1 : Int32)), .val (.int (0 : Int32)), .unset] [(.int (10 : Int32)), (.ref a)]))
  refine W4.newR (cx.w 82 rfl) (cx.w 83 rfl) (hb hby d12_52) (z := (10 : Int32)) (by decide) (cap := 10) (by decide) (by decide) (k' := 1) (n' := 10) rfl rfl (by decide) (by decide) ?_
  intro T5 h5 b5 kA_b5 hb5 g_b5 W5 E5 V_b5 O_b5
  have ne_a_b5 : a ≠ b5 := Nat.ne_of_lt (Nat.lt_of_lt_of_le E_a.lt (Nat.le_of_eq hb5.symm))
  have ne_ea_b5 : ea ≠ b5 := Nat.ne_of_lt (Nat.lt_of_lt_of_le V_ea.lt (Nat.le_of_eq hb5.symm))
  have sz_b5 : h.size ≤ b5 := Nat.le_trans K0.1 (Nat.le_of_eq hb5.symm)
  replace E_a := E_a.ext E5
  replace F_elementData_a := F_elementData_a.ext E5
  replace F_size_a := F_size_a.ext E5
  replace F_modCount_a := F_modCount_a.ext E5
  replace V_ea := V_ea.ext E5
  replace K0 := K0.ext E5
  replace V_b5 : Arv Z h5 b5 kA_b5 (.object "java/lang/Object") (10 : Int32) [.null, .null, .null, .null, .null, .null, .null, .null, .null, .null] .null := V_b5
  show Go p_ e_ bl_ _ (T5.setTop (mkF m_ 55 #[.val (.ref a), .val (.int (1 : Int32)), .val (.int (0 : Int32)), .unset] [(.ref b5), (.ref a)]))
  refine Go.st (fun _ => XS.dupX1 W5.here W5.ex rfl (hb hby d12_55) rfl rfl rfl) ?_
  show Go p_ e_ bl_ _ (T5.setTop (mkF m_ 56 #[.val (.ref a), .val (.int (1 : Int32)), .val (.int (0 : Int32)), .unset] [(.ref b5), (.ref a), (.ref b5)]))
  refine W5.putF (cx.w 52 rfl) Via.refl F_elementData_a E_a (Or.inl (cx.w 53 rfl)) (cx.w 31 rfl) (ty := (.array (.object "java/lang/Object"))) (by decide) rfl rfl (List.mem_of_getElem? (i := 1) rfl) g_a (hb hby d12_56) ?_
  intro T6 h6 L6 W6 w6
  have ne_ea_a : ea ≠ a := (Ne.symm (Exa.neArv E_a V_ea (cx.w 31 rfl)))
  replace E_a := E_a.wr w6
  replace F_elementData_a := F_elementData_a.same w6
  replace F_size_a := F_size_a.other w6 (Or.inr (slot_ne (Or.inl (cx.w 62 rfl)) (Or.inl (cx.w 53 rfl)) (by decide) (t := .int) (t' := (.array (.object "java/lang/Object"))) (by decide) (by decide)))
  replace F_modCount_a := F_modCount_a.other w6 (Or.inr (slot_ne (Or.inl (cx.w 50 rfl)) (Or.inl (cx.w 53 rfl)) (by decide) (t := .int) (t' := (.array (.object "java/lang/Object"))) (by decide) (by decide)))
  replace V_ea := V_ea.other w6 ne_ea_a
  replace V_b5 := V_b5.other w6 (Ne.symm ne_a_b5)
  replace K0 := K0.wr w6 (Or.inl (List.mem_of_getElem? (i := 0) rfl))
  show Go p_ e_ bl_ _ (T6.setTop (mkF m_ 59 #[.val (.ref a), .val (.int (1 : Int32)), .val (.int (0 : Int32)), .unset] [(.ref b5)]))
  exact W6.retA hret rfl rfl (hb hby d12_59) (by decide) (by decide) fun _ _ => ⟨b5, kA_b5, rfl, sz_b5, g_b5, K0, O_b5, V_b5, E_a, F_elementData_a, F_size_a, F_modCount_a⟩
set_option maxRecDepth 65536 in
set_option maxHeartbeats 40000000 in
theorem ct_grow {l : Launch} {Z : State} {a0 : Array Value} {n0 : Nat} {g1 : Int32} {gf : Value} {ea : Addr} {kea : ClassId} (cx : Ctx Z a0 n0 g1 gf ea kea) {h : Heap} (O : Old Z n0 h) (a : Addr) (E_a : Exa Z h a "java/util/ArrayList") (F_elementData_a : Fld Z h a "java/util/ArrayList" "elementData" "[Ljava/lang/Object;" (.ref ea)) (F_size_a : Fld Z h a "java/util/ArrayList" "size" "I" (.int (0 : Int32))) (F_modCount_a : Fld Z h a "java/util/AbstractList" "modCount" "I" (.int (1 : Int32))) (g_a : n0 ≤ a) :
    Ct l Z consts_1 n0 [] (⟨"java/util/ArrayList", "grow", "()[Ljava/lang/Object;"⟩ : MethodName) jdk_38_method_7_code 1 (some (.array (.object "java/lang/Object"))) ({ frames := 2, cells := 1, slots := 10, locals := 29 } : Room) #[(.ref a)] [a] h (fun v _ h' => ∃ (b : Addr) (kb : ClassId), v = some (.ref b) ∧ h.size ≤ b ∧ n0 ≤ b ∧ Keep h h' [a] ∧ Ovr Z kb "java/lang/Object" ∧ Arv Z h' b kb (.object "java/lang/Object") 10 [.null, .null, .null, .null, .null, .null, .null, .null, .null, .null] .null ∧ Exa Z h' a "java/util/ArrayList" ∧ Fld Z h' a "java/util/ArrayList" "elementData" "[Ljava/lang/Object;" (.ref b) ∧ Fld Z h' a "java/util/ArrayList" "size" "I" (.int (0 : Int32)) ∧ Fld Z h' a "java/util/AbstractList" "modCount" "I" (.int (1 : Int32))) := by
  refine Ct.intro (plainFor_of_name pn4) O cx.ew ?_
  intro p_ e_ s_ m_ bl_ mt_ c_ T0 W0 hby hml hret hnm
  refine Go.st (fun t_ k_ => castTop (g' := mkF m_ 0 #[.val (.ref a)] []) (by first | (simp [entryFrame, mkF, argsToLocals, Value.category]; done) | rfl) k_) ?_
  show Go p_ e_ bl_ _ (T0.setTop (mkF m_ 0 #[.val (.ref a)] []))
  refine Go.st (fun _ => XS.aloadN W0.here W0.ex rfl (hb hby d11_0) rfl rfl) ?_
  show Go p_ e_ bl_ _ (T0.setTop (mkF m_ 1 #[.val (.ref a)] [(.ref a)]))
  refine Go.st (fun _ => XS.aloadN W0.here W0.ex rfl (hb hby d11_1) rfl rfl) ?_
  show Go p_ e_ bl_ _ (T0.setTop (mkF m_ 2 #[.val (.ref a)] [(.ref a), (.ref a)]))
  refine W0.getF (cx.w 61 rfl) Via.refl F_size_a (hb hby d11_2) ?_
  intro T1 W1
  show Go p_ e_ bl_ _ (T1.setTop (mkF m_ 5 #[.val (.ref a)] [(.int (0 : Int32)), (.ref a)]))
  refine Go.st (fun _ => XS.iconst W1.here W1.ex rfl (hb hby d11_5)) ?_
  show Go p_ e_ bl_ _ (T1.setTop (mkF m_ 6 #[.val (.ref a)] [(.int (1 : Int32)), (.int (0 : Int32)), (.ref a)]))
  refine Go.st (fun _ => XS.iadd W1.here W1.ex rfl (hb hby d11_6) rfl) ?_
  show Go p_ e_ bl_ _ (T1.setTop (mkF m_ 7 #[.val (.ref a)] [(.int ((0 : Int32) + (1 : Int32))), (.ref a)]))
  show Go p_ e_ bl_ _ (T1.setTop (mkF m_ 7 #[.val (.ref a)] [(.int (1 : Int32)), (.ref a)]))
  refine W1.callP (y := (⟨"java/util/ArrayList", "grow", "(I)[Ljava/lang/Object;"⟩ : MethodName)) (cx.w 73 rfl) (cx.w 75 rfl) (cx.w 76 rfl) (cx.w 74 rfl) (cx.w 32 rfl) (cx.w 77 rfl) (by decide) E_a (ct_grow1 cx W1.old a E_a F_elementData_a F_size_a F_modCount_a g_a) (allS (List.mem_of_getElem? (i := 0) rfl) all0) (by decide) (Wd := 0) (by decide) (k' := 1) (n' := 10) rfl rfl (by decide) (by decide) (by rw [hml]; rfl) (a := a) (argsL := [(.int (1 : Int32))]) (rest := []) rfl (lenOf pd4 rfl) rfl (Nat.le_of_eq rfl) (hb hby d11_7) ?_
  intro v2 vm2 T2 h2 L2 W2 q2
  obtain ⟨b, kb, rfl, hz_b, g_b, K1, O_b, V_b, E_n, F1, F2, F3⟩ := q2
  show Go p_ e_ bl_ _ (T2.setTop (mkF m_ 10 #[.val (.ref a)] [(.ref b)]))
  exact W2.retA hret rfl rfl (hb hby d11_10) (by decide) (by decide) fun _ _ => ⟨b, kb, rfl, hz_b, g_b, K1, O_b, V_b, E_n, F1, F2, F3⟩
set_option maxRecDepth 65536 in
set_option maxHeartbeats 40000000 in
theorem ct_add3 {l : Launch} {Z : State} {a0 : Array Value} {n0 : Nat} {g1 : Int32} {gf : Value} {ea : Addr} {kea : ClassId} (cx : Ctx Z a0 n0 g1 gf ea kea) {h : Heap} (O : Old Z n0 h) (a x tx : Addr) (cs : List Int32) (E_a : Exa Z h a "java/util/ArrayList") (F_elementData_a : Fld Z h a "java/util/ArrayList" "elementData" "[Ljava/lang/Object;" (.ref ea)) (F_size_a : Fld Z h a "java/util/ArrayList" "size" "I" (.int (0 : Int32))) (F_modCount_a : Fld Z h a "java/util/AbstractList" "modCount" "I" (.int (1 : Int32))) (g_a : n0 ≤ a) (S_x : StrAt Z h x tx cs) (ne_x_a : x ≠ a) :
    Ct l Z consts_1 n0 [] (⟨"java/util/ArrayList", "add", "(Ljava/lang/Object;[Ljava/lang/Object;I)V"⟩ : MethodName) jdk_38_method_24_code 4 none ({ frames := 3, cells := 1, slots := 10, locals := 41 } : Room) #[(.ref a), (.ref x), (.ref ea), (.int (0 : Int32))] [a] h (fun v _ h' => v = none ∧ ∃ (b : Addr) (kb : ClassId), h.size ≤ b ∧ n0 ≤ b ∧ Keep h h' [a] ∧ Arv Z h' b kb (.object "java/lang/Object") 10 [.ref x, .null, .null, .null, .null, .null, .null, .null, .null, .null] .null ∧ Exa Z h' a "java/util/ArrayList" ∧ Fld Z h' a "java/util/ArrayList" "elementData" "[Ljava/lang/Object;" (.ref b) ∧ Fld Z h' a "java/util/ArrayList" "size" "I" (.int (1 : Int32)) ∧ Fld Z h' a "java/util/AbstractList" "modCount" "I" (.int (1 : Int32))) := by
  refine Ct.intro (plainFor_of_name pn4) O cx.ew ?_
  intro p_ e_ s_ m_ bl_ mt_ c_ T0 W0 hby hml hret hnm
  refine Go.st (fun t_ k_ => castTop (g' := mkF m_ 0 #[.val (.ref a), .val (.ref x), .val (.ref ea), .val (.int (0 : Int32))] []) (by first | (simp [entryFrame, mkF, argsToLocals, Value.category]; done) | rfl) k_) ?_
  show Go p_ e_ bl_ _ (T0.setTop (mkF m_ 0 #[.val (.ref a), .val (.ref x), .val (.ref ea), .val (.int (0 : Int32))] []))
  have K0 : Keep h h [a] := Keep.refl _ _
  have V_ea := cx.vea.ext W0.e0
  refine Go.st (fun _ => XS.iloadN W0.here W0.ex rfl (hb hby d10_0) rfl) ?_
  show Go p_ e_ bl_ _ (T0.setTop (mkF m_ 1 #[.val (.ref a), .val (.ref x), .val (.ref ea), .val (.int (0 : Int32))] [(.int (0 : Int32))]))
  refine Go.st (fun _ => XS.aloadN W0.here W0.ex rfl (hb hby d10_1) rfl rfl) ?_
  show Go p_ e_ bl_ _ (T0.setTop (mkF m_ 2 #[.val (.ref a), .val (.ref x), .val (.ref ea), .val (.int (0 : Int32))] [(.ref ea), (.int (0 : Int32))]))
  refine W0.alen V_ea (hb hby d10_2) ?_
  show Go p_ e_ bl_ _ (T0.setTop (mkF m_ 3 #[.val (.ref a), .val (.ref x), .val (.ref ea), .val (.int (0 : Int32))] [(.int (0 : Int32)), (.int (0 : Int32))]))
  refine Go.st (fun _ => XS.icmpNo W0.here W0.ex rfl (hb hby d10_3) rfl (teq (rfl : (0 : Int32) = (0 : Int32))).2) ?_
  show Go p_ e_ bl_ _ (T0.setTop (mkF m_ 6 #[.val (.ref a), .val (.ref x), .val (.ref ea), .val (.int (0 : Int32))] []))
  refine Go.st (fun _ => XS.aloadN W0.here W0.ex rfl (hb hby d10_6) rfl rfl) ?_
  show Go p_ e_ bl_ _ (T0.setTop (mkF m_ 7 #[.val (.ref a), .val (.ref x), .val (.ref ea), .val (.int (0 : Int32))] [(.ref a)]))
  refine W0.callP (y := (⟨"java/util/ArrayList", "grow", "()[Ljava/lang/Object;"⟩ : MethodName)) (cx.w 68 rfl) (cx.w 70 rfl) (cx.w 71 rfl) (cx.w 69 rfl) (cx.w 32 rfl) (cx.w 72 rfl) (by decide) E_a (ct_grow cx W0.old a E_a F_elementData_a F_size_a F_modCount_a g_a) (allS (List.mem_of_getElem? (i := 0) rfl) all0) (by decide) (Wd := 0) (by decide) (k' := 1) (n' := 10) rfl rfl (by decide) (by decide) (by rw [hml]; rfl) (a := a) (argsL := []) (rest := []) rfl (lenOf pd5 rfl) rfl (Nat.le_of_eq rfl) (hb hby d10_7) ?_
  intro v1 vm1 T1 h1 L1 W1 q1
  obtain ⟨b, kb, rfl, hz_b, g_b, K1, O_b, V_b, E_n, F_elementData_n, F_size_n, F_modCount_n⟩ := q1
  have ne_a_b : a ≠ b := Nat.ne_of_lt (Nat.lt_of_lt_of_le E_a.lt hz_b)
  have ne_x_b : x ≠ b := Nat.ne_of_lt (Nat.lt_of_lt_of_le S_x.lt hz_b)
  have ne_tx_b : tx ≠ b := Nat.ne_of_lt (Nat.lt_of_lt_of_le S_x.ltt hz_b)
  have ne_ea_b : ea ≠ b := Nat.ne_of_lt (Nat.lt_of_lt_of_le V_ea.lt hz_b)
  have sz_b : h.size ≤ b := Nat.le_trans K0.1 hz_b
  have ne_tx_a : tx ≠ a := (Ne.symm (Ne.symm (S_x.neT E_a (cx.w 31 rfl))))
  have ne_ea_a : ea ≠ a := (Ne.symm (Exa.neArv E_a V_ea (cx.w 31 rfl)))
  replace E_a := E_a.keep K1
  replace S_x := S_x.keep K1 (ninS ne_x_a nin0) (ninS ne_tx_a nin0)
  replace V_ea := V_ea.keep K1 (ninS ne_ea_a nin0)
  replace K0 := K0.trans K1 (allS (Or.inl (List.mem_of_getElem? (i := 0) rfl)) all0)
  show Go p_ e_ bl_ _ (T1.setTop (mkF m_ 10 #[.val (.ref a), .val (.ref x), .val (.ref ea), .val (.int (0 : Int32))] [(.ref b)]))
  have W2 := W1.consA V_b (by decide)
  refine Go.st (fun _ => XS.astoreN W2.here W2.ex rfl (hb hby d10_10) rfl rfl (l' := #[.val (.ref a), .val (.ref x), .val (.ref b), .val (.int (0 : Int32))]) rfl) ?_
  show Go p_ e_ bl_ _ (T1.setTop (mkF m_ 11 #[.val (.ref a), .val (.ref x), .val (.ref b), .val (.int (0 : Int32))] []))
  refine Go.st (fun _ => XS.aloadN W2.here W2.ex rfl (hb hby d10_11) rfl rfl) ?_
  show Go p_ e_ bl_ _ (T1.setTop (mkF m_ 12 #[.val (.ref a), .val (.ref x), .val (.ref b), .val (.int (0 : Int32))] [(.ref b)]))
  refine Go.st (fun _ => XS.iloadN W2.here W2.ex rfl (hb hby d10_12) rfl) ?_
  show Go p_ e_ bl_ _ (T1.setTop (mkF m_ 13 #[.val (.ref a), .val (.ref x), .val (.ref b), .val (.int (0 : Int32))] [(.int (0 : Int32)), (.ref b)]))
  refine Go.st (fun _ => XS.aloadN W2.here W2.ex rfl (hb hby d10_13) rfl rfl) ?_
  show Go p_ e_ bl_ _ (T1.setTop (mkF m_ 14 #[.val (.ref a), .val (.ref x), .val (.ref b), .val (.int (0 : Int32))] [(.ref x), (.int (0 : Int32)), (.ref b)]))
  refine W2.stR V_b O_b (Ins.of_exa S_x.E (cx.w 84 rfl)) (j := (0 : Int32)) ⟨by decide, by decide⟩ 0 rfl (Nat.le_of_ble_eq_true rfl) (List.mem_of_getElem? (i := 0) rfl) g_b (hb hby d10_14) ?_
  intro T3 h3 L3 W3 w3 V_new
  replace E_a := E_a.wr w3
  replace S_x := S_x.wr w3 ne_x_b ne_tx_b
  replace V_ea := V_ea.other w3 ne_ea_b
  replace F_elementData_n := F_elementData_n.other w3 (Or.inl ne_a_b)
  replace F_size_n := F_size_n.other w3 (Or.inl ne_a_b)
  replace F_modCount_n := F_modCount_n.other w3 (Or.inl ne_a_b)
  replace K0 := K0.wr w3 (Or.inr sz_b)
  replace V_b : Arv Z h3 b kb (.object "java/lang/Object") (10 : Int32) [.ref x, .null, .null, .null, .null, .null, .null, .null, .null, .null] .null := V_new
  clear V_new
  show Go p_ e_ bl_ _ (T3.setTop (mkF m_ 15 #[.val (.ref a), .val (.ref x), .val (.ref b), .val (.int (0 : Int32))] []))
  refine Go.st (fun _ => XS.aloadN W3.here W3.ex rfl (hb hby d10_15) rfl rfl) ?_
  show Go p_ e_ bl_ _ (T3.setTop (mkF m_ 16 #[.val (.ref a), .val (.ref x), .val (.ref b), .val (.int (0 : Int32))] [(.ref a)]))
  refine Go.st (fun _ => XS.iloadN W3.here W3.ex rfl (hb hby d10_16) rfl) ?_
  show Go p_ e_ bl_ _ (T3.setTop (mkF m_ 17 #[.val (.ref a), .val (.ref x), .val (.ref b), .val (.int (0 : Int32))] [(.int (0 : Int32)), (.ref a)]))
  refine Go.st (fun _ => XS.iconst W3.here W3.ex rfl (hb hby d10_17)) ?_
  show Go p_ e_ bl_ _ (T3.setTop (mkF m_ 18 #[.val (.ref a), .val (.ref x), .val (.ref b), .val (.int (0 : Int32))] [(.int (1 : Int32)), (.int (0 : Int32)), (.ref a)]))
  refine Go.st (fun _ => XS.iadd W3.here W3.ex rfl (hb hby d10_18) rfl) ?_
  show Go p_ e_ bl_ _ (T3.setTop (mkF m_ 19 #[.val (.ref a), .val (.ref x), .val (.ref b), .val (.int (0 : Int32))] [(.int ((0 : Int32) + (1 : Int32))), (.ref a)]))
  show Go p_ e_ bl_ _ (T3.setTop (mkF m_ 19 #[.val (.ref a), .val (.ref x), .val (.ref b), .val (.int (0 : Int32))] [(.int (1 : Int32)), (.ref a)]))
  refine W3.putF (cx.w 61 rfl) Via.refl F_size_n E_a (Or.inl (cx.w 62 rfl)) (cx.w 31 rfl) (ty := .int) (by decide) rfl rfl (List.mem_of_getElem? (i := 1) rfl) g_a (hb hby d10_19) ?_
  intro T4 h4 L4 W4 w4
  replace E_a := E_a.wr w4
  replace S_x := S_x.wr w4 ne_x_a ne_tx_a
  replace V_ea := V_ea.other w4 ne_ea_a
  replace F_elementData_n := F_elementData_n.other w4 (Or.inr (slot_ne (Or.inl (cx.w 53 rfl)) (Or.inl (cx.w 62 rfl)) (by decide) (t := (.array (.object "java/lang/Object"))) (t' := .int) (by decide) (by decide)))
  replace F_size_n := F_size_n.same w4
  replace F_modCount_n := F_modCount_n.other w4 (Or.inr (slot_ne (Or.inl (cx.w 50 rfl)) (Or.inl (cx.w 62 rfl)) (by decide) (t := .int) (t' := .int) (by decide) (by decide)))
  replace V_b := V_b.other w4 (Ne.symm ne_a_b)
  replace K0 := K0.wr w4 (Or.inl (List.mem_of_getElem? (i := 0) rfl))
  show Go p_ e_ bl_ _ (T4.setTop (mkF m_ 22 #[.val (.ref a), .val (.ref x), .val (.ref b), .val (.int (0 : Int32))] []))
  exact W4.retV hret (hb hby d10_22) (by decide) (by decide) fun _ _ => ⟨rfl, b, kb, hz_b, g_b, K0, V_b, E_a, F_elementData_n, F_size_n, F_modCount_n⟩
set_option maxRecDepth 65536 in
set_option maxHeartbeats 40000000 in
theorem ct_add {l : Launch} {Z : State} {a0 : Array Value} {n0 : Nat} {g1 : Int32} {gf : Value} {ea : Addr} {kea : ClassId} (cx : Ctx Z a0 n0 g1 gf ea kea) {h : Heap} (O : Old Z n0 h) (a x tx : Addr) (cs : List Int32) (E_a : Exa Z h a "java/util/ArrayList") (F_elementData_a : Fld Z h a "java/util/ArrayList" "elementData" "[Ljava/lang/Object;" (.ref ea)) (F_size_a : Fld Z h a "java/util/ArrayList" "size" "I" (.int (0 : Int32))) (F_modCount_a : Fld Z h a "java/util/AbstractList" "modCount" "I" (.int (0 : Int32))) (g_a : n0 ≤ a) (S_x : StrAt Z h x tx cs) (ne_x_a : x ≠ a) :
    Ct l Z consts_1 n0 [] (⟨"java/util/ArrayList", "add", "(Ljava/lang/Object;)Z"⟩ : MethodName) jdk_38_method_25_code 2 (some .boolean) ({ frames := 4, cells := 1, slots := 10, locals := 56 } : Room) #[(.ref a), (.ref x)] [a] h (fun v _ h' => v = some (.int 1) ∧ ∃ (b : Addr) (kb : ClassId), h.size ≤ b ∧ n0 ≤ b ∧ Keep h h' [a] ∧ Arv Z h' b kb (.object "java/lang/Object") 10 [.ref x, .null, .null, .null, .null, .null, .null, .null, .null, .null] .null ∧ Exa Z h' a "java/util/ArrayList" ∧ Fld Z h' a "java/util/ArrayList" "elementData" "[Ljava/lang/Object;" (.ref b) ∧ Fld Z h' a "java/util/ArrayList" "size" "I" (.int (1 : Int32)) ∧ Fld Z h' a "java/util/AbstractList" "modCount" "I" (.int (1 : Int32))) := by
  refine Ct.intro (plainFor_of_name pn4) O cx.ew ?_
  intro p_ e_ s_ m_ bl_ mt_ c_ T0 W0 hby hml hret hnm
  refine Go.st (fun t_ k_ => castTop (g' := mkF m_ 0 #[.val (.ref a), .val (.ref x)] []) (by first | (simp [entryFrame, mkF, argsToLocals, Value.category]; done) | rfl) k_) ?_
  show Go p_ e_ bl_ _ (T0.setTop (mkF m_ 0 #[.val (.ref a), .val (.ref x)] []))
  have K0 : Keep h h [a] := Keep.refl _ _
  refine Go.st (fun _ => XS.aloadN W0.here W0.ex rfl (hb hby d9_0) rfl rfl) ?_
  show Go p_ e_ bl_ _ (T0.setTop (mkF m_ 1 #[.val (.ref a), .val (.ref x)] [(.ref a)]))
  refine Go.st (fun _ => XS.dup W0.here W0.ex rfl (hb hby d9_1) rfl rfl) ?_
  show Go p_ e_ bl_ _ (T0.setTop (mkF m_ 2 #[.val (.ref a), .val (.ref x)] [(.ref a), (.ref a)]))
  refine W0.getF (cx.w 59 rfl) (Via.of (cx.w 60 rfl)) F_modCount_a (hb hby d9_2) ?_
  intro T1 W1
  show Go p_ e_ bl_ _ (T1.setTop (mkF m_ 5 #[.val (.ref a), .val (.ref x)] [(.int (0 : Int32)), (.ref a)]))
  refine Go.st (fun _ => XS.iconst W1.here W1.ex rfl (hb hby d9_5)) ?_
  show Go p_ e_ bl_ _ (T1.setTop (mkF m_ 6 #[.val (.ref a), .val (.ref x)] [(.int (1 : Int32)), (.int (0 : Int32)), (.ref a)]))
  refine Go.st (fun _ => XS.iadd W1.here W1.ex rfl (hb hby d9_6) rfl) ?_
  show Go p_ e_ bl_ _ (T1.setTop (mkF m_ 7 #[.val (.ref a), .val (.ref x)] [(.int ((0 : Int32) + (1 : Int32))), (.ref a)]))
  show Go p_ e_ bl_ _ (T1.setTop (mkF m_ 7 #[.val (.ref a), .val (.ref x)] [(.int (1 : Int32)), (.ref a)]))
  refine W1.putF (cx.w 59 rfl) (Via.of (cx.w 60 rfl)) F_modCount_a E_a (Or.inl (cx.w 50 rfl)) (cx.w 31 rfl) (ty := .int) (by decide) rfl rfl (List.mem_of_getElem? (i := 0) rfl) g_a (hb hby d9_7) ?_
  intro T2 h2 L2 W2 w2
  have ne_tx_a : tx ≠ a := (Ne.symm (Ne.symm (S_x.neT E_a (cx.w 31 rfl))))
  replace E_a := E_a.wr w2
  replace F_elementData_a := F_elementData_a.other w2 (Or.inr (slot_ne (Or.inl (cx.w 53 rfl)) (Or.inl (cx.w 50 rfl)) (by decide) (t := (.array (.object "java/lang/Object"))) (t' := .int) (by decide) (by decide)))
  replace F_size_a := F_size_a.other w2 (Or.inr (slot_ne (Or.inl (cx.w 62 rfl)) (Or.inl (cx.w 50 rfl)) (by decide) (t := .int) (t' := .int) (by decide) (by decide)))
  replace F_modCount_a := F_modCount_a.same w2
  replace S_x := S_x.wr w2 ne_x_a ne_tx_a
  replace K0 := K0.wr w2 (Or.inl (List.mem_of_getElem? (i := 0) rfl))
  show Go p_ e_ bl_ _ (T2.setTop (mkF m_ 10 #[.val (.ref a), .val (.ref x)] []))
  refine Go.st (fun _ => XS.aloadN W2.here W2.ex rfl (hb hby d9_10) rfl rfl) ?_
  show Go p_ e_ bl_ _ (T2.setTop (mkF m_ 11 #[.val (.ref a), .val (.ref x)] [(.ref a)]))
  refine Go.st (fun _ => XS.aloadN W2.here W2.ex rfl (hb hby d9_11) rfl rfl) ?_
  show Go p_ e_ bl_ _ (T2.setTop (mkF m_ 12 #[.val (.ref a), .val (.ref x)] [(.ref x), (.ref a)]))
  refine Go.st (fun _ => XS.aloadN W2.here W2.ex rfl (hb hby d9_12) rfl rfl) ?_
  show Go p_ e_ bl_ _ (T2.setTop (mkF m_ 13 #[.val (.ref a), .val (.ref x)] [(.ref a), (.ref x), (.ref a)]))
  refine W2.getF (cx.w 52 rfl) Via.refl F_elementData_a (hb hby d9_13) ?_
  intro T3 W3
  show Go p_ e_ bl_ _ (T3.setTop (mkF m_ 16 #[.val (.ref a), .val (.ref x)] [(.ref ea), (.ref x), (.ref a)]))
  refine Go.st (fun _ => XS.aloadN W3.here W3.ex rfl (hb hby d9_16) rfl rfl) ?_
  show Go p_ e_ bl_ _ (T3.setTop (mkF m_ 17 #[.val (.ref a), .val (.ref x)] [(.ref a), (.ref ea), (.ref x), (.ref a)]))
  refine W3.getF (cx.w 61 rfl) Via.refl F_size_a (hb hby d9_17) ?_
  intro T4 W4
  show Go p_ e_ bl_ _ (T4.setTop (mkF m_ 20 #[.val (.ref a), .val (.ref x)] [(.int (0 : Int32)), (.ref ea), (.ref x), (.ref a)]))
  have K00 := K0.1
  refine W4.callP (y := (⟨"java/util/ArrayList", "add", "(Ljava/lang/Object;[Ljava/lang/Object;I)V"⟩ : MethodName)) (cx.w 63 rfl) (cx.w 65 rfl) (cx.w 66 rfl) (cx.w 64 rfl) (cx.w 32 rfl) (cx.w 67 rfl) (by decide) E_a (ct_add3 cx W4.old a x tx cs E_a F_elementData_a F_size_a F_modCount_a g_a S_x ne_x_a) (allS (List.mem_of_getElem? (i := 0) rfl) all0) (by decide) (Wd := 0) (by decide) (k' := 1) (n' := 10) rfl rfl (by decide) (by decide) (by rw [hml]; rfl) (a := a) (argsL := [(.ref x), (.ref ea), (.int (0 : Int32))]) (rest := []) rfl (lenOf pd6 rfl) rfl (Nat.le_of_eq rfl) (hb hby d9_20) ?_
  intro v5 vm5 T5 h5 L5 W5 q5
  obtain ⟨rfl, b, kb, hz_b, g_b, K1, V_b, E_n, F1, F2, F3⟩ := q5
  replace E_a := E_a.keep K1
  replace S_x := S_x.keep K1 (ninS ne_x_a nin0) (ninS ne_tx_a nin0)
  replace K0 := K0.trans K1 (allS (Or.inl (List.mem_of_getElem? (i := 0) rfl)) all0)
  show Go p_ e_ bl_ _ (T5.setTop (mkF m_ 23 #[.val (.ref a), .val (.ref x)] []))
  refine Go.st (fun _ => XS.iconst W5.here W5.ex rfl (hb hby d9_23)) ?_
  show Go p_ e_ bl_ _ (T5.setTop (mkF m_ 24 #[.val (.ref a), .val (.ref x)] [(.int (1 : Int32))]))
  exact W5.retN hret (by simp) (hb hby d9_24) (by decide) (by decide) fun _ _ => ⟨rfl, b, kb, Nat.le_trans K00 hz_b, g_b, K0, V_b, E_n, F1, F2, F3⟩
set_option maxRecDepth 65536 in
set_option maxHeartbeats 40000000 in
theorem ct_itI {l : Launch} {Z : State} {a0 : Array Value} {n0 : Nat} {g1 : Int32} {gf : Value} {ea : Addr} {kea : ClassId} (cx : Ctx Z a0 n0 g1 gf ea kea) {h : Heap} (O : Old Z n0 h) (i a b : Addr) (E_i : Exa Z h i "java/util/ArrayList$Itr") (F_this_0_i : Fld Z h i "java/util/ArrayList$Itr" "this$0" "Ljava/util/ArrayList;" .null) (F_lastRet_i : Fld Z h i "java/util/ArrayList$Itr" "lastRet" "I" (.int (0 : Int32))) (F_expectedModCount_i : Fld Z h i "java/util/ArrayList$Itr" "expectedModCount" "I" (.int (0 : Int32))) (F_cursor_i : Fld Z h i "java/util/ArrayList$Itr" "cursor" "I" (.int (0 : Int32))) (g_i : n0 ≤ i) (E_a : Exa Z h a "java/util/ArrayList") (F_elementData_a : Fld Z h a "java/util/ArrayList" "elementData" "[Ljava/lang/Object;" (.ref b)) (F_size_a : Fld Z h a "java/util/ArrayList" "size" "I" (.int (1 : Int32))) (F_modCount_a : Fld Z h a "java/util/AbstractList" "modCount" "I" (.int (1 : Int32))) :
    Ct l Z consts_1 n0 [] (⟨"java/util/ArrayList$Itr", "<init>", "(Ljava/util/ArrayList;)V"⟩ : MethodName) jdk_49_method_1_code 2 none ({ frames := 1, cells := 0, slots := 0, locals := 12 } : Room) #[(.ref i), (.ref a)] [i] h (fun v _ h' => v = none ∧ Keep h h' [i] ∧ Exa Z h' i "java/util/ArrayList$Itr" ∧ Fld Z h' i "java/util/ArrayList$Itr" "this$0" "Ljava/util/ArrayList;" (.ref a) ∧ Fld Z h' i "java/util/ArrayList$Itr" "lastRet" "I" (.int (-1 : Int32)) ∧ Fld Z h' i "java/util/ArrayList$Itr" "expectedModCount" "I" (.int (1 : Int32)) ∧ Fld Z h' i "java/util/ArrayList$Itr" "cursor" "I" (.int (0 : Int32))) := by
  refine Ct.intro (plainFor_of_name pn5) O cx.ew ?_
  intro p_ e_ s_ m_ bl_ mt_ c_ T0 W0 hby hml hret hnm
  refine Go.st (fun t_ k_ => castTop (g' := mkF m_ 0 #[.val (.ref i), .val (.ref a)] []) (by first | (simp [entryFrame, mkF, argsToLocals, Value.category]; done) | rfl) k_) ?_
  show Go p_ e_ bl_ _ (T0.setTop (mkF m_ 0 #[.val (.ref i), .val (.ref a)] []))
  have K0 : Keep h h [i] := Keep.refl _ _
  refine Go.st (fun _ => XS.aloadN W0.here W0.ex rfl (hb hby d16_0) rfl rfl) ?_
  show Go p_ e_ bl_ _ (T0.setTop (mkF m_ 1 #[.val (.ref i), .val (.ref a)] [(.ref i)]))
  refine Go.st (fun _ => XS.aloadN W0.here W0.ex rfl (hb hby d16_1) rfl rfl) ?_
  show Go p_ e_ bl_ _ (T0.setTop (mkF m_ 2 #[.val (.ref i), .val (.ref a)] [(.ref a), (.ref i)]))
  refine W0.putF (cx.w 108 rfl) Via.refl F_this_0_i E_i (Or.inr ⟨(cx.w 109 rfl), rfl, hnm⟩) (cx.w 102 rfl) (ty := (.object "java/util/ArrayList")) (by decide) rfl rfl (List.mem_of_getElem? (i := 0) rfl) g_i (hb hby d16_2) ?_
  intro T1 h1 L1 W1 w1
  have ne_a_i : a ≠ i := (ne_exa E_a E_i (by decide))
  replace E_i := E_i.wr w1
  replace F_this_0_i := F_this_0_i.same w1
  replace F_lastRet_i := F_lastRet_i.other w1 (Or.inr (slot_ne (Or.inl (cx.w 112 rfl)) (Or.inr (cx.w 109 rfl)) (by decide) (t := .int) (t' := (.object "java/util/ArrayList")) (by decide) (by decide)))
  replace F_expectedModCount_i := F_expectedModCount_i.other w1 (Or.inr (slot_ne (Or.inl (cx.w 115 rfl)) (Or.inr (cx.w 109 rfl)) (by decide) (t := .int) (t' := (.object "java/util/ArrayList")) (by decide) (by decide)))
  replace F_cursor_i := F_cursor_i.other w1 (Or.inr (slot_ne (Or.inl (cx.w 138 rfl)) (Or.inr (cx.w 109 rfl)) (by decide) (t := .int) (t' := (.object "java/util/ArrayList")) (by decide) (by decide)))
  replace E_a := E_a.wr w1
  replace F_elementData_a := F_elementData_a.other w1 (Or.inl ne_a_i)
  replace F_size_a := F_size_a.other w1 (Or.inl ne_a_i)
  replace F_modCount_a := F_modCount_a.other w1 (Or.inl ne_a_i)
  replace K0 := K0.wr w1 (Or.inl (List.mem_of_getElem? (i := 0) rfl))
  show Go p_ e_ bl_ _ (T1.setTop (mkF m_ 5 #[.val (.ref i), .val (.ref a)] []))
  refine Go.st (fun _ => XS.aloadN W1.here W1.ex rfl (hb hby d16_5) rfl rfl) ?_
  show Go p_ e_ bl_ _ (T1.setTop (mkF m_ 6 #[.val (.ref i), .val (.ref a)] [(.ref i)]))
  refine W1.initO (cx.w 110 rfl) (cx.w 20 rfl) (cx.w 21 rfl) (by rw [hml]; rfl) (hb hby d16_6) (by decide) (Wd := 0) (Nat.le_of_eq rfl) (by decide) ?_
  intro T2 W2
  show Go p_ e_ bl_ _ (T2.setTop (mkF m_ 9 #[.val (.ref i), .val (.ref a)] []))
  refine Go.st (fun _ => XS.aloadN W2.here W2.ex rfl (hb hby d16_9) rfl rfl) ?_
  show Go p_ e_ bl_ _ (T2.setTop (mkF m_ 10 #[.val (.ref i), .val (.ref a)] [(.ref i)]))
  refine Go.st (fun _ => XS.iconst W2.here W2.ex rfl (hb hby d16_10)) ?_
  show Go p_ e_ bl_ _ (T2.setTop (mkF m_ 11 #[.val (.ref i), .val (.ref a)] [(.int (-1 : Int32)), (.ref i)]))
  refine W2.putF (cx.w 111 rfl) Via.refl F_lastRet_i E_i (Or.inl (cx.w 112 rfl)) (cx.w 102 rfl) (ty := .int) (by decide) rfl rfl (List.mem_of_getElem? (i := 0) rfl) g_i (hb hby d16_11) ?_
  intro T3 h3 L3 W3 w3
  replace E_i := E_i.wr w3
  replace F_this_0_i := F_this_0_i.other w3 (Or.inr (slot_ne (Or.inr (cx.w 109 rfl)) (Or.inl (cx.w 112 rfl)) (by decide) (t := (.object "java/util/ArrayList")) (t' := .int) (by decide) (by decide)))
  replace F_lastRet_i := F_lastRet_i.same w3
  replace F_expectedModCount_i := F_expectedModCount_i.other w3 (Or.inr (slot_ne (Or.inl (cx.w 115 rfl)) (Or.inl (cx.w 112 rfl)) (by decide) (t := .int) (t' := .int) (by decide) (by decide)))
  replace F_cursor_i := F_cursor_i.other w3 (Or.inr (slot_ne (Or.inl (cx.w 138 rfl)) (Or.inl (cx.w 112 rfl)) (by decide) (t := .int) (t' := .int) (by decide) (by decide)))
  replace E_a := E_a.wr w3
  replace F_elementData_a := F_elementData_a.other w3 (Or.inl ne_a_i)
  replace F_size_a := F_size_a.other w3 (Or.inl ne_a_i)
  replace F_modCount_a := F_modCount_a.other w3 (Or.inl ne_a_i)
  replace K0 := K0.wr w3 (Or.inl (List.mem_of_getElem? (i := 0) rfl))
  show Go p_ e_ bl_ _ (T3.setTop (mkF m_ 14 #[.val (.ref i), .val (.ref a)] []))
  refine Go.st (fun _ => XS.aloadN W3.here W3.ex rfl (hb hby d16_14) rfl rfl) ?_
  show Go p_ e_ bl_ _ (T3.setTop (mkF m_ 15 #[.val (.ref i), .val (.ref a)] [(.ref i)]))
  refine Go.st (fun _ => XS.aloadN W3.here W3.ex rfl (hb hby d16_15) rfl rfl) ?_
  show Go p_ e_ bl_ _ (T3.setTop (mkF m_ 16 #[.val (.ref i), .val (.ref a)] [(.ref i), (.ref i)]))
  refine W3.getF (cx.w 108 rfl) Via.refl F_this_0_i (hb hby d16_16) ?_
  intro T4 W4
  show Go p_ e_ bl_ _ (T4.setTop (mkF m_ 19 #[.val (.ref i), .val (.ref a)] [(.ref a), (.ref i)]))
  refine W4.getF (cx.w 113 rfl) (Via.of (cx.w 60 rfl)) F_modCount_a (hb hby d16_19) ?_
  intro T5 W5
  show Go p_ e_ bl_ _ (T5.setTop (mkF m_ 22 #[.val (.ref i), .val (.ref a)] [(.int (1 : Int32)), (.ref i)]))
  refine W5.putF (cx.w 114 rfl) Via.refl F_expectedModCount_i E_i (Or.inl (cx.w 115 rfl)) (cx.w 102 rfl) (ty := .int) (by decide) rfl rfl (List.mem_of_getElem? (i := 0) rfl) g_i (hb hby d16_22) ?_
  intro T6 h6 L6 W6 w6
  replace E_i := E_i.wr w6
  replace F_this_0_i := F_this_0_i.other w6 (Or.inr (slot_ne (Or.inr (cx.w 109 rfl)) (Or.inl (cx.w 115 rfl)) (by decide) (t := (.object "java/util/ArrayList")) (t' := .int) (by decide) (by decide)))
  replace F_lastRet_i := F_lastRet_i.other w6 (Or.inr (slot_ne (Or.inl (cx.w 112 rfl)) (Or.inl (cx.w 115 rfl)) (by decide) (t := .int) (t' := .int) (by decide) (by decide)))
  replace F_expectedModCount_i := F_expectedModCount_i.same w6
  replace F_cursor_i := F_cursor_i.other w6 (Or.inr (slot_ne (Or.inl (cx.w 138 rfl)) (Or.inl (cx.w 115 rfl)) (by decide) (t := .int) (t' := .int) (by decide) (by decide)))
  replace E_a := E_a.wr w6
  replace F_elementData_a := F_elementData_a.other w6 (Or.inl ne_a_i)
  replace F_size_a := F_size_a.other w6 (Or.inl ne_a_i)
  replace F_modCount_a := F_modCount_a.other w6 (Or.inl ne_a_i)
  replace K0 := K0.wr w6 (Or.inl (List.mem_of_getElem? (i := 0) rfl))
  show Go p_ e_ bl_ _ (T6.setTop (mkF m_ 25 #[.val (.ref i), .val (.ref a)] []))
  exact W6.retV hret (hb hby d16_25) (by decide) (by decide) fun _ _ => ⟨rfl, K0, E_i, F_this_0_i, F_lastRet_i, F_expectedModCount_i, F_cursor_i⟩
set_option maxRecDepth 65536 in
set_option maxHeartbeats 40000000 in
theorem ct_iter {l : Launch} {Z : State} {a0 : Array Value} {n0 : Nat} {g1 : Int32} {gf : Value} {ea : Addr} {kea : ClassId} (cx : Ctx Z a0 n0 g1 gf ea kea) {h : Heap} (O : Old Z n0 h) (a b : Addr) (E_a : Exa Z h a "java/util/ArrayList") (F_elementData_a : Fld Z h a "java/util/ArrayList" "elementData" "[Ljava/lang/Object;" (.ref b)) (F_size_a : Fld Z h a "java/util/ArrayList" "size" "I" (.int (1 : Int32))) (F_modCount_a : Fld Z h a "java/util/AbstractList" "modCount" "I" (.int (1 : Int32))) :
    Ct l Z consts_1 n0 [] (⟨"java/util/ArrayList", "iterator", "()Ljava/util/Iterator;"⟩ : MethodName) jdk_38_method_55_code 1 (some (.object "java/util/Iterator")) ({ frames := 2, cells := 1, slots := 4, locals := 26 } : Room) #[(.ref a)] [] h (fun v _ h' => ∃ i : Addr, v = some (.ref i) ∧ h.size ≤ i ∧ n0 ≤ i ∧ Keep h h' [] ∧ Exa Z h' i "java/util/ArrayList$Itr" ∧ Fld Z h' i "java/util/ArrayList$Itr" "this$0" "Ljava/util/ArrayList;" (.ref a) ∧ Fld Z h' i "java/util/ArrayList$Itr" "lastRet" "I" (.int (-1 : Int32)) ∧ Fld Z h' i "java/util/ArrayList$Itr" "expectedModCount" "I" (.int (1 : Int32)) ∧ Fld Z h' i "java/util/ArrayList$Itr" "cursor" "I" (.int (0 : Int32))) := by
  refine Ct.intro (plainFor_of_name pn4) O cx.ew ?_
  intro p_ e_ s_ m_ bl_ mt_ c_ T0 W0 hby hml hret hnm
  refine Go.st (fun t_ k_ => castTop (g' := mkF m_ 0 #[.val (.ref a)] []) (by first | (simp [entryFrame, mkF, argsToLocals, Value.category]; done) | rfl) k_) ?_
  show Go p_ e_ bl_ _ (T0.setTop (mkF m_ 0 #[.val (.ref a)] []))
  have K0 : Keep h h [] := Keep.refl _ _
  refine W0.newO (cx.w 101 rfl) (cx.w 102 rfl) (cx.w 103 rfl) (hb hby d15_0) (k' := 1) (n' := 4) rfl rfl (by decide) (by decide) ?_
  intro T1 h1 b1 hb1 g_b1 W1 E1 E_b1 D1
  have ne_a_b1 : a ≠ b1 := Nat.ne_of_lt (Nat.lt_of_lt_of_le E_a.lt (Nat.le_of_eq hb1.symm))
  have sz_b1 : h.size ≤ b1 := Nat.le_trans K0.1 (Nat.le_of_eq hb1.symm)
  replace E_a := E_a.ext E1
  replace F_elementData_a := F_elementData_a.ext E1
  replace F_size_a := F_size_a.ext E1
  replace F_modCount_a := F_modCount_a.ext E1
  replace K0 := K0.ext E1
  have F_this_0_b1 : Fld Z h1 b1 "java/util/ArrayList$Itr" "this$0" "Ljava/util/ArrayList;" .null := D1 (Or.inr (cx.w 109 rfl)) (ty := (.object "java/util/ArrayList")) (by decide)
  have F_lastRet_b1 : Fld Z h1 b1 "java/util/ArrayList$Itr" "lastRet" "I" (.int (0 : Int32)) := D1 (Or.inl (cx.w 112 rfl)) (ty := .int) (by decide)
  have F_expectedModCount_b1 : Fld Z h1 b1 "java/util/ArrayList$Itr" "expectedModCount" "I" (.int (0 : Int32)) := D1 (Or.inl (cx.w 115 rfl)) (ty := .int) (by decide)
  have F_cursor_b1 : Fld Z h1 b1 "java/util/ArrayList$Itr" "cursor" "I" (.int (0 : Int32)) := D1 (Or.inl (cx.w 138 rfl)) (ty := .int) (by decide)
  show Go p_ e_ bl_ _ (T1.setTop (mkF m_ 3 #[.val (.ref a)] [(.ref b1)]))
  refine Go.st (fun _ => XS.dup W1.here W1.ex rfl (hb hby d15_3) rfl rfl) ?_
  show Go p_ e_ bl_ _ (T1.setTop (mkF m_ 4 #[.val (.ref a)] [(.ref b1), (.ref b1)]))
  refine Go.st (fun _ => XS.aloadN W1.here W1.ex rfl (hb hby d15_4) rfl rfl) ?_
  show Go p_ e_ bl_ _ (T1.setTop (mkF m_ 5 #[.val (.ref a)] [(.ref a), (.ref b1), (.ref b1)]))
  refine W1.callI (y := (⟨"java/util/ArrayList$Itr", "<init>", "(Ljava/util/ArrayList;)V"⟩ : MethodName)) rfl (cx.w 104 rfl) (cx.w 105 rfl) (cx.w 103 rfl) (cx.w 107 rfl) (by decide) (ct_itI cx W1.old b1 a b E_b1 F_this_0_b1 F_lastRet_b1 F_expectedModCount_b1 F_cursor_b1 g_b1 E_a F_elementData_a F_size_a F_modCount_a) (allS (List.mem_of_getElem? (i := 0) rfl) all0) (by decide) (Wd := 1) (by decide) (k' := 1) (n' := 4) rfl rfl (by decide) (by decide) (by rw [hml]; rfl) (a := b1) (argsL := [(.ref a)]) (rest := [(.ref b1)]) rfl (lenOf pd7 rfl) rfl (Nat.le_of_eq rfl) (hb hby d15_5) ?_
  intro v2 vm2 T2 h2 L2 W2 q2
  obtain ⟨rfl, K1, E_n, G1, G2, G3, G4⟩ := q2
  replace E_a := E_a.keep K1
  replace F_elementData_a := F_elementData_a.keep K1 (ninS ne_a_b1 nin0)
  replace F_size_a := F_size_a.keep K1 (ninS ne_a_b1 nin0)
  replace F_modCount_a := F_modCount_a.keep K1 (ninS ne_a_b1 nin0)
  replace E_b1 := E_b1.keep K1
  replace K0 := K0.trans K1 (allS (Or.inr sz_b1) all0)
  show Go p_ e_ bl_ _ (T2.setTop (mkF m_ 8 #[.val (.ref a)] [(.ref b1)]))
  exact W2.retA hret rfl rfl (hb hby d15_8) (by decide) (by decide) fun _ _ => ⟨b1, rfl, sz_b1, g_b1, K0, E_n, G1, G2, G3, G4⟩
set_option maxRecDepth 65536 in
set_option maxHeartbeats 40000000 in
theorem ct_cfc {l : Launch} {Z : State} {a0 : Array Value} {n0 : Nat} {g1 : Int32} {gf : Value} {ea : Addr} {kea : ClassId} (cx : Ctx Z a0 n0 g1 gf ea kea) {h : Heap} (O : Old Z n0 h) (i a b : Addr) (E_i : Exa Z h i "java/util/ArrayList$Itr") (F_this_0_i : Fld Z h i "java/util/ArrayList$Itr" "this$0" "Ljava/util/ArrayList;" (.ref a)) (F_lastRet_i : Fld Z h i "java/util/ArrayList$Itr" "lastRet" "I" (.int (-1 : Int32))) (F_expectedModCount_i : Fld Z h i "java/util/ArrayList$Itr" "expectedModCount" "I" (.int (1 : Int32))) (F_cursor_i : Fld Z h i "java/util/ArrayList$Itr" "cursor" "I" (.int (0 : Int32))) (E_a : Exa Z h a "java/util/ArrayList") (F_elementData_a : Fld Z h a "java/util/ArrayList" "elementData" "[Ljava/lang/Object;" (.ref b)) (F_size_a : Fld Z h a "java/util/ArrayList" "size" "I" (.int (1 : Int32))) (F_modCount_a : Fld Z h a "java/util/AbstractList" "modCount" "I" (.int (1 : Int32))) :
    Ct l Z consts_1 n0 [] (⟨"java/util/ArrayList$Itr", "checkForComodification", "()V"⟩ : MethodName) jdk_49_method_6_code 1 none ({ frames := 0, cells := 0, slots := 0, locals := 0 } : Room) #[(.ref i)] [] h (fun v _ h' => v = none ∧ h' = h) := by
  refine Ct.intro (plainFor_of_name pn5) O cx.ew ?_
  intro p_ e_ s_ m_ bl_ mt_ c_ T0 W0 hby hml hret hnm
  refine Go.st (fun t_ k_ => castTop (g' := mkF m_ 0 #[.val (.ref i)] []) (by first | (simp [entryFrame, mkF, argsToLocals, Value.category]; done) | rfl) k_) ?_
  show Go p_ e_ bl_ _ (T0.setTop (mkF m_ 0 #[.val (.ref i)] []))
  refine Go.st (fun _ => XS.aloadN W0.here W0.ex rfl (hb hby d19_0) rfl rfl) ?_
  show Go p_ e_ bl_ _ (T0.setTop (mkF m_ 1 #[.val (.ref i)] [(.ref i)]))
  refine W0.getF (cx.w 108 rfl) Via.refl F_this_0_i (hb hby d19_1) ?_
  intro T1 W1
  show Go p_ e_ bl_ _ (T1.setTop (mkF m_ 4 #[.val (.ref i)] [(.ref a)]))
  refine W1.getF (cx.w 113 rfl) (Via.of (cx.w 60 rfl)) F_modCount_a (hb hby d19_4) ?_
  intro T2 W2
  show Go p_ e_ bl_ _ (T2.setTop (mkF m_ 7 #[.val (.ref i)] [(.int (1 : Int32))]))
  refine Go.st (fun _ => XS.aloadN W2.here W2.ex rfl (hb hby d19_7) rfl rfl) ?_
  show Go p_ e_ bl_ _ (T2.setTop (mkF m_ 8 #[.val (.ref i)] [(.ref i), (.int (1 : Int32))]))
  refine W2.getF (cx.w 114 rfl) Via.refl F_expectedModCount_i (hb hby d19_8) ?_
  intro T3 W3
  show Go p_ e_ bl_ _ (T3.setTop (mkF m_ 11 #[.val (.ref i)] [(.int (1 : Int32)), (.int (1 : Int32))]))
  refine Go.st (fun _ => XS.icmpYes W3.here W3.ex rfl (pc0 := 11) (pc' := 22) rfl (hb hby d19_11) rfl (teq (rfl : (1 : Int32) = (1 : Int32))).1 (by decide) (by decide)) ?_
  show Go p_ e_ bl_ _ (T3.setTop (mkF m_ 22 #[.val (.ref i)] []))
  exact W3.retV hret (hb hby d19_22) (by decide) (by decide) fun _ _ => ⟨rfl, rfl⟩
set_option maxRecDepth 65536 in
set_option maxHeartbeats 40000000 in
theorem ct_itN {l : Launch} {Z : State} {a0 : Array Value} {n0 : Nat} {g1 : Int32} {gf : Value} {ea : Addr} {kea : ClassId} (cx : Ctx Z a0 n0 g1 gf ea kea) {h : Heap} (O : Old Z n0 h) (i a b x : Addr) (kb : ClassId) (E_i : Exa Z h i "java/util/ArrayList$Itr") (F_this_0_i : Fld Z h i "java/util/ArrayList$Itr" "this$0" "Ljava/util/ArrayList;" (.ref a)) (F_lastRet_i : Fld Z h i "java/util/ArrayList$Itr" "lastRet" "I" (.int (-1 : Int32))) (F_expectedModCount_i : Fld Z h i "java/util/ArrayList$Itr" "expectedModCount" "I" (.int (1 : Int32))) (F_cursor_i : Fld Z h i "java/util/ArrayList$Itr" "cursor" "I" (.int (0 : Int32))) (g_i : n0 ≤ i) (E_a : Exa Z h a "java/util/ArrayList") (F_elementData_a : Fld Z h a "java/util/ArrayList" "elementData" "[Ljava/lang/Object;" (.ref b)) (F_size_a : Fld Z h a "java/util/ArrayList" "size" "I" (.int (1 : Int32))) (F_modCount_a : Fld Z h a "java/util/AbstractList" "modCount" "I" (.int (1 : Int32))) (V_b : Arv Z h b kb (.object "java/lang/Object") 10 [.ref x, .null, .null, .null, .null, .null, .null, .null, .null, .null] .null) :
    Ct l Z consts_1 n0 [] (⟨"java/util/ArrayList$Itr", "next", "()Ljava/lang/Object;"⟩ : MethodName) jdk_49_method_3_code 3 (some (.object "java/lang/Object")) ({ frames := 1, cells := 0, slots := 0, locals := 12 } : Room) #[(.ref i)] [i] h (fun v _ h' => v = some (.ref x) ∧ Keep h h' [i]) := by
  refine Ct.intro (plainFor_of_name pn5) O cx.ew ?_
  intro p_ e_ s_ m_ bl_ mt_ c_ T0 W0 hby hml hret hnm
  refine Go.st (fun t_ k_ => castTop (g' := mkF m_ 0 #[.val (.ref i), .unset, .unset] []) (by first | (simp [entryFrame, mkF, argsToLocals, Value.category]; done) | rfl) k_) ?_
  show Go p_ e_ bl_ _ (T0.setTop (mkF m_ 0 #[.val (.ref i), .unset, .unset] []))
  have K0 : Keep h h [i] := Keep.refl _ _
  refine Go.st (fun _ => XS.aloadN W0.here W0.ex rfl (hb hby d18_0) rfl rfl) ?_
  show Go p_ e_ bl_ _ (T0.setTop (mkF m_ 1 #[.val (.ref i), .unset, .unset] [(.ref i)]))
  refine W0.callV (y := (⟨"java/util/ArrayList$Itr", "checkForComodification", "()V"⟩ : MethodName)) (z := (⟨"java/util/ArrayList$Itr", "checkForComodification", "()V"⟩ : MethodName)) (cx.w 132 rfl) (cx.w 133 rfl) (cx.w 135 rfl) (cx.w 134 rfl) (cx.w 103 rfl) (cx.w 136 rfl) (W0.nf (cx.w 135 rfl)) (by decide) E_i (ct_cfc cx W0.old i a b E_i F_this_0_i F_lastRet_i F_expectedModCount_i F_cursor_i E_a F_elementData_a F_size_a F_modCount_a) all0 (by decide) (Wd := 0) (by decide) (k' := 0) (n' := 0) rfl rfl (by decide) (by decide) (by rw [hml]; rfl) (a := i) (argsL := []) (rest := []) rfl (lenOf pd2 rfl) rfl (Nat.le_of_eq rfl) (hb hby d18_1) ?_
  intro v1 vm1 T1 h1 L1 W1 q1
  obtain ⟨rfl, eh_⟩ := q1
  subst h1
  show Go p_ e_ bl_ _ (T1.setTop (mkF m_ 4 #[.val (.ref i), .unset, .unset] []))
  refine Go.st (fun _ => XS.aloadN W1.here W1.ex rfl (hb hby d18_4) rfl rfl) ?_
  show Go p_ e_ bl_ _ (T1.setTop (mkF m_ 5 #[.val (.ref i), .unset, .unset] [(.ref i)]))
  refine W1.getF (cx.w 137 rfl) Via.refl F_cursor_i (hb hby d18_5) ?_
  intro T2 W2
  show Go p_ e_ bl_ _ (T2.setTop (mkF m_ 8 #[.val (.ref i), .unset, .unset] [(.int (0 : Int32))]))
  refine Go.st (fun _ => XS.istoreN W2.here W2.ex rfl (hb hby d18_8) rfl (l' := #[.val (.ref i), .val (.int (0 : Int32)), .unset]) rfl) ?_
  show Go p_ e_ bl_ _ (T2.setTop (mkF m_ 9 #[.val (.ref i), .val (.int (0 : Int32)), .unset] []))
  refine Go.st (fun _ => XS.iloadN W2.here W2.ex rfl (hb hby d18_9) rfl) ?_
  show Go p_ e_ bl_ _ (T2.setTop (mkF m_ 10 #[.val (.ref i), .val (.int (0 : Int32)), .unset] [(.int (0 : Int32))]))
  refine Go.st (fun _ => XS.aloadN W2.here W2.ex rfl (hb hby d18_10) rfl rfl) ?_
  show Go p_ e_ bl_ _ (T2.setTop (mkF m_ 11 #[.val (.ref i), .val (.int (0 : Int32)), .unset] [(.ref i), (.int (0 : Int32))]))
  refine W2.getF (cx.w 108 rfl) Via.refl F_this_0_i (hb hby d18_11) ?_
  intro T3 W3
  show Go p_ e_ bl_ _ (T3.setTop (mkF m_ 14 #[.val (.ref i), .val (.int (0 : Int32)), .unset] [(.ref a), (.int (0 : Int32))]))
  refine W3.getFN (cx.w 139 rfl) Via.refl F_size_a (hb hby d18_14) ?_
  intro T4 W4
  show Go p_ e_ bl_ _ (T4.setTop (mkF m_ 17 #[.val (.ref i), .val (.int (0 : Int32)), .unset] [(.int (1 : Int32)), (.int (0 : Int32))]))
  refine Go.st (fun _ => XS.icmpYes W4.here W4.ex rfl (pc0 := 17) (pc' := 28) rfl (hb hby d18_17) rfl (tlt ((by decide) : (0 : Int32) < (1 : Int32))).1 (by decide) (by decide)) ?_
  show Go p_ e_ bl_ _ (T4.setTop (mkF m_ 28 #[.val (.ref i), .val (.int (0 : Int32)), .unset] []))
  refine Go.st (fun _ => XS.aloadN W4.here W4.ex rfl (hb hby d18_28) rfl rfl) ?_
  show Go p_ e_ bl_ _ (T4.setTop (mkF m_ 29 #[.val (.ref i), .val (.int (0 : Int32)), .unset] [(.ref i)]))
  refine W4.getF (cx.w 108 rfl) Via.refl F_this_0_i (hb hby d18_29) ?_
  intro T5 W5
  show Go p_ e_ bl_ _ (T5.setTop (mkF m_ 32 #[.val (.ref i), .val (.int (0 : Int32)), .unset] [(.ref a)]))
  refine W5.getF (cx.w 140 rfl) Via.refl F_elementData_a (hb hby d18_32) ?_
  intro T6 W6
  show Go p_ e_ bl_ _ (T6.setTop (mkF m_ 35 #[.val (.ref i), .val (.int (0 : Int32)), .unset] [(.ref b)]))
  refine Go.st (fun _ => XS.astoreN W6.here W6.ex rfl (hb hby d18_35) rfl rfl (l' := #[.val (.ref i), .val (.int (0 : Int32)), .val (.ref b)]) rfl) ?_
  show Go p_ e_ bl_ _ (T6.setTop (mkF m_ 36 #[.val (.ref i), .val (.int (0 : Int32)), .val (.ref b)] []))
  refine Go.st (fun _ => XS.iloadN W6.here W6.ex rfl (hb hby d18_36) rfl) ?_
  show Go p_ e_ bl_ _ (T6.setTop (mkF m_ 37 #[.val (.ref i), .val (.int (0 : Int32)), .val (.ref b)] [(.int (0 : Int32))]))
  refine Go.st (fun _ => XS.aloadN W6.here W6.ex rfl (hb hby d18_37) rfl rfl) ?_
  show Go p_ e_ bl_ _ (T6.setTop (mkF m_ 38 #[.val (.ref i), .val (.int (0 : Int32)), .val (.ref b)] [(.ref b), (.int (0 : Int32))]))
  refine W6.alen V_b (hb hby d18_38) ?_
  show Go p_ e_ bl_ _ (T6.setTop (mkF m_ 39 #[.val (.ref i), .val (.int (0 : Int32)), .val (.ref b)] [(.int (10 : Int32)), (.int (0 : Int32))]))
  refine Go.st (fun _ => XS.icmpYes W6.here W6.ex rfl (pc0 := 39) (pc' := 50) rfl (hb hby d18_39) rfl (tlt ((by decide) : (0 : Int32) < (10 : Int32))).1 (by decide) (by decide)) ?_
  show Go p_ e_ bl_ _ (T6.setTop (mkF m_ 50 #[.val (.ref i), .val (.int (0 : Int32)), .val (.ref b)] []))
  refine Go.st (fun _ => XS.aloadN W6.here W6.ex rfl (hb hby d18_50) rfl rfl) ?_
  show Go p_ e_ bl_ _ (T6.setTop (mkF m_ 51 #[.val (.ref i), .val (.int (0 : Int32)), .val (.ref b)] [(.ref i)]))
  refine Go.st (fun _ => XS.iloadN W6.here W6.ex rfl (hb hby d18_51) rfl) ?_
  show Go p_ e_ bl_ _ (T6.setTop (mkF m_ 52 #[.val (.ref i), .val (.int (0 : Int32)), .val (.ref b)] [(.int (0 : Int32)), (.ref i)]))
  refine Go.st (fun _ => XS.iconst W6.here W6.ex rfl (hb hby d18_52)) ?_
  show Go p_ e_ bl_ _ (T6.setTop (mkF m_ 53 #[.val (.ref i), .val (.int (0 : Int32)), .val (.ref b)] [(.int (1 : Int32)), (.int (0 : Int32)), (.ref i)]))
  refine Go.st (fun _ => XS.iadd W6.here W6.ex rfl (hb hby d18_53) rfl) ?_
  show Go p_ e_ bl_ _ (T6.setTop (mkF m_ 54 #[.val (.ref i), .val (.int (0 : Int32)), .val (.ref b)] [(.int ((0 : Int32) + (1 : Int32))), (.ref i)]))
  show Go p_ e_ bl_ _ (T6.setTop (mkF m_ 54 #[.val (.ref i), .val (.int (0 : Int32)), .val (.ref b)] [(.int (1 : Int32)), (.ref i)]))
  refine W6.putF (cx.w 137 rfl) Via.refl F_cursor_i E_i (Or.inl (cx.w 138 rfl)) (cx.w 102 rfl) (ty := .int) (by decide) rfl rfl (List.mem_of_getElem? (i := 0) rfl) g_i (hb hby d18_54) ?_
  intro T7 h7 L7 W7 w7
  have ne_a_i : a ≠ i := (ne_exa E_a E_i (by decide))
  have ne_b_i : b ≠ i := (Ne.symm (Exa.neArv E_i V_b (cx.w 102 rfl)))
  replace E_i := E_i.wr w7
  replace F_this_0_i := F_this_0_i.other w7 (Or.inr (slot_ne (Or.inr (cx.w 109 rfl)) (Or.inl (cx.w 138 rfl)) (by decide) (t := (.object "java/util/ArrayList")) (t' := .int) (by decide) (by decide)))
  replace F_lastRet_i := F_lastRet_i.other w7 (Or.inr (slot_ne (Or.inl (cx.w 112 rfl)) (Or.inl (cx.w 138 rfl)) (by decide) (t := .int) (t' := .int) (by decide) (by decide)))
  replace F_expectedModCount_i := F_expectedModCount_i.other w7 (Or.inr (slot_ne (Or.inl (cx.w 115 rfl)) (Or.inl (cx.w 138 rfl)) (by decide) (t := .int) (t' := .int) (by decide) (by decide)))
  replace F_cursor_i := F_cursor_i.same w7
  replace E_a := E_a.wr w7
  replace F_elementData_a := F_elementData_a.other w7 (Or.inl ne_a_i)
  replace F_size_a := F_size_a.other w7 (Or.inl ne_a_i)
  replace F_modCount_a := F_modCount_a.other w7 (Or.inl ne_a_i)
  replace V_b := V_b.other w7 ne_b_i
  replace K0 := K0.wr w7 (Or.inl (List.mem_of_getElem? (i := 0) rfl))
  show Go p_ e_ bl_ _ (T7.setTop (mkF m_ 57 #[.val (.ref i), .val (.int (0 : Int32)), .val (.ref b)] []))
  refine Go.st (fun _ => XS.aloadN W7.here W7.ex rfl (hb hby d18_57) rfl rfl) ?_
  show Go p_ e_ bl_ _ (T7.setTop (mkF m_ 58 #[.val (.ref i), .val (.int (0 : Int32)), .val (.ref b)] [(.ref b)]))
  refine Go.st (fun _ => XS.aloadN W7.here W7.ex rfl (hb hby d18_58) rfl rfl) ?_
  show Go p_ e_ bl_ _ (T7.setTop (mkF m_ 59 #[.val (.ref i), .val (.int (0 : Int32)), .val (.ref b)] [(.ref i), (.ref b)]))
  refine Go.st (fun _ => XS.iloadN W7.here W7.ex rfl (hb hby d18_59) rfl) ?_
  show Go p_ e_ bl_ _ (T7.setTop (mkF m_ 60 #[.val (.ref i), .val (.int (0 : Int32)), .val (.ref b)] [(.int (0 : Int32)), (.ref i), (.ref b)]))
  refine Go.st (fun _ => XS.dupX1 W7.here W7.ex rfl (hb hby d18_60) rfl rfl rfl) ?_
  show Go p_ e_ bl_ _ (T7.setTop (mkF m_ 61 #[.val (.ref i), .val (.int (0 : Int32)), .val (.ref b)] [(.int (0 : Int32)), (.ref i), (.int (0 : Int32)), (.ref b)]))
  refine W7.putF (cx.w 111 rfl) Via.refl F_lastRet_i E_i (Or.inl (cx.w 112 rfl)) (cx.w 102 rfl) (ty := .int) (by decide) rfl rfl (List.mem_of_getElem? (i := 0) rfl) g_i (hb hby d18_61) ?_
  intro T8 h8 L8 W8 w8
  replace E_i := E_i.wr w8
  replace F_this_0_i := F_this_0_i.other w8 (Or.inr (slot_ne (Or.inr (cx.w 109 rfl)) (Or.inl (cx.w 112 rfl)) (by decide) (t := (.object "java/util/ArrayList")) (t' := .int) (by decide) (by decide)))
  replace F_lastRet_i := F_lastRet_i.same w8
  replace F_expectedModCount_i := F_expectedModCount_i.other w8 (Or.inr (slot_ne (Or.inl (cx.w 115 rfl)) (Or.inl (cx.w 112 rfl)) (by decide) (t := .int) (t' := .int) (by decide) (by decide)))
  replace F_cursor_i := F_cursor_i.other w8 (Or.inr (slot_ne (Or.inl (cx.w 138 rfl)) (Or.inl (cx.w 112 rfl)) (by decide) (t := .int) (t' := .int) (by decide) (by decide)))
  replace E_a := E_a.wr w8
  replace F_elementData_a := F_elementData_a.other w8 (Or.inl ne_a_i)
  replace F_size_a := F_size_a.other w8 (Or.inl ne_a_i)
  replace F_modCount_a := F_modCount_a.other w8 (Or.inl ne_a_i)
  replace V_b := V_b.other w8 ne_b_i
  replace K0 := K0.wr w8 (Or.inl (List.mem_of_getElem? (i := 0) rfl))
  show Go p_ e_ bl_ _ (T8.setTop (mkF m_ 64 #[.val (.ref i), .val (.int (0 : Int32)), .val (.ref b)] [(.int (0 : Int32)), (.ref b)]))
  refine W8.ldA V_b rfl (j := (0 : Int32)) (v := .ref x) ⟨by decide, by decide⟩ rfl (hb hby d18_64) ?_
  show Go p_ e_ bl_ _ (T8.setTop (mkF m_ 65 #[.val (.ref i), .val (.int (0 : Int32)), .val (.ref b)] [(.ref x)]))
  exact W8.retA hret rfl rfl (hb hby d18_65) (by decide) (by decide) fun _ _ => ⟨rfl, K0⟩
set_option maxRecDepth 65536 in
set_option maxHeartbeats 40000000 in
theorem ct_ca {l : Launch} {Z : State} {a0 : Array Value} {n0 : Nat} {g1 : Int32} {gf : Value} {ea : Addr} {kea : ClassId} (cx : Ctx Z a0 n0 g1 gf ea kea) {h : Heap} (O : Old Z n0 h) (c a b : Addr) (E_c : Exa Z h c "com/example/dovetail_fields/dovetailfields/CommandLineArguments") (F_remaining_c : Fld Z h c "com/example/dovetail_fields/dovetailfields/CommandLineArguments" "remaining" "Ljava/util/Iterator;" .null) (F_current_c : Fld Z h c "com/example/dovetail_fields/dovetailfields/CommandLineArguments" "current" "Ljava/lang/String;" .null) (g_c : n0 ≤ c) (E_a : Exa Z h a "java/util/ArrayList") (F_elementData_a : Fld Z h a "java/util/ArrayList" "elementData" "[Ljava/lang/Object;" (.ref b)) (F_size_a : Fld Z h a "java/util/ArrayList" "size" "I" (.int (1 : Int32))) (F_modCount_a : Fld Z h a "java/util/AbstractList" "modCount" "I" (.int (1 : Int32))) :
    Ct l Z consts_1 n0 [] (⟨"com/example/dovetail_fields/dovetailfields/CommandLineArguments", "<init>", "(Ljava/util/List;)V"⟩ : MethodName) prog_4_method_1_code 2 none ({ frames := 3, cells := 1, slots := 4, locals := 39 } : Room) #[(.ref c), (.ref a)] [c] h (fun v _ h' => v = none ∧ ∃ i : Addr, h.size ≤ i ∧ n0 ≤ i ∧ Keep h h' [c] ∧ Exa Z h' c "com/example/dovetail_fields/dovetailfields/CommandLineArguments" ∧ Fld Z h' c "com/example/dovetail_fields/dovetailfields/CommandLineArguments" "remaining" "Ljava/util/Iterator;" (.ref i) ∧ Fld Z h' c "com/example/dovetail_fields/dovetailfields/CommandLineArguments" "current" "Ljava/lang/String;" .null ∧ Exa Z h' i "java/util/ArrayList$Itr" ∧ Fld Z h' i "java/util/ArrayList$Itr" "this$0" "Ljava/util/ArrayList;" (.ref a) ∧ Fld Z h' i "java/util/ArrayList$Itr" "lastRet" "I" (.int (-1 : Int32)) ∧ Fld Z h' i "java/util/ArrayList$Itr" "expectedModCount" "I" (.int (1 : Int32)) ∧ Fld Z h' i "java/util/ArrayList$Itr" "cursor" "I" (.int (0 : Int32))) := by
  refine Ct.intro (plainFor_of_name pn6) O cx.ew ?_
  intro p_ e_ s_ m_ bl_ mt_ c_ T0 W0 hby hml hret hnm
  refine Go.st (fun t_ k_ => castTop (g' := mkF m_ 0 #[.val (.ref c), .val (.ref a)] []) (by first | (simp [entryFrame, mkF, argsToLocals, Value.category]; done) | rfl) k_) ?_
  show Go p_ e_ bl_ _ (T0.setTop (mkF m_ 0 #[.val (.ref c), .val (.ref a)] []))
  have K0 : Keep h h [c] := Keep.refl _ _
  refine Go.st (fun _ => XS.aloadN W0.here W0.ex rfl (hb hby d14_0) rfl rfl) ?_
  show Go p_ e_ bl_ _ (T0.setTop (mkF m_ 1 #[.val (.ref c), .val (.ref a)] [(.ref c)]))
  refine W0.initO (cx.w 91 rfl) (cx.w 20 rfl) (cx.w 21 rfl) (by rw [hml]; rfl) (hb hby d14_1) (by decide) (Wd := 0) (Nat.le_of_eq rfl) (by decide) ?_
  intro T1 W1
  show Go p_ e_ bl_ _ (T1.setTop (mkF m_ 4 #[.val (.ref c), .val (.ref a)] []))
  refine Go.st (fun _ => XS.aloadN W1.here W1.ex rfl (hb hby d14_4) rfl rfl) ?_
  show Go p_ e_ bl_ _ (T1.setTop (mkF m_ 5 #[.val (.ref c), .val (.ref a)] [(.ref c)]))
  refine Go.st (fun _ => XS.aloadN W1.here W1.ex rfl (hb hby d14_5) rfl rfl) ?_
  show Go p_ e_ bl_ _ (T1.setTop (mkF m_ 6 #[.val (.ref c), .val (.ref a)] [(.ref a), (.ref c)]))
  refine W1.callF (x := (⟨"java/util/List", "iterator", "()Ljava/util/Iterator;"⟩ : MethodName)) (y := (⟨"java/util/ArrayList", "iterator", "()Ljava/util/Iterator;"⟩ : MethodName)) (cx.w 92 rfl) (cx.w 93 rfl) (mvT W1.hZ (cx.w 94 rfl)) (cx.w 95 rfl) (cx.w 96 rfl) (cx.w 97 rfl) (cx.w 98 rfl) (cx.w 99 rfl) (cx.w 32 rfl) (cx.w 100 rfl) (by decide) E_a (ct_iter cx W1.old a b E_a F_elementData_a F_size_a F_modCount_a) all0 (by decide) (Wd := 1) (by decide) (k' := 1) (n' := 4) rfl rfl (by decide) (by decide) (by rw [hml]; rfl) (a := a) (argsL := []) (rest := [(.ref c)]) rfl (lenOf pd8 rfl) rfl (Nat.le_of_eq rfl) (hb hby d14_6) ?_
  intro v2 vm2 T2 h2 L2 W2 q2
  obtain ⟨i, rfl, hz_i, g_i, K1, E_i, G1, G2, G3, G4⟩ := q2
  have ne_c_i : c ≠ i := Nat.ne_of_lt (Nat.lt_of_lt_of_le E_c.lt hz_i)
  have ne_a_i : a ≠ i := Nat.ne_of_lt (Nat.lt_of_lt_of_le E_a.lt hz_i)
  have sz_i : h.size ≤ i := Nat.le_trans K0.1 hz_i
  replace E_c := E_c.keep K1
  replace F_remaining_c := F_remaining_c.keep K1 nin0
  replace F_current_c := F_current_c.keep K1 nin0
  replace E_a := E_a.keep K1
  replace F_elementData_a := F_elementData_a.keep K1 nin0
  replace F_size_a := F_size_a.keep K1 nin0
  replace F_modCount_a := F_modCount_a.keep K1 nin0
  replace K0 := K0.trans K1 all0
  show Go p_ e_ bl_ _ (T2.setTop (mkF m_ 11 #[.val (.ref c), .val (.ref a)] [(.ref i), (.ref c)]))
  refine W2.putF (cx.w 116 rfl) Via.refl F_remaining_c E_c (Or.inr ⟨(cx.w 117 rfl), rfl, hnm⟩) (cx.w 86 rfl) (ty := (.object "java/util/Iterator")) (by decide) rfl rfl (List.mem_of_getElem? (i := 0) rfl) g_c (hb hby d14_11) ?_
  intro T3 h3 L3 W3 w3
  have ne_a_c : a ≠ c := (ne_exa E_a E_c (by decide))
  replace E_c := E_c.wr w3
  replace F_remaining_c := F_remaining_c.same w3
  replace F_current_c := F_current_c.other w3 (Or.inr (slot_ne (Or.inl (cx.w 143 rfl)) (Or.inr (cx.w 117 rfl)) (by decide) (t := (.object "java/lang/String")) (t' := (.object "java/util/Iterator")) (by decide) (by decide)))
  replace E_a := E_a.wr w3
  replace F_elementData_a := F_elementData_a.other w3 (Or.inl ne_a_c)
  replace F_size_a := F_size_a.other w3 (Or.inl ne_a_c)
  replace F_modCount_a := F_modCount_a.other w3 (Or.inl ne_a_c)
  replace E_i := E_i.wr w3
  replace G1 := G1.other w3 (Or.inl (Ne.symm ne_c_i))
  replace G2 := G2.other w3 (Or.inl (Ne.symm ne_c_i))
  replace G3 := G3.other w3 (Or.inl (Ne.symm ne_c_i))
  replace G4 := G4.other w3 (Or.inl (Ne.symm ne_c_i))
  replace K0 := K0.wr w3 (Or.inl (List.mem_of_getElem? (i := 0) rfl))
  show Go p_ e_ bl_ _ (T3.setTop (mkF m_ 14 #[.val (.ref c), .val (.ref a)] []))
  exact W3.retV hret (hb hby d14_14) (by decide) (by decide) fun _ _ => ⟨rfl, i, sz_i, g_i, K0, E_c, F_remaining_c, F_current_c, E_i, G1, G2, G3, G4⟩
set_option maxRecDepth 65536 in
set_option maxHeartbeats 40000000 in
theorem ct_caN {l : Launch} {Z : State} {a0 : Array Value} {n0 : Nat} {g1 : Int32} {gf : Value} {ea : Addr} {kea : ClassId} (cx : Ctx Z a0 n0 g1 gf ea kea) {h : Heap} (O : Old Z n0 h) (c i a b x tx : Addr) (kb : ClassId) (cs : List Int32) (E_c : Exa Z h c "com/example/dovetail_fields/dovetailfields/CommandLineArguments") (F_remaining_c : Fld Z h c "com/example/dovetail_fields/dovetailfields/CommandLineArguments" "remaining" "Ljava/util/Iterator;" (.ref i)) (F_current_c : Fld Z h c "com/example/dovetail_fields/dovetailfields/CommandLineArguments" "current" "Ljava/lang/String;" .null) (g_c : n0 ≤ c) (E_i : Exa Z h i "java/util/ArrayList$Itr") (F_this_0_i : Fld Z h i "java/util/ArrayList$Itr" "this$0" "Ljava/util/ArrayList;" (.ref a)) (F_lastRet_i : Fld Z h i "java/util/ArrayList$Itr" "lastRet" "I" (.int (-1 : Int32))) (F_expectedModCount_i : Fld Z h i "java/util/ArrayList$Itr" "expectedModCount" "I" (.int (1 : Int32))) (F_cursor_i : Fld Z h i "java/util/ArrayList$Itr" "cursor" "I" (.int (0 : Int32))) (g_i : n0 ≤ i) (E_a : Exa Z h a "java/util/ArrayList") (F_elementData_a : Fld Z h a "java/util/ArrayList" "elementData" "[Ljava/lang/Object;" (.ref b)) (F_size_a : Fld Z h a "java/util/ArrayList" "size" "I" (.int (1 : Int32))) (F_modCount_a : Fld Z h a "java/util/AbstractList" "modCount" "I" (.int (1 : Int32))) (V_b : Arv Z h b kb (.object "java/lang/Object") 10 [.ref x, .null, .null, .null, .null, .null, .null, .null, .null, .null] .null) (S_x : StrAt Z h x tx cs) :
    Ct l Z consts_1 n0 [] (⟨"com/example/dovetail_fields/dovetailfields/CommandLineArguments", "next", "()Ljava/lang/String;"⟩ : MethodName) prog_4_method_3_code 1 (some (.object "java/lang/String")) ({ frames := 2, cells := 0, slots := 0, locals := 27 } : Room) #[(.ref c)] [c, i] h (fun v _ h' => v = some (.ref x) ∧ Keep h h' [c, i] ∧ Exa Z h' c "com/example/dovetail_fields/dovetailfields/CommandLineArguments" ∧ Fld Z h' c "com/example/dovetail_fields/dovetailfields/CommandLineArguments" "remaining" "Ljava/util/Iterator;" (.ref i) ∧ Fld Z h' c "com/example/dovetail_fields/dovetailfields/CommandLineArguments" "current" "Ljava/lang/String;" (.ref x)) := by
  refine Ct.intro (plainFor_of_name pn6) O cx.ew ?_
  intro p_ e_ s_ m_ bl_ mt_ c_ T0 W0 hby hml hret hnm
  refine Go.st (fun t_ k_ => castTop (g' := mkF m_ 0 #[.val (.ref c)] []) (by first | (simp [entryFrame, mkF, argsToLocals, Value.category]; done) | rfl) k_) ?_
  show Go p_ e_ bl_ _ (T0.setTop (mkF m_ 0 #[.val (.ref c)] []))
  have K0 : Keep h h [c, i] := Keep.refl _ _
  refine Go.st (fun _ => XS.aloadN W0.here W0.ex rfl (hb hby d17_0) rfl rfl) ?_
  show Go p_ e_ bl_ _ (T0.setTop (mkF m_ 1 #[.val (.ref c)] [(.ref c)]))
  refine Go.st (fun _ => XS.aloadN W0.here W0.ex rfl (hb hby d17_1) rfl rfl) ?_
  show Go p_ e_ bl_ _ (T0.setTop (mkF m_ 2 #[.val (.ref c)] [(.ref c), (.ref c)]))
  refine W0.getF (cx.w 116 rfl) Via.refl F_remaining_c (hb hby d17_2) ?_
  intro T1 W1
  show Go p_ e_ bl_ _ (T1.setTop (mkF m_ 5 #[.val (.ref c)] [(.ref i), (.ref c)]))
  refine W1.callF (x := (⟨"java/util/Iterator", "next", "()Ljava/lang/Object;"⟩ : MethodName)) (y := (⟨"java/util/ArrayList$Itr", "next", "()Ljava/lang/Object;"⟩ : MethodName)) (cx.w 123 rfl) (cx.w 124 rfl) (mvT W1.hZ (cx.w 125 rfl)) (cx.w 126 rfl) (cx.w 127 rfl) (cx.w 128 rfl) (cx.w 129 rfl) (cx.w 130 rfl) (cx.w 103 rfl) (cx.w 131 rfl) (by decide) E_i (ct_itN cx W1.old i a b x kb E_i F_this_0_i F_lastRet_i F_expectedModCount_i F_cursor_i g_i E_a F_elementData_a F_size_a F_modCount_a V_b) (allS (List.mem_of_getElem? (i := 1) rfl) all0) (by decide) (Wd := 1) (by decide) (k' := 0) (n' := 0) rfl rfl (by decide) (by decide) (by rw [hml]; rfl) (a := i) (argsL := []) (rest := [(.ref c)]) rfl (lenOf pd9 rfl) rfl (Nat.le_of_eq rfl) (hb hby d17_5) ?_
  intro v2 vm2 T2 h2 L2 W2 q2
  obtain ⟨rfl, K1⟩ := q2
  have ne_c_i : c ≠ i := (ne_exa E_c E_i (by decide))
  have ne_a_i : a ≠ i := (ne_exa E_a E_i (by decide))
  have ne_b_i : b ≠ i := (Ne.symm (Exa.neArv E_i V_b (cx.w 102 rfl)))
  have ne_x_i : x ≠ i := (Ne.symm (Ne.symm (S_x.neC E_i (by decide))))
  have ne_tx_i : tx ≠ i := (Ne.symm (Ne.symm (S_x.neT E_i (cx.w 102 rfl))))
  replace E_c := E_c.keep K1
  replace F_remaining_c := F_remaining_c.keep K1 (ninS ne_c_i nin0)
  replace F_current_c := F_current_c.keep K1 (ninS ne_c_i nin0)
  replace E_i := E_i.keep K1
  replace E_a := E_a.keep K1
  replace F_elementData_a := F_elementData_a.keep K1 (ninS ne_a_i nin0)
  replace F_size_a := F_size_a.keep K1 (ninS ne_a_i nin0)
  replace F_modCount_a := F_modCount_a.keep K1 (ninS ne_a_i nin0)
  replace V_b := V_b.keep K1 (ninS ne_b_i nin0)
  replace S_x := S_x.keep K1 (ninS ne_x_i nin0) (ninS ne_tx_i nin0)
  replace K0 := K0.trans K1 (allS (Or.inl (List.mem_of_getElem? (i := 1) rfl)) all0)
  show Go p_ e_ bl_ _ (T2.setTop (mkF m_ 10 #[.val (.ref c)] [(.ref x), (.ref c)]))
  refine W2.castY (cx.w 141 rfl) (Ins.self S_x.E) (hb hby d17_10) ?_
  intro T3 W3
  show Go p_ e_ bl_ _ (T3.setTop (mkF m_ 13 #[.val (.ref c)] [(.ref x), (.ref c)]))
  refine W3.putF (cx.w 142 rfl) Via.refl F_current_c E_c (Or.inl (cx.w 143 rfl)) (cx.w 86 rfl) (ty := (.object "java/lang/String")) (by decide) rfl rfl (List.mem_of_getElem? (i := 0) rfl) g_c (hb hby d17_13) ?_
  intro T4 h4 L4 W4 w4
  have ne_a_c : a ≠ c := (ne_exa E_a E_c (by decide))
  have ne_b_c : b ≠ c := (Ne.symm (Exa.neArv E_c V_b (cx.w 86 rfl)))
  have ne_x_c : x ≠ c := (Ne.symm (Ne.symm (S_x.neC E_c (by decide))))
  have ne_tx_c : tx ≠ c := (Ne.symm (Ne.symm (S_x.neT E_c (cx.w 86 rfl))))
  replace E_c := E_c.wr w4
  replace F_remaining_c := F_remaining_c.other w4 (Or.inr (slot_ne (Or.inr (cx.w 117 rfl)) (Or.inl (cx.w 143 rfl)) (by decide) (t := (.object "java/util/Iterator")) (t' := (.object "java/lang/String")) (by decide) (by decide)))
  replace F_current_c := F_current_c.same w4
  replace E_i := E_i.wr w4
  replace E_a := E_a.wr w4
  replace F_elementData_a := F_elementData_a.other w4 (Or.inl ne_a_c)
  replace F_size_a := F_size_a.other w4 (Or.inl ne_a_c)
  replace F_modCount_a := F_modCount_a.other w4 (Or.inl ne_a_c)
  replace V_b := V_b.other w4 ne_b_c
  replace S_x := S_x.wr w4 ne_x_c ne_tx_c
  replace K0 := K0.wr w4 (Or.inl (List.mem_of_getElem? (i := 0) rfl))
  show Go p_ e_ bl_ _ (T4.setTop (mkF m_ 16 #[.val (.ref c)] []))
  refine Go.st (fun _ => XS.aloadN W4.here W4.ex rfl (hb hby d17_16) rfl rfl) ?_
  show Go p_ e_ bl_ _ (T4.setTop (mkF m_ 17 #[.val (.ref c)] [(.ref c)]))
  refine W4.getF (cx.w 142 rfl) Via.refl F_current_c (hb hby d17_17) ?_
  intro T5 W5
  show Go p_ e_ bl_ _ (T5.setTop (mkF m_ 20 #[.val (.ref c)] [(.ref x)]))
  exact W5.retA hret rfl rfl (hb hby d17_20) (by decide) (by decide) fun _ _ => ⟨rfl, K0, E_c, F_remaining_c, F_current_c⟩
set_option maxRecDepth 65536 in
set_option maxHeartbeats 40000000 in
theorem ct_can61 {l : Launch} {Z : State} {a0 : Array Value} {n0 : Nat} {g1 : Int32} {gf : Value} {ea : Addr} {kea : ClassId} (cx : Ctx Z a0 n0 g1 gf ea kea) {h : Heap} (O : Old Z n0 h)   :
    Ct l Z consts_1 n0 [] (⟨"java/lang/StringLatin1", "canEncode", "(I)Z"⟩ : MethodName) jdk_43_method_4_code 1 (some .boolean) ({ frames := 0, cells := 0, slots := 0, locals := 0 } : Room) #[(.int (61 : Int32))] [] h (fun v _ h' => v = some (.int 1) ∧ h' = h) := by
  refine Ct.intro (plainFor_of_name pn7) O cx.ew ?_
  intro p_ e_ s_ m_ bl_ mt_ c_ T0 W0 hby hml hret hnm
  refine Go.st (fun t_ k_ => castTop (g' := mkF m_ 0 #[.val (.int (61 : Int32))] []) (by first | (simp [entryFrame, mkF, argsToLocals, Value.category]; done) | rfl) k_) ?_
  show Go p_ e_ bl_ _ (T0.setTop (mkF m_ 0 #[.val (.int (61 : Int32))] []))
  refine Go.st (fun _ => XS.iloadN W0.here W0.ex rfl (hb hby d27_0) rfl) ?_
  show Go p_ e_ bl_ _ (T0.setTop (mkF m_ 1 #[.val (.int (61 : Int32))] [(.int (61 : Int32))]))
  refine Go.st (fun _ => XS.ifNo W0.here W0.ex rfl (hb hby d27_1) rfl ((if0 _ _).trans (flt ((by decide) : ¬ ((61 : Int32) < (0 : Int32)))).1)) ?_
  show Go p_ e_ bl_ _ (T0.setTop (mkF m_ 4 #[.val (.int (61 : Int32))] []))
  refine Go.st (fun _ => XS.iloadN W0.here W0.ex rfl (hb hby d27_4) rfl) ?_
  show Go p_ e_ bl_ _ (T0.setTop (mkF m_ 5 #[.val (.int (61 : Int32))] [(.int (61 : Int32))]))
  refine Go.st (fun _ => XS.sipush W0.here W0.ex rfl (hb hby d27_5)) ?_
  show Go p_ e_ bl_ _ (T0.setTop (mkF m_ 8 #[.val (.int (61 : Int32))] [(.int (255 : Int32)), (.int (61 : Int32))]))
  refine Go.st (fun _ => XS.icmpNo W0.here W0.ex rfl (hb hby d27_8) rfl (flt ((by decide) : ¬ ((255 : Int32) < (61 : Int32)))).2.2.1) ?_
  show Go p_ e_ bl_ _ (T0.setTop (mkF m_ 11 #[.val (.int (61 : Int32))] []))
  refine Go.st (fun _ => XS.iconst W0.here W0.ex rfl (hb hby d27_11)) ?_
  show Go p_ e_ bl_ _ (T0.setTop (mkF m_ 12 #[.val (.int (61 : Int32))] [(.int (1 : Int32))]))
  refine Go.st (fun _ => XS.goto W0.here W0.ex rfl (pc0 := 12) (pc' := 16) rfl (hb hby d27_12) (by decide) (by decide)) ?_
  show Go p_ e_ bl_ _ (T0.setTop (mkF m_ 16 #[.val (.int (61 : Int32))] [(.int (1 : Int32))]))
  exact W0.retN hret (by simp) (hb hby d27_16) (by decide) (by decide) fun _ _ => ⟨rfl, rfl⟩
set_option maxRecDepth 65536 in
set_option maxHeartbeats 40000000 in
theorem ct_ioc1 {l : Launch} {Z : State} {a0 : Array Value} {n0 : Nat} {g1 : Int32} {gf : Value} {ea : Addr} {kea : ClassId} (cx : Ctx Z a0 n0 g1 gf ea kea) {h : Heap} (O : Old Z n0 h) (b : Addr) (kb : ClassId) (c0 : Int32) (r0 : ¬ c0 < 0 ∧ ¬ (255 : Int32) < c0) (V_b : Arv Z h b kb .byte (1 : Int32) [(.int c0.toInt8.toInt32)] (.int 0)) :
    Ct l Z consts_1 n0 [] (⟨"java/lang/StringLatin1", "indexOfChar", "([BIII)I"⟩ : MethodName) jdk_43_method_23_code 6 (some .int) ({ frames := 0, cells := 0, slots := 0, locals := 0 } : Room) #[(.ref b), (.int (61 : Int32)), (.int (0 : Int32)), (.int (1 : Int32))] [] h (fun v _ h' => v = some (.int (ixV [c0])) ∧ h' = h) := by
  refine Ct.intro (plainFor_of_name pn7) O cx.ew ?_
  intro p_ e_ s_ m_ bl_ mt_ c_ T0 W0 hby hml hret hnm
  refine Go.st (fun t_ k_ => castTop (g' := mkF m_ 0 #[.val (.ref b), .val (.int (61 : Int32)), .val (.int (0 : Int32)), .val (.int (1 : Int32)), .unset, .unset] []) (by first | (simp [entryFrame, mkF, argsToLocals, Value.category]; done) | rfl) k_) ?_
  show Go p_ e_ bl_ _ (T0.setTop (mkF m_ 0 #[.val (.ref b), .val (.int (61 : Int32)), .val (.int (0 : Int32)), .val (.int (1 : Int32)), .unset, .unset] []))
  refine Go.st (fun _ => XS.iloadN W0.here W0.ex rfl (hb hby d34_0) rfl) ?_
  show Go p_ e_ bl_ _ (T0.setTop (mkF m_ 1 #[.val (.ref b), .val (.int (61 : Int32)), .val (.int (0 : Int32)), .val (.int (1 : Int32)), .unset, .unset] [(.int (61 : Int32))]))
  refine Go.st (fun _ => XS.i2b W0.here W0.ex rfl (hb hby d34_1) rfl) ?_
  show Go p_ e_ bl_ _ (T0.setTop (mkF m_ 2 #[.val (.ref b), .val (.int (61 : Int32)), .val (.int (0 : Int32)), .val (.int (1 : Int32)), .unset, .unset] [(.int ((61 : Int32).toInt8.toInt32))]))
  refine Go.st (fun _ => XS.istore W0.here W0.ex rfl (hb hby d34_2) rfl (l' := #[.val (.ref b), .val (.int (61 : Int32)), .val (.int (0 : Int32)), .val (.int (1 : Int32)), .val (.int ((61 : Int32).toInt8.toInt32)), .unset]) rfl) ?_
  show Go p_ e_ bl_ _ (T0.setTop (mkF m_ 4 #[.val (.ref b), .val (.int (61 : Int32)), .val (.int (0 : Int32)), .val (.int (1 : Int32)), .val (.int ((61 : Int32).toInt8.toInt32)), .unset] []))
  show Go p_ e_ bl_ _ (T0.setTop (mkF m_ 4 #[.val (.ref b), .val (.int (61 : Int32)), .val (.int (0 : Int32)), .val (.int (1 : Int32)), .val (.int (61 : Int32)), .unset] []))
  refine Go.st (fun _ => XS.iloadN W0.here W0.ex rfl (hb hby d34_4) rfl) ?_
  show Go p_ e_ bl_ _ (T0.setTop (mkF m_ 5 #[.val (.ref b), .val (.int (61 : Int32)), .val (.int (0 : Int32)), .val (.int (1 : Int32)), .val (.int (61 : Int32)), .unset] [(.int (0 : Int32))]))
  refine Go.st (fun _ => XS.istore W0.here W0.ex rfl (hb hby d34_5) rfl (l' := #[.val (.ref b), .val (.int (61 : Int32)), .val (.int (0 : Int32)), .val (.int (1 : Int32)), .val (.int (61 : Int32)), .val (.int (0 : Int32))]) rfl) ?_
  show Go p_ e_ bl_ _ (T0.setTop (mkF m_ 7 #[.val (.ref b), .val (.int (61 : Int32)), .val (.int (0 : Int32)), .val (.int (1 : Int32)), .val (.int (61 : Int32)), .val (.int (0 : Int32))] []))
  refine Go.st (fun _ => XS.iload W0.here W0.ex rfl (hb hby d34_7) rfl) ?_
  show Go p_ e_ bl_ _ (T0.setTop (mkF m_ 9 #[.val (.ref b), .val (.int (61 : Int32)), .val (.int (0 : Int32)), .val (.int (1 : Int32)), .val (.int (61 : Int32)), .val (.int (0 : Int32))] [(.int (0 : Int32))]))
  refine Go.st (fun _ => XS.iloadN W0.here W0.ex rfl (hb hby d34_9) rfl) ?_
  show Go p_ e_ bl_ _ (T0.setTop (mkF m_ 10 #[.val (.ref b), .val (.int (61 : Int32)), .val (.int (0 : Int32)), .val (.int (1 : Int32)), .val (.int (61 : Int32)), .val (.int (0 : Int32))] [(.int (1 : Int32)), (.int (0 : Int32))]))
  refine Go.st (fun _ => XS.icmpNo W0.here W0.ex rfl (hb hby d34_10) rfl (tlt ((by decide) : (0 : Int32) < (1 : Int32))).2.1) ?_
  show Go p_ e_ bl_ _ (T0.setTop (mkF m_ 13 #[.val (.ref b), .val (.int (61 : Int32)), .val (.int (0 : Int32)), .val (.int (1 : Int32)), .val (.int (61 : Int32)), .val (.int (0 : Int32))] []))
  refine Go.st (fun _ => XS.aloadN W0.here W0.ex rfl (hb hby d34_13) rfl rfl) ?_
  show Go p_ e_ bl_ _ (T0.setTop (mkF m_ 14 #[.val (.ref b), .val (.int (61 : Int32)), .val (.int (0 : Int32)), .val (.int (1 : Int32)), .val (.int (61 : Int32)), .val (.int (0 : Int32))] [(.ref b)]))
  refine Go.st (fun _ => XS.iload W0.here W0.ex rfl (hb hby d34_14) rfl) ?_
  show Go p_ e_ bl_ _ (T0.setTop (mkF m_ 16 #[.val (.ref b), .val (.int (61 : Int32)), .val (.int (0 : Int32)), .val (.int (1 : Int32)), .val (.int (61 : Int32)), .val (.int (0 : Int32))] [(.int (0 : Int32)), (.ref b)]))
  refine W0.ldB V_b (j := (0 : Int32)) (v := (.int c0.toInt8.toInt32)) ⟨by decide, by decide⟩ rfl (hb hby d34_16) ?_
  show Go p_ e_ bl_ _ (T0.setTop (mkF m_ 17 #[.val (.ref b), .val (.int (61 : Int32)), .val (.int (0 : Int32)), .val (.int (1 : Int32)), .val (.int (61 : Int32)), .val (.int (0 : Int32))] [(.int c0.toInt8.toInt32)]))
  refine Go.st (fun _ => XS.iload W0.here W0.ex rfl (hb hby d34_17) rfl) ?_
  show Go p_ e_ bl_ _ (T0.setTop (mkF m_ 19 #[.val (.ref b), .val (.int (61 : Int32)), .val (.int (0 : Int32)), .val (.int (1 : Int32)), .val (.int (61 : Int32)), .val (.int (0 : Int32))] [(.int (61 : Int32)), (.int c0.toInt8.toInt32)]))
  by_cases hx0 : c0.toInt8.toInt32 = (61 : Int32)
  · refine Go.st (fun _ => XS.icmpNo W0.here W0.ex rfl (hb hby d34_19) rfl (teq (hx0 : c0.toInt8.toInt32 = (61 : Int32))).2) ?_
    show Go p_ e_ bl_ _ (T0.setTop (mkF m_ 22 #[.val (.ref b), .val (.int (61 : Int32)), .val (.int (0 : Int32)), .val (.int (1 : Int32)), .val (.int (61 : Int32)), .val (.int (0 : Int32))] []))
    have y0 := (b61 r0).mp hx0
    refine Go.st (fun _ => XS.iload W0.here W0.ex rfl (hb hby d34_22) rfl) ?_
    show Go p_ e_ bl_ _ (T0.setTop (mkF m_ 24 #[.val (.ref b), .val (.int (61 : Int32)), .val (.int (0 : Int32)), .val (.int (1 : Int32)), .val (.int (61 : Int32)), .val (.int (0 : Int32))] [(.int (0 : Int32))]))
    exact W0.retI hret (hb hby d34_24) (by decide) (by decide) fun _ _ => ⟨by simp [ixV, fi, y0], rfl⟩
  · refine Go.st (fun _ => XS.icmpYes W0.here W0.ex rfl (pc0 := 19) (pc' := 25) rfl (hb hby d34_19) rfl (feq (hx0 : ¬ (c0.toInt8.toInt32 = (61 : Int32)))).2 (by decide) (by decide)) ?_
    show Go p_ e_ bl_ _ (T0.setTop (mkF m_ 25 #[.val (.ref b), .val (.int (61 : Int32)), .val (.int (0 : Int32)), .val (.int (1 : Int32)), .val (.int (61 : Int32)), .val (.int (0 : Int32))] []))
    have y0 : ¬ c0 = 61 := fun q => hx0 ((b61 r0).mpr q)
    refine Go.st (fun _ => XS.iinc W0.here W0.ex rfl (hb hby d34_25) rfl (l' := #[.val (.ref b), .val (.int (61 : Int32)), .val (.int (0 : Int32)), .val (.int (1 : Int32)), .val (.int (61 : Int32)), .val (.int (1 : Int32))]) rfl) ?_
    show Go p_ e_ bl_ _ (T0.setTop (mkF m_ 28 #[.val (.ref b), .val (.int (61 : Int32)), .val (.int (0 : Int32)), .val (.int (1 : Int32)), .val (.int (61 : Int32)), .val (.int (1 : Int32))] []))
    refine Go.st (fun _ => XS.goto W0.here W0.ex rfl (pc0 := 28) (pc' := 7) rfl (hb hby d34_28) (by decide) (by decide)) ?_
    show Go p_ e_ bl_ _ (T0.setTop (mkF m_ 7 #[.val (.ref b), .val (.int (61 : Int32)), .val (.int (0 : Int32)), .val (.int (1 : Int32)), .val (.int (61 : Int32)), .val (.int (1 : Int32))] []))
    refine Go.st (fun _ => XS.iload W0.here W0.ex rfl (hb hby d34_7) rfl) ?_
    show Go p_ e_ bl_ _ (T0.setTop (mkF m_ 9 #[.val (.ref b), .val (.int (61 : Int32)), .val (.int (0 : Int32)), .val (.int (1 : Int32)), .val (.int (61 : Int32)), .val (.int (1 : Int32))] [(.int (1 : Int32))]))
    refine Go.st (fun _ => XS.iloadN W0.here W0.ex rfl (hb hby d34_9) rfl) ?_
    show Go p_ e_ bl_ _ (T0.setTop (mkF m_ 10 #[.val (.ref b), .val (.int (61 : Int32)), .val (.int (0 : Int32)), .val (.int (1 : Int32)), .val (.int (61 : Int32)), .val (.int (1 : Int32))] [(.int (1 : Int32)), (.int (1 : Int32))]))
    refine Go.st (fun _ => XS.icmpYes W0.here W0.ex rfl (pc0 := 10) (pc' := 31) rfl (hb hby d34_10) rfl (flt ((by decide) : ¬ ((1 : Int32) < (1 : Int32)))).2.1 (by decide) (by decide)) ?_
    show Go p_ e_ bl_ _ (T0.setTop (mkF m_ 31 #[.val (.ref b), .val (.int (61 : Int32)), .val (.int (0 : Int32)), .val (.int (1 : Int32)), .val (.int (61 : Int32)), .val (.int (1 : Int32))] []))
    refine Go.st (fun _ => XS.iconst W0.here W0.ex rfl (hb hby d34_31)) ?_
    show Go p_ e_ bl_ _ (T0.setTop (mkF m_ 32 #[.val (.ref b), .val (.int (61 : Int32)), .val (.int (0 : Int32)), .val (.int (1 : Int32)), .val (.int (61 : Int32)), .val (.int (1 : Int32))] [(.int (-1 : Int32))]))
    exact W0.retI hret (hb hby d34_32) (by decide) (by decide) fun _ _ => ⟨by simp [ixV, fi, y0], rfl⟩
set_option maxRecDepth 65536 in
set_option maxHeartbeats 40000000 in
theorem ct_ioc2 {l : Launch} {Z : State} {a0 : Array Value} {n0 : Nat} {g1 : Int32} {gf : Value} {ea : Addr} {kea : ClassId} (cx : Ctx Z a0 n0 g1 gf ea kea) {h : Heap} (O : Old Z n0 h) (b : Addr) (kb : ClassId) (c0 c1 : Int32) (r0 : ¬ c0 < 0 ∧ ¬ (255 : Int32) < c0) (r1 : ¬ c1 < 0 ∧ ¬ (255 : Int32) < c1) (V_b : Arv Z h b kb .byte (2 : Int32) [(.int c0.toInt8.toInt32), (.int c1.toInt8.toInt32)] (.int 0)) :
    Ct l Z consts_1 n0 [] (⟨"java/lang/StringLatin1", "indexOfChar", "([BIII)I"⟩ : MethodName) jdk_43_method_23_code 6 (some .int) ({ frames := 0, cells := 0, slots := 0, locals := 0 } : Room) #[(.ref b), (.int (61 : Int32)), (.int (0 : Int32)), (.int (2 : Int32))] [] h (fun v _ h' => v = some (.int (ixV [c0, c1])) ∧ h' = h) := by
  refine Ct.intro (plainFor_of_name pn7) O cx.ew ?_
  intro p_ e_ s_ m_ bl_ mt_ c_ T0 W0 hby hml hret hnm
  refine Go.st (fun t_ k_ => castTop (g' := mkF m_ 0 #[.val (.ref b), .val (.int (61 : Int32)), .val (.int (0 : Int32)), .val (.int (2 : Int32)), .unset, .unset] []) (by first | (simp [entryFrame, mkF, argsToLocals, Value.category]; done) | rfl) k_) ?_
  show Go p_ e_ bl_ _ (T0.setTop (mkF m_ 0 #[.val (.ref b), .val (.int (61 : Int32)), .val (.int (0 : Int32)), .val (.int (2 : Int32)), .unset, .unset] []))
  refine Go.st (fun _ => XS.iloadN W0.here W0.ex rfl (hb hby d34_0) rfl) ?_
  show Go p_ e_ bl_ _ (T0.setTop (mkF m_ 1 #[.val (.ref b), .val (.int (61 : Int32)), .val (.int (0 : Int32)), .val (.int (2 : Int32)), .unset, .unset] [(.int (61 : Int32))]))
  refine Go.st (fun _ => XS.i2b W0.here W0.ex rfl (hb hby d34_1) rfl) ?_
  show Go p_ e_ bl_ _ (T0.setTop (mkF m_ 2 #[.val (.ref b), .val (.int (61 : Int32)), .val (.int (0 : Int32)), .val (.int (2 : Int32)), .unset, .unset] [(.int ((61 : Int32).toInt8.toInt32))]))
  refine Go.st (fun _ => XS.istore W0.here W0.ex rfl (hb hby d34_2) rfl (l' := #[.val (.ref b), .val (.int (61 : Int32)), .val (.int (0 : Int32)), .val (.int (2 : Int32)), .val (.int ((61 : Int32).toInt8.toInt32)), .unset]) rfl) ?_
  show Go p_ e_ bl_ _ (T0.setTop (mkF m_ 4 #[.val (.ref b), .val (.int (61 : Int32)), .val (.int (0 : Int32)), .val (.int (2 : Int32)), .val (.int ((61 : Int32).toInt8.toInt32)), .unset] []))
  show Go p_ e_ bl_ _ (T0.setTop (mkF m_ 4 #[.val (.ref b), .val (.int (61 : Int32)), .val (.int (0 : Int32)), .val (.int (2 : Int32)), .val (.int (61 : Int32)), .unset] []))
  refine Go.st (fun _ => XS.iloadN W0.here W0.ex rfl (hb hby d34_4) rfl) ?_
  show Go p_ e_ bl_ _ (T0.setTop (mkF m_ 5 #[.val (.ref b), .val (.int (61 : Int32)), .val (.int (0 : Int32)), .val (.int (2 : Int32)), .val (.int (61 : Int32)), .unset] [(.int (0 : Int32))]))
  refine Go.st (fun _ => XS.istore W0.here W0.ex rfl (hb hby d34_5) rfl (l' := #[.val (.ref b), .val (.int (61 : Int32)), .val (.int (0 : Int32)), .val (.int (2 : Int32)), .val (.int (61 : Int32)), .val (.int (0 : Int32))]) rfl) ?_
  show Go p_ e_ bl_ _ (T0.setTop (mkF m_ 7 #[.val (.ref b), .val (.int (61 : Int32)), .val (.int (0 : Int32)), .val (.int (2 : Int32)), .val (.int (61 : Int32)), .val (.int (0 : Int32))] []))
  refine Go.st (fun _ => XS.iload W0.here W0.ex rfl (hb hby d34_7) rfl) ?_
  show Go p_ e_ bl_ _ (T0.setTop (mkF m_ 9 #[.val (.ref b), .val (.int (61 : Int32)), .val (.int (0 : Int32)), .val (.int (2 : Int32)), .val (.int (61 : Int32)), .val (.int (0 : Int32))] [(.int (0 : Int32))]))
  refine Go.st (fun _ => XS.iloadN W0.here W0.ex rfl (hb hby d34_9) rfl) ?_
  show Go p_ e_ bl_ _ (T0.setTop (mkF m_ 10 #[.val (.ref b), .val (.int (61 : Int32)), .val (.int (0 : Int32)), .val (.int (2 : Int32)), .val (.int (61 : Int32)), .val (.int (0 : Int32))] [(.int (2 : Int32)), (.int (0 : Int32))]))
  refine Go.st (fun _ => XS.icmpNo W0.here W0.ex rfl (hb hby d34_10) rfl (tlt ((by decide) : (0 : Int32) < (2 : Int32))).2.1) ?_
  show Go p_ e_ bl_ _ (T0.setTop (mkF m_ 13 #[.val (.ref b), .val (.int (61 : Int32)), .val (.int (0 : Int32)), .val (.int (2 : Int32)), .val (.int (61 : Int32)), .val (.int (0 : Int32))] []))
  refine Go.st (fun _ => XS.aloadN W0.here W0.ex rfl (hb hby d34_13) rfl rfl) ?_
  show Go p_ e_ bl_ _ (T0.setTop (mkF m_ 14 #[.val (.ref b), .val (.int (61 : Int32)), .val (.int (0 : Int32)), .val (.int (2 : Int32)), .val (.int (61 : Int32)), .val (.int (0 : Int32))] [(.ref b)]))
  refine Go.st (fun _ => XS.iload W0.here W0.ex rfl (hb hby d34_14) rfl) ?_
  show Go p_ e_ bl_ _ (T0.setTop (mkF m_ 16 #[.val (.ref b), .val (.int (61 : Int32)), .val (.int (0 : Int32)), .val (.int (2 : Int32)), .val (.int (61 : Int32)), .val (.int (0 : Int32))] [(.int (0 : Int32)), (.ref b)]))
  refine W0.ldB V_b (j := (0 : Int32)) (v := (.int c0.toInt8.toInt32)) ⟨by decide, by decide⟩ rfl (hb hby d34_16) ?_
  show Go p_ e_ bl_ _ (T0.setTop (mkF m_ 17 #[.val (.ref b), .val (.int (61 : Int32)), .val (.int (0 : Int32)), .val (.int (2 : Int32)), .val (.int (61 : Int32)), .val (.int (0 : Int32))] [(.int c0.toInt8.toInt32)]))
  refine Go.st (fun _ => XS.iload W0.here W0.ex rfl (hb hby d34_17) rfl) ?_
  show Go p_ e_ bl_ _ (T0.setTop (mkF m_ 19 #[.val (.ref b), .val (.int (61 : Int32)), .val (.int (0 : Int32)), .val (.int (2 : Int32)), .val (.int (61 : Int32)), .val (.int (0 : Int32))] [(.int (61 : Int32)), (.int c0.toInt8.toInt32)]))
  by_cases hx0 : c0.toInt8.toInt32 = (61 : Int32)
  · refine Go.st (fun _ => XS.icmpNo W0.here W0.ex rfl (hb hby d34_19) rfl (teq (hx0 : c0.toInt8.toInt32 = (61 : Int32))).2) ?_
    show Go p_ e_ bl_ _ (T0.setTop (mkF m_ 22 #[.val (.ref b), .val (.int (61 : Int32)), .val (.int (0 : Int32)), .val (.int (2 : Int32)), .val (.int (61 : Int32)), .val (.int (0 : Int32))] []))
    have y0 := (b61 r0).mp hx0
    refine Go.st (fun _ => XS.iload W0.here W0.ex rfl (hb hby d34_22) rfl) ?_
    show Go p_ e_ bl_ _ (T0.setTop (mkF m_ 24 #[.val (.ref b), .val (.int (61 : Int32)), .val (.int (0 : Int32)), .val (.int (2 : Int32)), .val (.int (61 : Int32)), .val (.int (0 : Int32))] [(.int (0 : Int32))]))
    exact W0.retI hret (hb hby d34_24) (by decide) (by decide) fun _ _ => ⟨by simp [ixV, fi, y0], rfl⟩
  · refine Go.st (fun _ => XS.icmpYes W0.here W0.ex rfl (pc0 := 19) (pc' := 25) rfl (hb hby d34_19) rfl (feq (hx0 : ¬ (c0.toInt8.toInt32 = (61 : Int32)))).2 (by decide) (by decide)) ?_
    show Go p_ e_ bl_ _ (T0.setTop (mkF m_ 25 #[.val (.ref b), .val (.int (61 : Int32)), .val (.int (0 : Int32)), .val (.int (2 : Int32)), .val (.int (61 : Int32)), .val (.int (0 : Int32))] []))
    have y0 : ¬ c0 = 61 := fun q => hx0 ((b61 r0).mpr q)
    refine Go.st (fun _ => XS.iinc W0.here W0.ex rfl (hb hby d34_25) rfl (l' := #[.val (.ref b), .val (.int (61 : Int32)), .val (.int (0 : Int32)), .val (.int (2 : Int32)), .val (.int (61 : Int32)), .val (.int (1 : Int32))]) rfl) ?_
    show Go p_ e_ bl_ _ (T0.setTop (mkF m_ 28 #[.val (.ref b), .val (.int (61 : Int32)), .val (.int (0 : Int32)), .val (.int (2 : Int32)), .val (.int (61 : Int32)), .val (.int (1 : Int32))] []))
    refine Go.st (fun _ => XS.goto W0.here W0.ex rfl (pc0 := 28) (pc' := 7) rfl (hb hby d34_28) (by decide) (by decide)) ?_
    show Go p_ e_ bl_ _ (T0.setTop (mkF m_ 7 #[.val (.ref b), .val (.int (61 : Int32)), .val (.int (0 : Int32)), .val (.int (2 : Int32)), .val (.int (61 : Int32)), .val (.int (1 : Int32))] []))
    refine Go.st (fun _ => XS.iload W0.here W0.ex rfl (hb hby d34_7) rfl) ?_
    show Go p_ e_ bl_ _ (T0.setTop (mkF m_ 9 #[.val (.ref b), .val (.int (61 : Int32)), .val (.int (0 : Int32)), .val (.int (2 : Int32)), .val (.int (61 : Int32)), .val (.int (1 : Int32))] [(.int (1 : Int32))]))
    refine Go.st (fun _ => XS.iloadN W0.here W0.ex rfl (hb hby d34_9) rfl) ?_
    show Go p_ e_ bl_ _ (T0.setTop (mkF m_ 10 #[.val (.ref b), .val (.int (61 : Int32)), .val (.int (0 : Int32)), .val (.int (2 : Int32)), .val (.int (61 : Int32)), .val (.int (1 : Int32))] [(.int (2 : Int32)), (.int (1 : Int32))]))
    refine Go.st (fun _ => XS.icmpNo W0.here W0.ex rfl (hb hby d34_10) rfl (tlt ((by decide) : (1 : Int32) < (2 : Int32))).2.1) ?_
    show Go p_ e_ bl_ _ (T0.setTop (mkF m_ 13 #[.val (.ref b), .val (.int (61 : Int32)), .val (.int (0 : Int32)), .val (.int (2 : Int32)), .val (.int (61 : Int32)), .val (.int (1 : Int32))] []))
    refine Go.st (fun _ => XS.aloadN W0.here W0.ex rfl (hb hby d34_13) rfl rfl) ?_
    show Go p_ e_ bl_ _ (T0.setTop (mkF m_ 14 #[.val (.ref b), .val (.int (61 : Int32)), .val (.int (0 : Int32)), .val (.int (2 : Int32)), .val (.int (61 : Int32)), .val (.int (1 : Int32))] [(.ref b)]))
    refine Go.st (fun _ => XS.iload W0.here W0.ex rfl (hb hby d34_14) rfl) ?_
    show Go p_ e_ bl_ _ (T0.setTop (mkF m_ 16 #[.val (.ref b), .val (.int (61 : Int32)), .val (.int (0 : Int32)), .val (.int (2 : Int32)), .val (.int (61 : Int32)), .val (.int (1 : Int32))] [(.int (1 : Int32)), (.ref b)]))
    refine W0.ldB V_b (j := (1 : Int32)) (v := (.int c1.toInt8.toInt32)) ⟨by decide, by decide⟩ rfl (hb hby d34_16) ?_
    show Go p_ e_ bl_ _ (T0.setTop (mkF m_ 17 #[.val (.ref b), .val (.int (61 : Int32)), .val (.int (0 : Int32)), .val (.int (2 : Int32)), .val (.int (61 : Int32)), .val (.int (1 : Int32))] [(.int c1.toInt8.toInt32)]))
    refine Go.st (fun _ => XS.iload W0.here W0.ex rfl (hb hby d34_17) rfl) ?_
    show Go p_ e_ bl_ _ (T0.setTop (mkF m_ 19 #[.val (.ref b), .val (.int (61 : Int32)), .val (.int (0 : Int32)), .val (.int (2 : Int32)), .val (.int (61 : Int32)), .val (.int (1 : Int32))] [(.int (61 : Int32)), (.int c1.toInt8.toInt32)]))
    by_cases hx1 : c1.toInt8.toInt32 = (61 : Int32)
    · refine Go.st (fun _ => XS.icmpNo W0.here W0.ex rfl (hb hby d34_19) rfl (teq (hx1 : c1.toInt8.toInt32 = (61 : Int32))).2) ?_
      show Go p_ e_ bl_ _ (T0.setTop (mkF m_ 22 #[.val (.ref b), .val (.int (61 : Int32)), .val (.int (0 : Int32)), .val (.int (2 : Int32)), .val (.int (61 : Int32)), .val (.int (1 : Int32))] []))
      have y1 := (b61 r1).mp hx1
      refine Go.st (fun _ => XS.iload W0.here W0.ex rfl (hb hby d34_22) rfl) ?_
      show Go p_ e_ bl_ _ (T0.setTop (mkF m_ 24 #[.val (.ref b), .val (.int (61 : Int32)), .val (.int (0 : Int32)), .val (.int (2 : Int32)), .val (.int (61 : Int32)), .val (.int (1 : Int32))] [(.int (1 : Int32))]))
      exact W0.retI hret (hb hby d34_24) (by decide) (by decide) fun _ _ => ⟨by simp [ixV, fi, y0, y1], rfl⟩
    · refine Go.st (fun _ => XS.icmpYes W0.here W0.ex rfl (pc0 := 19) (pc' := 25) rfl (hb hby d34_19) rfl (feq (hx1 : ¬ (c1.toInt8.toInt32 = (61 : Int32)))).2 (by decide) (by decide)) ?_
      show Go p_ e_ bl_ _ (T0.setTop (mkF m_ 25 #[.val (.ref b), .val (.int (61 : Int32)), .val (.int (0 : Int32)), .val (.int (2 : Int32)), .val (.int (61 : Int32)), .val (.int (1 : Int32))] []))
      have y1 : ¬ c1 = 61 := fun q => hx1 ((b61 r1).mpr q)
      refine Go.st (fun _ => XS.iinc W0.here W0.ex rfl (hb hby d34_25) rfl (l' := #[.val (.ref b), .val (.int (61 : Int32)), .val (.int (0 : Int32)), .val (.int (2 : Int32)), .val (.int (61 : Int32)), .val (.int (2 : Int32))]) rfl) ?_
      show Go p_ e_ bl_ _ (T0.setTop (mkF m_ 28 #[.val (.ref b), .val (.int (61 : Int32)), .val (.int (0 : Int32)), .val (.int (2 : Int32)), .val (.int (61 : Int32)), .val (.int (2 : Int32))] []))
      refine Go.st (fun _ => XS.goto W0.here W0.ex rfl (pc0 := 28) (pc' := 7) rfl (hb hby d34_28) (by decide) (by decide)) ?_
      show Go p_ e_ bl_ _ (T0.setTop (mkF m_ 7 #[.val (.ref b), .val (.int (61 : Int32)), .val (.int (0 : Int32)), .val (.int (2 : Int32)), .val (.int (61 : Int32)), .val (.int (2 : Int32))] []))
      refine Go.st (fun _ => XS.iload W0.here W0.ex rfl (hb hby d34_7) rfl) ?_
      show Go p_ e_ bl_ _ (T0.setTop (mkF m_ 9 #[.val (.ref b), .val (.int (61 : Int32)), .val (.int (0 : Int32)), .val (.int (2 : Int32)), .val (.int (61 : Int32)), .val (.int (2 : Int32))] [(.int (2 : Int32))]))
      refine Go.st (fun _ => XS.iloadN W0.here W0.ex rfl (hb hby d34_9) rfl) ?_
      show Go p_ e_ bl_ _ (T0.setTop (mkF m_ 10 #[.val (.ref b), .val (.int (61 : Int32)), .val (.int (0 : Int32)), .val (.int (2 : Int32)), .val (.int (61 : Int32)), .val (.int (2 : Int32))] [(.int (2 : Int32)), (.int (2 : Int32))]))
      refine Go.st (fun _ => XS.icmpYes W0.here W0.ex rfl (pc0 := 10) (pc' := 31) rfl (hb hby d34_10) rfl (flt ((by decide) : ¬ ((2 : Int32) < (2 : Int32)))).2.1 (by decide) (by decide)) ?_
      show Go p_ e_ bl_ _ (T0.setTop (mkF m_ 31 #[.val (.ref b), .val (.int (61 : Int32)), .val (.int (0 : Int32)), .val (.int (2 : Int32)), .val (.int (61 : Int32)), .val (.int (2 : Int32))] []))
      refine Go.st (fun _ => XS.iconst W0.here W0.ex rfl (hb hby d34_31)) ?_
      show Go p_ e_ bl_ _ (T0.setTop (mkF m_ 32 #[.val (.ref b), .val (.int (61 : Int32)), .val (.int (0 : Int32)), .val (.int (2 : Int32)), .val (.int (61 : Int32)), .val (.int (2 : Int32))] [(.int (-1 : Int32))]))
      exact W0.retI hret (hb hby d34_32) (by decide) (by decide) fun _ _ => ⟨by simp [ixV, fi, y0, y1], rfl⟩
set_option maxRecDepth 65536 in
set_option maxHeartbeats 40000000 in
theorem ct_ioc3 {l : Launch} {Z : State} {a0 : Array Value} {n0 : Nat} {g1 : Int32} {gf : Value} {ea : Addr} {kea : ClassId} (cx : Ctx Z a0 n0 g1 gf ea kea) {h : Heap} (O : Old Z n0 h) (b : Addr) (kb : ClassId) (c0 c1 c2 : Int32) (r0 : ¬ c0 < 0 ∧ ¬ (255 : Int32) < c0) (r1 : ¬ c1 < 0 ∧ ¬ (255 : Int32) < c1) (r2 : ¬ c2 < 0 ∧ ¬ (255 : Int32) < c2) (V_b : Arv Z h b kb .byte (3 : Int32) [(.int c0.toInt8.toInt32), (.int c1.toInt8.toInt32), (.int c2.toInt8.toInt32)] (.int 0)) :
    Ct l Z consts_1 n0 [] (⟨"java/lang/StringLatin1", "indexOfChar", "([BIII)I"⟩ : MethodName) jdk_43_method_23_code 6 (some .int) ({ frames := 0, cells := 0, slots := 0, locals := 0 } : Room) #[(.ref b), (.int (61 : Int32)), (.int (0 : Int32)), (.int (3 : Int32))] [] h (fun v _ h' => v = some (.int (ixV [c0, c1, c2])) ∧ h' = h) := by
  refine Ct.intro (plainFor_of_name pn7) O cx.ew ?_
  intro p_ e_ s_ m_ bl_ mt_ c_ T0 W0 hby hml hret hnm
  refine Go.st (fun t_ k_ => castTop (g' := mkF m_ 0 #[.val (.ref b), .val (.int (61 : Int32)), .val (.int (0 : Int32)), .val (.int (3 : Int32)), .unset, .unset] []) (by first | (simp [entryFrame, mkF, argsToLocals, Value.category]; done) | rfl) k_) ?_
  show Go p_ e_ bl_ _ (T0.setTop (mkF m_ 0 #[.val (.ref b), .val (.int (61 : Int32)), .val (.int (0 : Int32)), .val (.int (3 : Int32)), .unset, .unset] []))
  refine Go.st (fun _ => XS.iloadN W0.here W0.ex rfl (hb hby d34_0) rfl) ?_
  show Go p_ e_ bl_ _ (T0.setTop (mkF m_ 1 #[.val (.ref b), .val (.int (61 : Int32)), .val (.int (0 : Int32)), .val (.int (3 : Int32)), .unset, .unset] [(.int (61 : Int32))]))
  refine Go.st (fun _ => XS.i2b W0.here W0.ex rfl (hb hby d34_1) rfl) ?_
  show Go p_ e_ bl_ _ (T0.setTop (mkF m_ 2 #[.val (.ref b), .val (.int (61 : Int32)), .val (.int (0 : Int32)), .val (.int (3 : Int32)), .unset, .unset] [(.int ((61 : Int32).toInt8.toInt32))]))
  refine Go.st (fun _ => XS.istore W0.here W0.ex rfl (hb hby d34_2) rfl (l' := #[.val (.ref b), .val (.int (61 : Int32)), .val (.int (0 : Int32)), .val (.int (3 : Int32)), .val (.int ((61 : Int32).toInt8.toInt32)), .unset]) rfl) ?_
  show Go p_ e_ bl_ _ (T0.setTop (mkF m_ 4 #[.val (.ref b), .val (.int (61 : Int32)), .val (.int (0 : Int32)), .val (.int (3 : Int32)), .val (.int ((61 : Int32).toInt8.toInt32)), .unset] []))
  show Go p_ e_ bl_ _ (T0.setTop (mkF m_ 4 #[.val (.ref b), .val (.int (61 : Int32)), .val (.int (0 : Int32)), .val (.int (3 : Int32)), .val (.int (61 : Int32)), .unset] []))
  refine Go.st (fun _ => XS.iloadN W0.here W0.ex rfl (hb hby d34_4) rfl) ?_
  show Go p_ e_ bl_ _ (T0.setTop (mkF m_ 5 #[.val (.ref b), .val (.int (61 : Int32)), .val (.int (0 : Int32)), .val (.int (3 : Int32)), .val (.int (61 : Int32)), .unset] [(.int (0 : Int32))]))
  refine Go.st (fun _ => XS.istore W0.here W0.ex rfl (hb hby d34_5) rfl (l' := #[.val (.ref b), .val (.int (61 : Int32)), .val (.int (0 : Int32)), .val (.int (3 : Int32)), .val (.int (61 : Int32)), .val (.int (0 : Int32))]) rfl) ?_
  show Go p_ e_ bl_ _ (T0.setTop (mkF m_ 7 #[.val (.ref b), .val (.int (61 : Int32)), .val (.int (0 : Int32)), .val (.int (3 : Int32)), .val (.int (61 : Int32)), .val (.int (0 : Int32))] []))
  refine Go.st (fun _ => XS.iload W0.here W0.ex rfl (hb hby d34_7) rfl) ?_
  show Go p_ e_ bl_ _ (T0.setTop (mkF m_ 9 #[.val (.ref b), .val (.int (61 : Int32)), .val (.int (0 : Int32)), .val (.int (3 : Int32)), .val (.int (61 : Int32)), .val (.int (0 : Int32))] [(.int (0 : Int32))]))
  refine Go.st (fun _ => XS.iloadN W0.here W0.ex rfl (hb hby d34_9) rfl) ?_
  show Go p_ e_ bl_ _ (T0.setTop (mkF m_ 10 #[.val (.ref b), .val (.int (61 : Int32)), .val (.int (0 : Int32)), .val (.int (3 : Int32)), .val (.int (61 : Int32)), .val (.int (0 : Int32))] [(.int (3 : Int32)), (.int (0 : Int32))]))
  refine Go.st (fun _ => XS.icmpNo W0.here W0.ex rfl (hb hby d34_10) rfl (tlt ((by decide) : (0 : Int32) < (3 : Int32))).2.1) ?_
  show Go p_ e_ bl_ _ (T0.setTop (mkF m_ 13 #[.val (.ref b), .val (.int (61 : Int32)), .val (.int (0 : Int32)), .val (.int (3 : Int32)), .val (.int (61 : Int32)), .val (.int (0 : Int32))] []))
  refine Go.st (fun _ => XS.aloadN W0.here W0.ex rfl (hb hby d34_13) rfl rfl) ?_
  show Go p_ e_ bl_ _ (T0.setTop (mkF m_ 14 #[.val (.ref b), .val (.int (61 : Int32)), .val (.int (0 : Int32)), .val (.int (3 : Int32)), .val (.int (61 : Int32)), .val (.int (0 : Int32))] [(.ref b)]))
  refine Go.st (fun _ => XS.iload W0.here W0.ex rfl (hb hby d34_14) rfl) ?_
  show Go p_ e_ bl_ _ (T0.setTop (mkF m_ 16 #[.val (.ref b), .val (.int (61 : Int32)), .val (.int (0 : Int32)), .val (.int (3 : Int32)), .val (.int (61 : Int32)), .val (.int (0 : Int32))] [(.int (0 : Int32)), (.ref b)]))
  refine W0.ldB V_b (j := (0 : Int32)) (v := (.int c0.toInt8.toInt32)) ⟨by decide, by decide⟩ rfl (hb hby d34_16) ?_
  show Go p_ e_ bl_ _ (T0.setTop (mkF m_ 17 #[.val (.ref b), .val (.int (61 : Int32)), .val (.int (0 : Int32)), .val (.int (3 : Int32)), .val (.int (61 : Int32)), .val (.int (0 : Int32))] [(.int c0.toInt8.toInt32)]))
  refine Go.st (fun _ => XS.iload W0.here W0.ex rfl (hb hby d34_17) rfl) ?_
  show Go p_ e_ bl_ _ (T0.setTop (mkF m_ 19 #[.val (.ref b), .val (.int (61 : Int32)), .val (.int (0 : Int32)), .val (.int (3 : Int32)), .val (.int (61 : Int32)), .val (.int (0 : Int32))] [(.int (61 : Int32)), (.int c0.toInt8.toInt32)]))
  by_cases hx0 : c0.toInt8.toInt32 = (61 : Int32)
  · refine Go.st (fun _ => XS.icmpNo W0.here W0.ex rfl (hb hby d34_19) rfl (teq (hx0 : c0.toInt8.toInt32 = (61 : Int32))).2) ?_
    show Go p_ e_ bl_ _ (T0.setTop (mkF m_ 22 #[.val (.ref b), .val (.int (61 : Int32)), .val (.int (0 : Int32)), .val (.int (3 : Int32)), .val (.int (61 : Int32)), .val (.int (0 : Int32))] []))
    have y0 := (b61 r0).mp hx0
    refine Go.st (fun _ => XS.iload W0.here W0.ex rfl (hb hby d34_22) rfl) ?_
    show Go p_ e_ bl_ _ (T0.setTop (mkF m_ 24 #[.val (.ref b), .val (.int (61 : Int32)), .val (.int (0 : Int32)), .val (.int (3 : Int32)), .val (.int (61 : Int32)), .val (.int (0 : Int32))] [(.int (0 : Int32))]))
    exact W0.retI hret (hb hby d34_24) (by decide) (by decide) fun _ _ => ⟨by simp [ixV, fi, y0], rfl⟩
  · refine Go.st (fun _ => XS.icmpYes W0.here W0.ex rfl (pc0 := 19) (pc' := 25) rfl (hb hby d34_19) rfl (feq (hx0 : ¬ (c0.toInt8.toInt32 = (61 : Int32)))).2 (by decide) (by decide)) ?_
    show Go p_ e_ bl_ _ (T0.setTop (mkF m_ 25 #[.val (.ref b), .val (.int (61 : Int32)), .val (.int (0 : Int32)), .val (.int (3 : Int32)), .val (.int (61 : Int32)), .val (.int (0 : Int32))] []))
    have y0 : ¬ c0 = 61 := fun q => hx0 ((b61 r0).mpr q)
    refine Go.st (fun _ => XS.iinc W0.here W0.ex rfl (hb hby d34_25) rfl (l' := #[.val (.ref b), .val (.int (61 : Int32)), .val (.int (0 : Int32)), .val (.int (3 : Int32)), .val (.int (61 : Int32)), .val (.int (1 : Int32))]) rfl) ?_
    show Go p_ e_ bl_ _ (T0.setTop (mkF m_ 28 #[.val (.ref b), .val (.int (61 : Int32)), .val (.int (0 : Int32)), .val (.int (3 : Int32)), .val (.int (61 : Int32)), .val (.int (1 : Int32))] []))
    refine Go.st (fun _ => XS.goto W0.here W0.ex rfl (pc0 := 28) (pc' := 7) rfl (hb hby d34_28) (by decide) (by decide)) ?_
    show Go p_ e_ bl_ _ (T0.setTop (mkF m_ 7 #[.val (.ref b), .val (.int (61 : Int32)), .val (.int (0 : Int32)), .val (.int (3 : Int32)), .val (.int (61 : Int32)), .val (.int (1 : Int32))] []))
    refine Go.st (fun _ => XS.iload W0.here W0.ex rfl (hb hby d34_7) rfl) ?_
    show Go p_ e_ bl_ _ (T0.setTop (mkF m_ 9 #[.val (.ref b), .val (.int (61 : Int32)), .val (.int (0 : Int32)), .val (.int (3 : Int32)), .val (.int (61 : Int32)), .val (.int (1 : Int32))] [(.int (1 : Int32))]))
    refine Go.st (fun _ => XS.iloadN W0.here W0.ex rfl (hb hby d34_9) rfl) ?_
    show Go p_ e_ bl_ _ (T0.setTop (mkF m_ 10 #[.val (.ref b), .val (.int (61 : Int32)), .val (.int (0 : Int32)), .val (.int (3 : Int32)), .val (.int (61 : Int32)), .val (.int (1 : Int32))] [(.int (3 : Int32)), (.int (1 : Int32))]))
    refine Go.st (fun _ => XS.icmpNo W0.here W0.ex rfl (hb hby d34_10) rfl (tlt ((by decide) : (1 : Int32) < (3 : Int32))).2.1) ?_
    show Go p_ e_ bl_ _ (T0.setTop (mkF m_ 13 #[.val (.ref b), .val (.int (61 : Int32)), .val (.int (0 : Int32)), .val (.int (3 : Int32)), .val (.int (61 : Int32)), .val (.int (1 : Int32))] []))
    refine Go.st (fun _ => XS.aloadN W0.here W0.ex rfl (hb hby d34_13) rfl rfl) ?_
    show Go p_ e_ bl_ _ (T0.setTop (mkF m_ 14 #[.val (.ref b), .val (.int (61 : Int32)), .val (.int (0 : Int32)), .val (.int (3 : Int32)), .val (.int (61 : Int32)), .val (.int (1 : Int32))] [(.ref b)]))
    refine Go.st (fun _ => XS.iload W0.here W0.ex rfl (hb hby d34_14) rfl) ?_
    show Go p_ e_ bl_ _ (T0.setTop (mkF m_ 16 #[.val (.ref b), .val (.int (61 : Int32)), .val (.int (0 : Int32)), .val (.int (3 : Int32)), .val (.int (61 : Int32)), .val (.int (1 : Int32))] [(.int (1 : Int32)), (.ref b)]))
    refine W0.ldB V_b (j := (1 : Int32)) (v := (.int c1.toInt8.toInt32)) ⟨by decide, by decide⟩ rfl (hb hby d34_16) ?_
    show Go p_ e_ bl_ _ (T0.setTop (mkF m_ 17 #[.val (.ref b), .val (.int (61 : Int32)), .val (.int (0 : Int32)), .val (.int (3 : Int32)), .val (.int (61 : Int32)), .val (.int (1 : Int32))] [(.int c1.toInt8.toInt32)]))
    refine Go.st (fun _ => XS.iload W0.here W0.ex rfl (hb hby d34_17) rfl) ?_
    show Go p_ e_ bl_ _ (T0.setTop (mkF m_ 19 #[.val (.ref b), .val (.int (61 : Int32)), .val (.int (0 : Int32)), .val (.int (3 : Int32)), .val (.int (61 : Int32)), .val (.int (1 : Int32))] [(.int (61 : Int32)), (.int c1.toInt8.toInt32)]))
    by_cases hx1 : c1.toInt8.toInt32 = (61 : Int32)
    · refine Go.st (fun _ => XS.icmpNo W0.here W0.ex rfl (hb hby d34_19) rfl (teq (hx1 : c1.toInt8.toInt32 = (61 : Int32))).2) ?_
      show Go p_ e_ bl_ _ (T0.setTop (mkF m_ 22 #[.val (.ref b), .val (.int (61 : Int32)), .val (.int (0 : Int32)), .val (.int (3 : Int32)), .val (.int (61 : Int32)), .val (.int (1 : Int32))] []))
      have y1 := (b61 r1).mp hx1
      refine Go.st (fun _ => XS.iload W0.here W0.ex rfl (hb hby d34_22) rfl) ?_
      show Go p_ e_ bl_ _ (T0.setTop (mkF m_ 24 #[.val (.ref b), .val (.int (61 : Int32)), .val (.int (0 : Int32)), .val (.int (3 : Int32)), .val (.int (61 : Int32)), .val (.int (1 : Int32))] [(.int (1 : Int32))]))
      exact W0.retI hret (hb hby d34_24) (by decide) (by decide) fun _ _ => ⟨by simp [ixV, fi, y0, y1], rfl⟩
    · refine Go.st (fun _ => XS.icmpYes W0.here W0.ex rfl (pc0 := 19) (pc' := 25) rfl (hb hby d34_19) rfl (feq (hx1 : ¬ (c1.toInt8.toInt32 = (61 : Int32)))).2 (by decide) (by decide)) ?_
      show Go p_ e_ bl_ _ (T0.setTop (mkF m_ 25 #[.val (.ref b), .val (.int (61 : Int32)), .val (.int (0 : Int32)), .val (.int (3 : Int32)), .val (.int (61 : Int32)), .val (.int (1 : Int32))] []))
      have y1 : ¬ c1 = 61 := fun q => hx1 ((b61 r1).mpr q)
      refine Go.st (fun _ => XS.iinc W0.here W0.ex rfl (hb hby d34_25) rfl (l' := #[.val (.ref b), .val (.int (61 : Int32)), .val (.int (0 : Int32)), .val (.int (3 : Int32)), .val (.int (61 : Int32)), .val (.int (2 : Int32))]) rfl) ?_
      show Go p_ e_ bl_ _ (T0.setTop (mkF m_ 28 #[.val (.ref b), .val (.int (61 : Int32)), .val (.int (0 : Int32)), .val (.int (3 : Int32)), .val (.int (61 : Int32)), .val (.int (2 : Int32))] []))
      refine Go.st (fun _ => XS.goto W0.here W0.ex rfl (pc0 := 28) (pc' := 7) rfl (hb hby d34_28) (by decide) (by decide)) ?_
      show Go p_ e_ bl_ _ (T0.setTop (mkF m_ 7 #[.val (.ref b), .val (.int (61 : Int32)), .val (.int (0 : Int32)), .val (.int (3 : Int32)), .val (.int (61 : Int32)), .val (.int (2 : Int32))] []))
      refine Go.st (fun _ => XS.iload W0.here W0.ex rfl (hb hby d34_7) rfl) ?_
      show Go p_ e_ bl_ _ (T0.setTop (mkF m_ 9 #[.val (.ref b), .val (.int (61 : Int32)), .val (.int (0 : Int32)), .val (.int (3 : Int32)), .val (.int (61 : Int32)), .val (.int (2 : Int32))] [(.int (2 : Int32))]))
      refine Go.st (fun _ => XS.iloadN W0.here W0.ex rfl (hb hby d34_9) rfl) ?_
      show Go p_ e_ bl_ _ (T0.setTop (mkF m_ 10 #[.val (.ref b), .val (.int (61 : Int32)), .val (.int (0 : Int32)), .val (.int (3 : Int32)), .val (.int (61 : Int32)), .val (.int (2 : Int32))] [(.int (3 : Int32)), (.int (2 : Int32))]))
      refine Go.st (fun _ => XS.icmpNo W0.here W0.ex rfl (hb hby d34_10) rfl (tlt ((by decide) : (2 : Int32) < (3 : Int32))).2.1) ?_
      show Go p_ e_ bl_ _ (T0.setTop (mkF m_ 13 #[.val (.ref b), .val (.int (61 : Int32)), .val (.int (0 : Int32)), .val (.int (3 : Int32)), .val (.int (61 : Int32)), .val (.int (2 : Int32))] []))
      refine Go.st (fun _ => XS.aloadN W0.here W0.ex rfl (hb hby d34_13) rfl rfl) ?_
      show Go p_ e_ bl_ _ (T0.setTop (mkF m_ 14 #[.val (.ref b), .val (.int (61 : Int32)), .val (.int (0 : Int32)), .val (.int (3 : Int32)), .val (.int (61 : Int32)), .val (.int (2 : Int32))] [(.ref b)]))
      refine Go.st (fun _ => XS.iload W0.here W0.ex rfl (hb hby d34_14) rfl) ?_
      show Go p_ e_ bl_ _ (T0.setTop (mkF m_ 16 #[.val (.ref b), .val (.int (61 : Int32)), .val (.int (0 : Int32)), .val (.int (3 : Int32)), .val (.int (61 : Int32)), .val (.int (2 : Int32))] [(.int (2 : Int32)), (.ref b)]))
      refine W0.ldB V_b (j := (2 : Int32)) (v := (.int c2.toInt8.toInt32)) ⟨by decide, by decide⟩ rfl (hb hby d34_16) ?_
      show Go p_ e_ bl_ _ (T0.setTop (mkF m_ 17 #[.val (.ref b), .val (.int (61 : Int32)), .val (.int (0 : Int32)), .val (.int (3 : Int32)), .val (.int (61 : Int32)), .val (.int (2 : Int32))] [(.int c2.toInt8.toInt32)]))
      refine Go.st (fun _ => XS.iload W0.here W0.ex rfl (hb hby d34_17) rfl) ?_
      show Go p_ e_ bl_ _ (T0.setTop (mkF m_ 19 #[.val (.ref b), .val (.int (61 : Int32)), .val (.int (0 : Int32)), .val (.int (3 : Int32)), .val (.int (61 : Int32)), .val (.int (2 : Int32))] [(.int (61 : Int32)), (.int c2.toInt8.toInt32)]))
      by_cases hx2 : c2.toInt8.toInt32 = (61 : Int32)
      · refine Go.st (fun _ => XS.icmpNo W0.here W0.ex rfl (hb hby d34_19) rfl (teq (hx2 : c2.toInt8.toInt32 = (61 : Int32))).2) ?_
        show Go p_ e_ bl_ _ (T0.setTop (mkF m_ 22 #[.val (.ref b), .val (.int (61 : Int32)), .val (.int (0 : Int32)), .val (.int (3 : Int32)), .val (.int (61 : Int32)), .val (.int (2 : Int32))] []))
        have y2 := (b61 r2).mp hx2
        refine Go.st (fun _ => XS.iload W0.here W0.ex rfl (hb hby d34_22) rfl) ?_
        show Go p_ e_ bl_ _ (T0.setTop (mkF m_ 24 #[.val (.ref b), .val (.int (61 : Int32)), .val (.int (0 : Int32)), .val (.int (3 : Int32)), .val (.int (61 : Int32)), .val (.int (2 : Int32))] [(.int (2 : Int32))]))
        exact W0.retI hret (hb hby d34_24) (by decide) (by decide) fun _ _ => ⟨by simp [ixV, fi, y0, y1, y2], rfl⟩
      · refine Go.st (fun _ => XS.icmpYes W0.here W0.ex rfl (pc0 := 19) (pc' := 25) rfl (hb hby d34_19) rfl (feq (hx2 : ¬ (c2.toInt8.toInt32 = (61 : Int32)))).2 (by decide) (by decide)) ?_
        show Go p_ e_ bl_ _ (T0.setTop (mkF m_ 25 #[.val (.ref b), .val (.int (61 : Int32)), .val (.int (0 : Int32)), .val (.int (3 : Int32)), .val (.int (61 : Int32)), .val (.int (2 : Int32))] []))
        have y2 : ¬ c2 = 61 := fun q => hx2 ((b61 r2).mpr q)
        refine Go.st (fun _ => XS.iinc W0.here W0.ex rfl (hb hby d34_25) rfl (l' := #[.val (.ref b), .val (.int (61 : Int32)), .val (.int (0 : Int32)), .val (.int (3 : Int32)), .val (.int (61 : Int32)), .val (.int (3 : Int32))]) rfl) ?_
        show Go p_ e_ bl_ _ (T0.setTop (mkF m_ 28 #[.val (.ref b), .val (.int (61 : Int32)), .val (.int (0 : Int32)), .val (.int (3 : Int32)), .val (.int (61 : Int32)), .val (.int (3 : Int32))] []))
        refine Go.st (fun _ => XS.goto W0.here W0.ex rfl (pc0 := 28) (pc' := 7) rfl (hb hby d34_28) (by decide) (by decide)) ?_
        show Go p_ e_ bl_ _ (T0.setTop (mkF m_ 7 #[.val (.ref b), .val (.int (61 : Int32)), .val (.int (0 : Int32)), .val (.int (3 : Int32)), .val (.int (61 : Int32)), .val (.int (3 : Int32))] []))
        refine Go.st (fun _ => XS.iload W0.here W0.ex rfl (hb hby d34_7) rfl) ?_
        show Go p_ e_ bl_ _ (T0.setTop (mkF m_ 9 #[.val (.ref b), .val (.int (61 : Int32)), .val (.int (0 : Int32)), .val (.int (3 : Int32)), .val (.int (61 : Int32)), .val (.int (3 : Int32))] [(.int (3 : Int32))]))
        refine Go.st (fun _ => XS.iloadN W0.here W0.ex rfl (hb hby d34_9) rfl) ?_
        show Go p_ e_ bl_ _ (T0.setTop (mkF m_ 10 #[.val (.ref b), .val (.int (61 : Int32)), .val (.int (0 : Int32)), .val (.int (3 : Int32)), .val (.int (61 : Int32)), .val (.int (3 : Int32))] [(.int (3 : Int32)), (.int (3 : Int32))]))
        refine Go.st (fun _ => XS.icmpYes W0.here W0.ex rfl (pc0 := 10) (pc' := 31) rfl (hb hby d34_10) rfl (flt ((by decide) : ¬ ((3 : Int32) < (3 : Int32)))).2.1 (by decide) (by decide)) ?_
        show Go p_ e_ bl_ _ (T0.setTop (mkF m_ 31 #[.val (.ref b), .val (.int (61 : Int32)), .val (.int (0 : Int32)), .val (.int (3 : Int32)), .val (.int (61 : Int32)), .val (.int (3 : Int32))] []))
        refine Go.st (fun _ => XS.iconst W0.here W0.ex rfl (hb hby d34_31)) ?_
        show Go p_ e_ bl_ _ (T0.setTop (mkF m_ 32 #[.val (.ref b), .val (.int (61 : Int32)), .val (.int (0 : Int32)), .val (.int (3 : Int32)), .val (.int (61 : Int32)), .val (.int (3 : Int32))] [(.int (-1 : Int32))]))
        exact W0.retI hret (hb hby d34_32) (by decide) (by decide) fun _ _ => ⟨by simp [ixV, fi, y0, y1, y2], rfl⟩
set_option maxRecDepth 65536 in
set_option maxHeartbeats 40000000 in
theorem ct_ioc4 {l : Launch} {Z : State} {a0 : Array Value} {n0 : Nat} {g1 : Int32} {gf : Value} {ea : Addr} {kea : ClassId} (cx : Ctx Z a0 n0 g1 gf ea kea) {h : Heap} (O : Old Z n0 h) (b : Addr) (kb : ClassId) (c0 c1 c2 c3 : Int32) (r0 : ¬ c0 < 0 ∧ ¬ (255 : Int32) < c0) (r1 : ¬ c1 < 0 ∧ ¬ (255 : Int32) < c1) (r2 : ¬ c2 < 0 ∧ ¬ (255 : Int32) < c2) (r3 : ¬ c3 < 0 ∧ ¬ (255 : Int32) < c3) (V_b : Arv Z h b kb .byte (4 : Int32) [(.int c0.toInt8.toInt32), (.int c1.toInt8.toInt32), (.int c2.toInt8.toInt32), (.int c3.toInt8.toInt32)] (.int 0)) :
    Ct l Z consts_1 n0 [] (⟨"java/lang/StringLatin1", "indexOfChar", "([BIII)I"⟩ : MethodName) jdk_43_method_23_code 6 (some .int) ({ frames := 0, cells := 0, slots := 0, locals := 0 } : Room) #[(.ref b), (.int (61 : Int32)), (.int (0 : Int32)), (.int (4 : Int32))] [] h (fun v _ h' => v = some (.int (ixV [c0, c1, c2, c3])) ∧ h' = h) := by
  refine Ct.intro (plainFor_of_name pn7) O cx.ew ?_
  intro p_ e_ s_ m_ bl_ mt_ c_ T0 W0 hby hml hret hnm
  refine Go.st (fun t_ k_ => castTop (g' := mkF m_ 0 #[.val (.ref b), .val (.int (61 : Int32)), .val (.int (0 : Int32)), .val (.int (4 : Int32)), .unset, .unset] []) (by first | (simp [entryFrame, mkF, argsToLocals, Value.category]; done) | rfl) k_) ?_
  show Go p_ e_ bl_ _ (T0.setTop (mkF m_ 0 #[.val (.ref b), .val (.int (61 : Int32)), .val (.int (0 : Int32)), .val (.int (4 : Int32)), .unset, .unset] []))
  refine Go.st (fun _ => XS.iloadN W0.here W0.ex rfl (hb hby d34_0) rfl) ?_
  show Go p_ e_ bl_ _ (T0.setTop (mkF m_ 1 #[.val (.ref b), .val (.int (61 : Int32)), .val (.int (0 : Int32)), .val (.int (4 : Int32)), .unset, .unset] [(.int (61 : Int32))]))
  refine Go.st (fun _ => XS.i2b W0.here W0.ex rfl (hb hby d34_1) rfl) ?_
  show Go p_ e_ bl_ _ (T0.setTop (mkF m_ 2 #[.val (.ref b), .val (.int (61 : Int32)), .val (.int (0 : Int32)), .val (.int (4 : Int32)), .unset, .unset] [(.int ((61 : Int32).toInt8.toInt32))]))
  refine Go.st (fun _ => XS.istore W0.here W0.ex rfl (hb hby d34_2) rfl (l' := #[.val (.ref b), .val (.int (61 : Int32)), .val (.int (0 : Int32)), .val (.int (4 : Int32)), .val (.int ((61 : Int32).toInt8.toInt32)), .unset]) rfl) ?_
  show Go p_ e_ bl_ _ (T0.setTop (mkF m_ 4 #[.val (.ref b), .val (.int (61 : Int32)), .val (.int (0 : Int32)), .val (.int (4 : Int32)), .val (.int ((61 : Int32).toInt8.toInt32)), .unset] []))
  show Go p_ e_ bl_ _ (T0.setTop (mkF m_ 4 #[.val (.ref b), .val (.int (61 : Int32)), .val (.int (0 : Int32)), .val (.int (4 : Int32)), .val (.int (61 : Int32)), .unset] []))
  refine Go.st (fun _ => XS.iloadN W0.here W0.ex rfl (hb hby d34_4) rfl) ?_
  show Go p_ e_ bl_ _ (T0.setTop (mkF m_ 5 #[.val (.ref b), .val (.int (61 : Int32)), .val (.int (0 : Int32)), .val (.int (4 : Int32)), .val (.int (61 : Int32)), .unset] [(.int (0 : Int32))]))
  refine Go.st (fun _ => XS.istore W0.here W0.ex rfl (hb hby d34_5) rfl (l' := #[.val (.ref b), .val (.int (61 : Int32)), .val (.int (0 : Int32)), .val (.int (4 : Int32)), .val (.int (61 : Int32)), .val (.int (0 : Int32))]) rfl) ?_
  show Go p_ e_ bl_ _ (T0.setTop (mkF m_ 7 #[.val (.ref b), .val (.int (61 : Int32)), .val (.int (0 : Int32)), .val (.int (4 : Int32)), .val (.int (61 : Int32)), .val (.int (0 : Int32))] []))
  refine Go.st (fun _ => XS.iload W0.here W0.ex rfl (hb hby d34_7) rfl) ?_
  show Go p_ e_ bl_ _ (T0.setTop (mkF m_ 9 #[.val (.ref b), .val (.int (61 : Int32)), .val (.int (0 : Int32)), .val (.int (4 : Int32)), .val (.int (61 : Int32)), .val (.int (0 : Int32))] [(.int (0 : Int32))]))
  refine Go.st (fun _ => XS.iloadN W0.here W0.ex rfl (hb hby d34_9) rfl) ?_
  show Go p_ e_ bl_ _ (T0.setTop (mkF m_ 10 #[.val (.ref b), .val (.int (61 : Int32)), .val (.int (0 : Int32)), .val (.int (4 : Int32)), .val (.int (61 : Int32)), .val (.int (0 : Int32))] [(.int (4 : Int32)), (.int (0 : Int32))]))
  refine Go.st (fun _ => XS.icmpNo W0.here W0.ex rfl (hb hby d34_10) rfl (tlt ((by decide) : (0 : Int32) < (4 : Int32))).2.1) ?_
  show Go p_ e_ bl_ _ (T0.setTop (mkF m_ 13 #[.val (.ref b), .val (.int (61 : Int32)), .val (.int (0 : Int32)), .val (.int (4 : Int32)), .val (.int (61 : Int32)), .val (.int (0 : Int32))] []))
  refine Go.st (fun _ => XS.aloadN W0.here W0.ex rfl (hb hby d34_13) rfl rfl) ?_
  show Go p_ e_ bl_ _ (T0.setTop (mkF m_ 14 #[.val (.ref b), .val (.int (61 : Int32)), .val (.int (0 : Int32)), .val (.int (4 : Int32)), .val (.int (61 : Int32)), .val (.int (0 : Int32))] [(.ref b)]))
  refine Go.st (fun _ => XS.iload W0.here W0.ex rfl (hb hby d34_14) rfl) ?_
  show Go p_ e_ bl_ _ (T0.setTop (mkF m_ 16 #[.val (.ref b), .val (.int (61 : Int32)), .val (.int (0 : Int32)), .val (.int (4 : Int32)), .val (.int (61 : Int32)), .val (.int (0 : Int32))] [(.int (0 : Int32)), (.ref b)]))
  refine W0.ldB V_b (j := (0 : Int32)) (v := (.int c0.toInt8.toInt32)) ⟨by decide, by decide⟩ rfl (hb hby d34_16) ?_
  show Go p_ e_ bl_ _ (T0.setTop (mkF m_ 17 #[.val (.ref b), .val (.int (61 : Int32)), .val (.int (0 : Int32)), .val (.int (4 : Int32)), .val (.int (61 : Int32)), .val (.int (0 : Int32))] [(.int c0.toInt8.toInt32)]))
  refine Go.st (fun _ => XS.iload W0.here W0.ex rfl (hb hby d34_17) rfl) ?_
  show Go p_ e_ bl_ _ (T0.setTop (mkF m_ 19 #[.val (.ref b), .val (.int (61 : Int32)), .val (.int (0 : Int32)), .val (.int (4 : Int32)), .val (.int (61 : Int32)), .val (.int (0 : Int32))] [(.int (61 : Int32)), (.int c0.toInt8.toInt32)]))
  by_cases hx0 : c0.toInt8.toInt32 = (61 : Int32)
  · refine Go.st (fun _ => XS.icmpNo W0.here W0.ex rfl (hb hby d34_19) rfl (teq (hx0 : c0.toInt8.toInt32 = (61 : Int32))).2) ?_
    show Go p_ e_ bl_ _ (T0.setTop (mkF m_ 22 #[.val (.ref b), .val (.int (61 : Int32)), .val (.int (0 : Int32)), .val (.int (4 : Int32)), .val (.int (61 : Int32)), .val (.int (0 : Int32))] []))
    have y0 := (b61 r0).mp hx0
    refine Go.st (fun _ => XS.iload W0.here W0.ex rfl (hb hby d34_22) rfl) ?_
    show Go p_ e_ bl_ _ (T0.setTop (mkF m_ 24 #[.val (.ref b), .val (.int (61 : Int32)), .val (.int (0 : Int32)), .val (.int (4 : Int32)), .val (.int (61 : Int32)), .val (.int (0 : Int32))] [(.int (0 : Int32))]))
    exact W0.retI hret (hb hby d34_24) (by decide) (by decide) fun _ _ => ⟨by simp [ixV, fi, y0], rfl⟩
  · refine Go.st (fun _ => XS.icmpYes W0.here W0.ex rfl (pc0 := 19) (pc' := 25) rfl (hb hby d34_19) rfl (feq (hx0 : ¬ (c0.toInt8.toInt32 = (61 : Int32)))).2 (by decide) (by decide)) ?_
    show Go p_ e_ bl_ _ (T0.setTop (mkF m_ 25 #[.val (.ref b), .val (.int (61 : Int32)), .val (.int (0 : Int32)), .val (.int (4 : Int32)), .val (.int (61 : Int32)), .val (.int (0 : Int32))] []))
    have y0 : ¬ c0 = 61 := fun q => hx0 ((b61 r0).mpr q)
    refine Go.st (fun _ => XS.iinc W0.here W0.ex rfl (hb hby d34_25) rfl (l' := #[.val (.ref b), .val (.int (61 : Int32)), .val (.int (0 : Int32)), .val (.int (4 : Int32)), .val (.int (61 : Int32)), .val (.int (1 : Int32))]) rfl) ?_
    show Go p_ e_ bl_ _ (T0.setTop (mkF m_ 28 #[.val (.ref b), .val (.int (61 : Int32)), .val (.int (0 : Int32)), .val (.int (4 : Int32)), .val (.int (61 : Int32)), .val (.int (1 : Int32))] []))
    refine Go.st (fun _ => XS.goto W0.here W0.ex rfl (pc0 := 28) (pc' := 7) rfl (hb hby d34_28) (by decide) (by decide)) ?_
    show Go p_ e_ bl_ _ (T0.setTop (mkF m_ 7 #[.val (.ref b), .val (.int (61 : Int32)), .val (.int (0 : Int32)), .val (.int (4 : Int32)), .val (.int (61 : Int32)), .val (.int (1 : Int32))] []))
    refine Go.st (fun _ => XS.iload W0.here W0.ex rfl (hb hby d34_7) rfl) ?_
    show Go p_ e_ bl_ _ (T0.setTop (mkF m_ 9 #[.val (.ref b), .val (.int (61 : Int32)), .val (.int (0 : Int32)), .val (.int (4 : Int32)), .val (.int (61 : Int32)), .val (.int (1 : Int32))] [(.int (1 : Int32))]))
    refine Go.st (fun _ => XS.iloadN W0.here W0.ex rfl (hb hby d34_9) rfl) ?_
    show Go p_ e_ bl_ _ (T0.setTop (mkF m_ 10 #[.val (.ref b), .val (.int (61 : Int32)), .val (.int (0 : Int32)), .val (.int (4 : Int32)), .val (.int (61 : Int32)), .val (.int (1 : Int32))] [(.int (4 : Int32)), (.int (1 : Int32))]))
    refine Go.st (fun _ => XS.icmpNo W0.here W0.ex rfl (hb hby d34_10) rfl (tlt ((by decide) : (1 : Int32) < (4 : Int32))).2.1) ?_
    show Go p_ e_ bl_ _ (T0.setTop (mkF m_ 13 #[.val (.ref b), .val (.int (61 : Int32)), .val (.int (0 : Int32)), .val (.int (4 : Int32)), .val (.int (61 : Int32)), .val (.int (1 : Int32))] []))
    refine Go.st (fun _ => XS.aloadN W0.here W0.ex rfl (hb hby d34_13) rfl rfl) ?_
    show Go p_ e_ bl_ _ (T0.setTop (mkF m_ 14 #[.val (.ref b), .val (.int (61 : Int32)), .val (.int (0 : Int32)), .val (.int (4 : Int32)), .val (.int (61 : Int32)), .val (.int (1 : Int32))] [(.ref b)]))
    refine Go.st (fun _ => XS.iload W0.here W0.ex rfl (hb hby d34_14) rfl) ?_
    show Go p_ e_ bl_ _ (T0.setTop (mkF m_ 16 #[.val (.ref b), .val (.int (61 : Int32)), .val (.int (0 : Int32)), .val (.int (4 : Int32)), .val (.int (61 : Int32)), .val (.int (1 : Int32))] [(.int (1 : Int32)), (.ref b)]))
    refine W0.ldB V_b (j := (1 : Int32)) (v := (.int c1.toInt8.toInt32)) ⟨by decide, by decide⟩ rfl (hb hby d34_16) ?_
    show Go p_ e_ bl_ _ (T0.setTop (mkF m_ 17 #[.val (.ref b), .val (.int (61 : Int32)), .val (.int (0 : Int32)), .val (.int (4 : Int32)), .val (.int (61 : Int32)), .val (.int (1 : Int32))] [(.int c1.toInt8.toInt32)]))
    refine Go.st (fun _ => XS.iload W0.here W0.ex rfl (hb hby d34_17) rfl) ?_
    show Go p_ e_ bl_ _ (T0.setTop (mkF m_ 19 #[.val (.ref b), .val (.int (61 : Int32)), .val (.int (0 : Int32)), .val (.int (4 : Int32)), .val (.int (61 : Int32)), .val (.int (1 : Int32))] [(.int (61 : Int32)), (.int c1.toInt8.toInt32)]))
    by_cases hx1 : c1.toInt8.toInt32 = (61 : Int32)
    · refine Go.st (fun _ => XS.icmpNo W0.here W0.ex rfl (hb hby d34_19) rfl (teq (hx1 : c1.toInt8.toInt32 = (61 : Int32))).2) ?_
      show Go p_ e_ bl_ _ (T0.setTop (mkF m_ 22 #[.val (.ref b), .val (.int (61 : Int32)), .val (.int (0 : Int32)), .val (.int (4 : Int32)), .val (.int (61 : Int32)), .val (.int (1 : Int32))] []))
      have y1 := (b61 r1).mp hx1
      refine Go.st (fun _ => XS.iload W0.here W0.ex rfl (hb hby d34_22) rfl) ?_
      show Go p_ e_ bl_ _ (T0.setTop (mkF m_ 24 #[.val (.ref b), .val (.int (61 : Int32)), .val (.int (0 : Int32)), .val (.int (4 : Int32)), .val (.int (61 : Int32)), .val (.int (1 : Int32))] [(.int (1 : Int32))]))
      exact W0.retI hret (hb hby d34_24) (by decide) (by decide) fun _ _ => ⟨by simp [ixV, fi, y0, y1], rfl⟩
    · refine Go.st (fun _ => XS.icmpYes W0.here W0.ex rfl (pc0 := 19) (pc' := 25) rfl (hb hby d34_19) rfl (feq (hx1 : ¬ (c1.toInt8.toInt32 = (61 : Int32)))).2 (by decide) (by decide)) ?_
      show Go p_ e_ bl_ _ (T0.setTop (mkF m_ 25 #[.val (.ref b), .val (.int (61 : Int32)), .val (.int (0 : Int32)), .val (.int (4 : Int32)), .val (.int (61 : Int32)), .val (.int (1 : Int32))] []))
      have y1 : ¬ c1 = 61 := fun q => hx1 ((b61 r1).mpr q)
      refine Go.st (fun _ => XS.iinc W0.here W0.ex rfl (hb hby d34_25) rfl (l' := #[.val (.ref b), .val (.int (61 : Int32)), .val (.int (0 : Int32)), .val (.int (4 : Int32)), .val (.int (61 : Int32)), .val (.int (2 : Int32))]) rfl) ?_
      show Go p_ e_ bl_ _ (T0.setTop (mkF m_ 28 #[.val (.ref b), .val (.int (61 : Int32)), .val (.int (0 : Int32)), .val (.int (4 : Int32)), .val (.int (61 : Int32)), .val (.int (2 : Int32))] []))
      refine Go.st (fun _ => XS.goto W0.here W0.ex rfl (pc0 := 28) (pc' := 7) rfl (hb hby d34_28) (by decide) (by decide)) ?_
      show Go p_ e_ bl_ _ (T0.setTop (mkF m_ 7 #[.val (.ref b), .val (.int (61 : Int32)), .val (.int (0 : Int32)), .val (.int (4 : Int32)), .val (.int (61 : Int32)), .val (.int (2 : Int32))] []))
      refine Go.st (fun _ => XS.iload W0.here W0.ex rfl (hb hby d34_7) rfl) ?_
      show Go p_ e_ bl_ _ (T0.setTop (mkF m_ 9 #[.val (.ref b), .val (.int (61 : Int32)), .val (.int (0 : Int32)), .val (.int (4 : Int32)), .val (.int (61 : Int32)), .val (.int (2 : Int32))] [(.int (2 : Int32))]))
      refine Go.st (fun _ => XS.iloadN W0.here W0.ex rfl (hb hby d34_9) rfl) ?_
      show Go p_ e_ bl_ _ (T0.setTop (mkF m_ 10 #[.val (.ref b), .val (.int (61 : Int32)), .val (.int (0 : Int32)), .val (.int (4 : Int32)), .val (.int (61 : Int32)), .val (.int (2 : Int32))] [(.int (4 : Int32)), (.int (2 : Int32))]))
      refine Go.st (fun _ => XS.icmpNo W0.here W0.ex rfl (hb hby d34_10) rfl (tlt ((by decide) : (2 : Int32) < (4 : Int32))).2.1) ?_
      show Go p_ e_ bl_ _ (T0.setTop (mkF m_ 13 #[.val (.ref b), .val (.int (61 : Int32)), .val (.int (0 : Int32)), .val (.int (4 : Int32)), .val (.int (61 : Int32)), .val (.int (2 : Int32))] []))
      refine Go.st (fun _ => XS.aloadN W0.here W0.ex rfl (hb hby d34_13) rfl rfl) ?_
      show Go p_ e_ bl_ _ (T0.setTop (mkF m_ 14 #[.val (.ref b), .val (.int (61 : Int32)), .val (.int (0 : Int32)), .val (.int (4 : Int32)), .val (.int (61 : Int32)), .val (.int (2 : Int32))] [(.ref b)]))
      refine Go.st (fun _ => XS.iload W0.here W0.ex rfl (hb hby d34_14) rfl) ?_
      show Go p_ e_ bl_ _ (T0.setTop (mkF m_ 16 #[.val (.ref b), .val (.int (61 : Int32)), .val (.int (0 : Int32)), .val (.int (4 : Int32)), .val (.int (61 : Int32)), .val (.int (2 : Int32))] [(.int (2 : Int32)), (.ref b)]))
      refine W0.ldB V_b (j := (2 : Int32)) (v := (.int c2.toInt8.toInt32)) ⟨by decide, by decide⟩ rfl (hb hby d34_16) ?_
      show Go p_ e_ bl_ _ (T0.setTop (mkF m_ 17 #[.val (.ref b), .val (.int (61 : Int32)), .val (.int (0 : Int32)), .val (.int (4 : Int32)), .val (.int (61 : Int32)), .val (.int (2 : Int32))] [(.int c2.toInt8.toInt32)]))
      refine Go.st (fun _ => XS.iload W0.here W0.ex rfl (hb hby d34_17) rfl) ?_
      show Go p_ e_ bl_ _ (T0.setTop (mkF m_ 19 #[.val (.ref b), .val (.int (61 : Int32)), .val (.int (0 : Int32)), .val (.int (4 : Int32)), .val (.int (61 : Int32)), .val (.int (2 : Int32))] [(.int (61 : Int32)), (.int c2.toInt8.toInt32)]))
      by_cases hx2 : c2.toInt8.toInt32 = (61 : Int32)
      · refine Go.st (fun _ => XS.icmpNo W0.here W0.ex rfl (hb hby d34_19) rfl (teq (hx2 : c2.toInt8.toInt32 = (61 : Int32))).2) ?_
        show Go p_ e_ bl_ _ (T0.setTop (mkF m_ 22 #[.val (.ref b), .val (.int (61 : Int32)), .val (.int (0 : Int32)), .val (.int (4 : Int32)), .val (.int (61 : Int32)), .val (.int (2 : Int32))] []))
        have y2 := (b61 r2).mp hx2
        refine Go.st (fun _ => XS.iload W0.here W0.ex rfl (hb hby d34_22) rfl) ?_
        show Go p_ e_ bl_ _ (T0.setTop (mkF m_ 24 #[.val (.ref b), .val (.int (61 : Int32)), .val (.int (0 : Int32)), .val (.int (4 : Int32)), .val (.int (61 : Int32)), .val (.int (2 : Int32))] [(.int (2 : Int32))]))
        exact W0.retI hret (hb hby d34_24) (by decide) (by decide) fun _ _ => ⟨by simp [ixV, fi, y0, y1, y2], rfl⟩
      · refine Go.st (fun _ => XS.icmpYes W0.here W0.ex rfl (pc0 := 19) (pc' := 25) rfl (hb hby d34_19) rfl (feq (hx2 : ¬ (c2.toInt8.toInt32 = (61 : Int32)))).2 (by decide) (by decide)) ?_
        show Go p_ e_ bl_ _ (T0.setTop (mkF m_ 25 #[.val (.ref b), .val (.int (61 : Int32)), .val (.int (0 : Int32)), .val (.int (4 : Int32)), .val (.int (61 : Int32)), .val (.int (2 : Int32))] []))
        have y2 : ¬ c2 = 61 := fun q => hx2 ((b61 r2).mpr q)
        refine Go.st (fun _ => XS.iinc W0.here W0.ex rfl (hb hby d34_25) rfl (l' := #[.val (.ref b), .val (.int (61 : Int32)), .val (.int (0 : Int32)), .val (.int (4 : Int32)), .val (.int (61 : Int32)), .val (.int (3 : Int32))]) rfl) ?_
        show Go p_ e_ bl_ _ (T0.setTop (mkF m_ 28 #[.val (.ref b), .val (.int (61 : Int32)), .val (.int (0 : Int32)), .val (.int (4 : Int32)), .val (.int (61 : Int32)), .val (.int (3 : Int32))] []))
        refine Go.st (fun _ => XS.goto W0.here W0.ex rfl (pc0 := 28) (pc' := 7) rfl (hb hby d34_28) (by decide) (by decide)) ?_
        show Go p_ e_ bl_ _ (T0.setTop (mkF m_ 7 #[.val (.ref b), .val (.int (61 : Int32)), .val (.int (0 : Int32)), .val (.int (4 : Int32)), .val (.int (61 : Int32)), .val (.int (3 : Int32))] []))
        refine Go.st (fun _ => XS.iload W0.here W0.ex rfl (hb hby d34_7) rfl) ?_
        show Go p_ e_ bl_ _ (T0.setTop (mkF m_ 9 #[.val (.ref b), .val (.int (61 : Int32)), .val (.int (0 : Int32)), .val (.int (4 : Int32)), .val (.int (61 : Int32)), .val (.int (3 : Int32))] [(.int (3 : Int32))]))
        refine Go.st (fun _ => XS.iloadN W0.here W0.ex rfl (hb hby d34_9) rfl) ?_
        show Go p_ e_ bl_ _ (T0.setTop (mkF m_ 10 #[.val (.ref b), .val (.int (61 : Int32)), .val (.int (0 : Int32)), .val (.int (4 : Int32)), .val (.int (61 : Int32)), .val (.int (3 : Int32))] [(.int (4 : Int32)), (.int (3 : Int32))]))
        refine Go.st (fun _ => XS.icmpNo W0.here W0.ex rfl (hb hby d34_10) rfl (tlt ((by decide) : (3 : Int32) < (4 : Int32))).2.1) ?_
        show Go p_ e_ bl_ _ (T0.setTop (mkF m_ 13 #[.val (.ref b), .val (.int (61 : Int32)), .val (.int (0 : Int32)), .val (.int (4 : Int32)), .val (.int (61 : Int32)), .val (.int (3 : Int32))] []))
        refine Go.st (fun _ => XS.aloadN W0.here W0.ex rfl (hb hby d34_13) rfl rfl) ?_
        show Go p_ e_ bl_ _ (T0.setTop (mkF m_ 14 #[.val (.ref b), .val (.int (61 : Int32)), .val (.int (0 : Int32)), .val (.int (4 : Int32)), .val (.int (61 : Int32)), .val (.int (3 : Int32))] [(.ref b)]))
        refine Go.st (fun _ => XS.iload W0.here W0.ex rfl (hb hby d34_14) rfl) ?_
        show Go p_ e_ bl_ _ (T0.setTop (mkF m_ 16 #[.val (.ref b), .val (.int (61 : Int32)), .val (.int (0 : Int32)), .val (.int (4 : Int32)), .val (.int (61 : Int32)), .val (.int (3 : Int32))] [(.int (3 : Int32)), (.ref b)]))
        refine W0.ldB V_b (j := (3 : Int32)) (v := (.int c3.toInt8.toInt32)) ⟨by decide, by decide⟩ rfl (hb hby d34_16) ?_
        show Go p_ e_ bl_ _ (T0.setTop (mkF m_ 17 #[.val (.ref b), .val (.int (61 : Int32)), .val (.int (0 : Int32)), .val (.int (4 : Int32)), .val (.int (61 : Int32)), .val (.int (3 : Int32))] [(.int c3.toInt8.toInt32)]))
        refine Go.st (fun _ => XS.iload W0.here W0.ex rfl (hb hby d34_17) rfl) ?_
        show Go p_ e_ bl_ _ (T0.setTop (mkF m_ 19 #[.val (.ref b), .val (.int (61 : Int32)), .val (.int (0 : Int32)), .val (.int (4 : Int32)), .val (.int (61 : Int32)), .val (.int (3 : Int32))] [(.int (61 : Int32)), (.int c3.toInt8.toInt32)]))
        by_cases hx3 : c3.toInt8.toInt32 = (61 : Int32)
        · refine Go.st (fun _ => XS.icmpNo W0.here W0.ex rfl (hb hby d34_19) rfl (teq (hx3 : c3.toInt8.toInt32 = (61 : Int32))).2) ?_
          show Go p_ e_ bl_ _ (T0.setTop (mkF m_ 22 #[.val (.ref b), .val (.int (61 : Int32)), .val (.int (0 : Int32)), .val (.int (4 : Int32)), .val (.int (61 : Int32)), .val (.int (3 : Int32))] []))
          have y3 := (b61 r3).mp hx3
          refine Go.st (fun _ => XS.iload W0.here W0.ex rfl (hb hby d34_22) rfl) ?_
          show Go p_ e_ bl_ _ (T0.setTop (mkF m_ 24 #[.val (.ref b), .val (.int (61 : Int32)), .val (.int (0 : Int32)), .val (.int (4 : Int32)), .val (.int (61 : Int32)), .val (.int (3 : Int32))] [(.int (3 : Int32))]))
          exact W0.retI hret (hb hby d34_24) (by decide) (by decide) fun _ _ => ⟨by simp [ixV, fi, y0, y1, y2, y3], rfl⟩
        · refine Go.st (fun _ => XS.icmpYes W0.here W0.ex rfl (pc0 := 19) (pc' := 25) rfl (hb hby d34_19) rfl (feq (hx3 : ¬ (c3.toInt8.toInt32 = (61 : Int32)))).2 (by decide) (by decide)) ?_
          show Go p_ e_ bl_ _ (T0.setTop (mkF m_ 25 #[.val (.ref b), .val (.int (61 : Int32)), .val (.int (0 : Int32)), .val (.int (4 : Int32)), .val (.int (61 : Int32)), .val (.int (3 : Int32))] []))
          have y3 : ¬ c3 = 61 := fun q => hx3 ((b61 r3).mpr q)
          refine Go.st (fun _ => XS.iinc W0.here W0.ex rfl (hb hby d34_25) rfl (l' := #[.val (.ref b), .val (.int (61 : Int32)), .val (.int (0 : Int32)), .val (.int (4 : Int32)), .val (.int (61 : Int32)), .val (.int (4 : Int32))]) rfl) ?_
          show Go p_ e_ bl_ _ (T0.setTop (mkF m_ 28 #[.val (.ref b), .val (.int (61 : Int32)), .val (.int (0 : Int32)), .val (.int (4 : Int32)), .val (.int (61 : Int32)), .val (.int (4 : Int32))] []))
          refine Go.st (fun _ => XS.goto W0.here W0.ex rfl (pc0 := 28) (pc' := 7) rfl (hb hby d34_28) (by decide) (by decide)) ?_
          show Go p_ e_ bl_ _ (T0.setTop (mkF m_ 7 #[.val (.ref b), .val (.int (61 : Int32)), .val (.int (0 : Int32)), .val (.int (4 : Int32)), .val (.int (61 : Int32)), .val (.int (4 : Int32))] []))
          refine Go.st (fun _ => XS.iload W0.here W0.ex rfl (hb hby d34_7) rfl) ?_
          show Go p_ e_ bl_ _ (T0.setTop (mkF m_ 9 #[.val (.ref b), .val (.int (61 : Int32)), .val (.int (0 : Int32)), .val (.int (4 : Int32)), .val (.int (61 : Int32)), .val (.int (4 : Int32))] [(.int (4 : Int32))]))
          refine Go.st (fun _ => XS.iloadN W0.here W0.ex rfl (hb hby d34_9) rfl) ?_
          show Go p_ e_ bl_ _ (T0.setTop (mkF m_ 10 #[.val (.ref b), .val (.int (61 : Int32)), .val (.int (0 : Int32)), .val (.int (4 : Int32)), .val (.int (61 : Int32)), .val (.int (4 : Int32))] [(.int (4 : Int32)), (.int (4 : Int32))]))
          refine Go.st (fun _ => XS.icmpYes W0.here W0.ex rfl (pc0 := 10) (pc' := 31) rfl (hb hby d34_10) rfl (flt ((by decide) : ¬ ((4 : Int32) < (4 : Int32)))).2.1 (by decide) (by decide)) ?_
          show Go p_ e_ bl_ _ (T0.setTop (mkF m_ 31 #[.val (.ref b), .val (.int (61 : Int32)), .val (.int (0 : Int32)), .val (.int (4 : Int32)), .val (.int (61 : Int32)), .val (.int (4 : Int32))] []))
          refine Go.st (fun _ => XS.iconst W0.here W0.ex rfl (hb hby d34_31)) ?_
          show Go p_ e_ bl_ _ (T0.setTop (mkF m_ 32 #[.val (.ref b), .val (.int (61 : Int32)), .val (.int (0 : Int32)), .val (.int (4 : Int32)), .val (.int (61 : Int32)), .val (.int (4 : Int32))] [(.int (-1 : Int32))]))
          exact W0.retI hret (hb hby d34_32) (by decide) (by decide) fun _ _ => ⟨by simp [ixV, fi, y0, y1, y2, y3], rfl⟩
theorem ct_ioc {l : Launch} {Z : State} {a0 : Array Value} {n0 : Nat} {g1 : Int32} {gf : Value} {ea : Addr} {kea : ClassId} (cx : Ctx Z a0 n0 g1 gf ea kea) {h : Heap} (O : Old Z n0 h) (b : Addr) (kb : ClassId) (cs : List Int32) (hl : cs.length ≤ 4) (hp : (0 : Int32) < Int32.ofNat cs.length) (hc : Ch8 cs) (V_b : Arv Z h b kb .byte (Int32.ofNat cs.length) (bsOf cs) (.int 0)) :
    Ct l Z consts_1 n0 [] (⟨"java/lang/StringLatin1", "indexOfChar", "([BIII)I"⟩ : MethodName) jdk_43_method_23_code 6 (some .int) ({ frames := 0, cells := 0, slots := 0, locals := 0 } : Room) #[.ref b, .int 61, .int 0, .int (Int32.ofNat cs.length)] [] h (fun v _ h' => v = some (.int (ixV cs)) ∧ h' = h) := by
  revert hp hc V_b
  match cs, hl with
  | [], _ => intro hp; exact absurd (show (0 : Int32) < 0 from hp) (by decide)
  | [c0], _ => intro hp hc V_b; exact ct_ioc1 cx O b kb c0 (hc c0 (by simp)) V_b
  | [c0, c1], _ => intro hp hc V_b; exact ct_ioc2 cx O b kb c0 c1 (hc c0 (by simp)) (hc c1 (by simp)) V_b
  | [c0, c1, c2], _ => intro hp hc V_b; exact ct_ioc3 cx O b kb c0 c1 c2 (hc c0 (by simp)) (hc c1 (by simp)) (hc c2 (by simp)) V_b
  | [c0, c1, c2, c3], _ => intro hp hc V_b; exact ct_ioc4 cx O b kb c0 c1 c2 c3 (hc c0 (by simp)) (hc c1 (by simp)) (hc c2 (by simp)) (hc c3 (by simp)) V_b
set_option maxRecDepth 65536 in
set_option maxHeartbeats 40000000 in
theorem ct_io4 {l : Launch} {Z : State} {a0 : Array Value} {n0 : Nat} {g1 : Int32} {gf : Value} {ea : Addr} {kea : ClassId} (cx : Ctx Z a0 n0 g1 gf ea kea) {h : Heap} (O : Old Z n0 h) (t : Addr) (kt : ClassId) (cs : List Int32) (hl : cs.length ≤ 4) (hc : Ch8 cs) (V_t : Arv Z h t kt .byte (Int32.ofNat cs.length) (bsOf cs) (.int 0)) :
    Ct l Z consts_1 n0 [] (⟨"java/lang/StringLatin1", "indexOf", "([BIII)I"⟩ : MethodName) jdk_43_method_22_code 4 (some .int) ({ frames := 1, cells := 0, slots := 0, locals := 17 } : Room) #[(.ref t), (.int (61 : Int32)), (.int (0 : Int32)), (.int (Int32.ofNat cs.length))] [] h (fun v _ h' => v = some (.int (ixV cs)) ∧ h' = h) := by
  refine Ct.intro (plainFor_of_name pn7) O cx.ew ?_
  intro p_ e_ s_ m_ bl_ mt_ c_ T0 W0 hby hml hret hnm
  refine Go.st (fun t_ k_ => castTop (g' := mkF m_ 0 #[.val (.ref t), .val (.int (61 : Int32)), .val (.int (0 : Int32)), .val (.int (Int32.ofNat cs.length))] []) (by first | (simp [entryFrame, mkF, argsToLocals, Value.category]; done) | rfl) k_) ?_
  show Go p_ e_ bl_ _ (T0.setTop (mkF m_ 0 #[.val (.ref t), .val (.int (61 : Int32)), .val (.int (0 : Int32)), .val (.int (Int32.ofNat cs.length))] []))
  refine Go.st (fun _ => XS.iloadN W0.here W0.ex rfl (hb hby d26_0) rfl) ?_
  show Go p_ e_ bl_ _ (T0.setTop (mkF m_ 1 #[.val (.ref t), .val (.int (61 : Int32)), .val (.int (0 : Int32)), .val (.int (Int32.ofNat cs.length))] [(.int (61 : Int32))]))
  refine W0.callS (y := (⟨"java/lang/StringLatin1", "canEncode", "(I)Z"⟩ : MethodName)) (cx.w 179 rfl) (cx.w 180 rfl) (cx.w 177 rfl) (cx.w 181 rfl) (by decide) (ct_can61 cx W0.old ) all0 (by decide) (Wd := 0) (by decide) (k' := 0) (n' := 0) rfl rfl (by decide) (by decide) (by rw [hml]; rfl) (argsL := [(.int (61 : Int32))]) (rest := []) rfl (lenOf pd10 rfl) rfl (Nat.le_of_eq rfl) (hb hby d26_1) ?_
  intro v1 vm1 T1 h1 L1 W1 q1
  obtain ⟨rfl, eh_⟩ := q1
  subst h1
  show Go p_ e_ bl_ _ (T1.setTop (mkF m_ 4 #[.val (.ref t), .val (.int (61 : Int32)), .val (.int (0 : Int32)), .val (.int (Int32.ofNat cs.length))] [(.int (1 : Int32))]))
  refine Go.st (fun _ => XS.ifYes W1.here W1.ex rfl (pc0 := 4) (pc' := 9) rfl (hb hby d26_4) rfl ((if0 _ _).trans (feq ((by decide) : ¬ ((1 : Int32) = (0 : Int32)))).2) (by decide) (by decide)) ?_
  show Go p_ e_ bl_ _ (T1.setTop (mkF m_ 9 #[.val (.ref t), .val (.int (61 : Int32)), .val (.int (0 : Int32)), .val (.int (Int32.ofNat cs.length))] []))
  refine Go.st (fun _ => XS.iloadN W1.here W1.ex rfl (hb hby d26_9) rfl) ?_
  show Go p_ e_ bl_ _ (T1.setTop (mkF m_ 10 #[.val (.ref t), .val (.int (61 : Int32)), .val (.int (0 : Int32)), .val (.int (Int32.ofNat cs.length))] [(.int (0 : Int32))]))
  refine Go.st (fun _ => XS.iconst W1.here W1.ex rfl (hb hby d26_10)) ?_
  show Go p_ e_ bl_ _ (T1.setTop (mkF m_ 11 #[.val (.ref t), .val (.int (61 : Int32)), .val (.int (0 : Int32)), .val (.int (Int32.ofNat cs.length))] [(.int (0 : Int32)), (.int (0 : Int32))]))
  refine W1.callS (y := (⟨"java/lang/Math", "max", "(II)I"⟩ : MethodName)) (cx.w 182 rfl) (cx.w 79 rfl) (cx.w 80 rfl) (cx.w 81 rfl) (by decide) (ct_max00 cx W1.old ) all0 (by decide) (Wd := 0) (by decide) (k' := 0) (n' := 0) rfl rfl (by decide) (by decide) (by rw [hml]; rfl) (argsL := [(.int (0 : Int32)), (.int (0 : Int32))]) (rest := []) rfl (lenOf pd3 rfl) rfl (Nat.le_of_eq rfl) (hb hby d26_11) ?_
  intro v2 vm2 T2 h2 L2 W2 q2
  obtain ⟨rfl, eh_⟩ := q2
  subst h2
  show Go p_ e_ bl_ _ (T2.setTop (mkF m_ 14 #[.val (.ref t), .val (.int (61 : Int32)), .val (.int (0 : Int32)), .val (.int (Int32.ofNat cs.length))] [(.int (0 : Int32))]))
  refine Go.st (fun _ => XS.istoreN W2.here W2.ex rfl (hb hby d26_14) rfl (l' := #[.val (.ref t), .val (.int (61 : Int32)), .val (.int (0 : Int32)), .val (.int (Int32.ofNat cs.length))]) rfl) ?_
  show Go p_ e_ bl_ _ (T2.setTop (mkF m_ 15 #[.val (.ref t), .val (.int (61 : Int32)), .val (.int (0 : Int32)), .val (.int (Int32.ofNat cs.length))] []))
  refine Go.st (fun _ => XS.iloadN W2.here W2.ex rfl (hb hby d26_15) rfl) ?_
  show Go p_ e_ bl_ _ (T2.setTop (mkF m_ 16 #[.val (.ref t), .val (.int (61 : Int32)), .val (.int (0 : Int32)), .val (.int (Int32.ofNat cs.length))] [(.int (Int32.ofNat cs.length))]))
  refine Go.st (fun _ => XS.aloadN W2.here W2.ex rfl (hb hby d26_16) rfl rfl) ?_
  show Go p_ e_ bl_ _ (T2.setTop (mkF m_ 17 #[.val (.ref t), .val (.int (61 : Int32)), .val (.int (0 : Int32)), .val (.int (Int32.ofNat cs.length))] [(.ref t), (.int (Int32.ofNat cs.length))]))
  refine W2.alen V_t (hb hby d26_17) ?_
  show Go p_ e_ bl_ _ (T2.setTop (mkF m_ 18 #[.val (.ref t), .val (.int (61 : Int32)), .val (.int (0 : Int32)), .val (.int (Int32.ofNat cs.length))] [(.int (Int32.ofNat cs.length)), (.int (Int32.ofNat cs.length))]))
  refine W2.callS (y := (⟨"java/lang/Math", "min", "(II)I"⟩ : MethodName)) (cx.w 183 rfl) (cx.w 184 rfl) (cx.w 80 rfl) (cx.w 185 rfl) (by decide) (ct_minS cx W2.old (Int32.ofNat cs.length)) all0 (by decide) (Wd := 0) (by decide) (k' := 0) (n' := 0) rfl rfl (by decide) (by decide) (by rw [hml]; rfl) (argsL := [(.int (Int32.ofNat cs.length)), (.int (Int32.ofNat cs.length))]) (rest := []) rfl (lenOf pd3 rfl) rfl (Nat.le_of_eq rfl) (hb hby d26_18) ?_
  intro v3 vm3 T3 h3 L3 W3 q3
  obtain ⟨rfl, eh_⟩ := q3
  subst h3
  show Go p_ e_ bl_ _ (T3.setTop (mkF m_ 21 #[.val (.ref t), .val (.int (61 : Int32)), .val (.int (0 : Int32)), .val (.int (Int32.ofNat cs.length))] [(.int (Int32.ofNat cs.length))]))
  refine Go.st (fun _ => XS.istoreN W3.here W3.ex rfl (hb hby d26_21) rfl (l' := #[.val (.ref t), .val (.int (61 : Int32)), .val (.int (0 : Int32)), .val (.int (Int32.ofNat cs.length))]) rfl) ?_
  show Go p_ e_ bl_ _ (T3.setTop (mkF m_ 22 #[.val (.ref t), .val (.int (61 : Int32)), .val (.int (0 : Int32)), .val (.int (Int32.ofNat cs.length))] []))
  refine Go.st (fun _ => XS.iloadN W3.here W3.ex rfl (hb hby d26_22) rfl) ?_
  show Go p_ e_ bl_ _ (T3.setTop (mkF m_ 23 #[.val (.ref t), .val (.int (61 : Int32)), .val (.int (0 : Int32)), .val (.int (Int32.ofNat cs.length))] [(.int (0 : Int32))]))
  refine Go.st (fun _ => XS.iloadN W3.here W3.ex rfl (hb hby d26_23) rfl) ?_
  show Go p_ e_ bl_ _ (T3.setTop (mkF m_ 24 #[.val (.ref t), .val (.int (61 : Int32)), .val (.int (0 : Int32)), .val (.int (Int32.ofNat cs.length))] [(.int (Int32.ofNat cs.length)), (.int (0 : Int32))]))
  by_cases hp : (0 : Int32) < (Int32.ofNat cs.length)
  · refine Go.st (fun _ => XS.icmpYes W3.here W3.ex rfl (pc0 := 24) (pc' := 29) rfl (hb hby d26_24) rfl (tlt (hp : (0 : Int32) < (Int32.ofNat cs.length))).1 (by decide) (by decide)) ?_
    show Go p_ e_ bl_ _ (T3.setTop (mkF m_ 29 #[.val (.ref t), .val (.int (61 : Int32)), .val (.int (0 : Int32)), .val (.int (Int32.ofNat cs.length))] []))
    refine Go.st (fun _ => XS.aloadN W3.here W3.ex rfl (hb hby d26_29) rfl rfl) ?_
    show Go p_ e_ bl_ _ (T3.setTop (mkF m_ 30 #[.val (.ref t), .val (.int (61 : Int32)), .val (.int (0 : Int32)), .val (.int (Int32.ofNat cs.length))] [(.ref t)]))
    refine Go.st (fun _ => XS.iloadN W3.here W3.ex rfl (hb hby d26_30) rfl) ?_
    show Go p_ e_ bl_ _ (T3.setTop (mkF m_ 31 #[.val (.ref t), .val (.int (61 : Int32)), .val (.int (0 : Int32)), .val (.int (Int32.ofNat cs.length))] [(.int (61 : Int32)), (.ref t)]))
    refine Go.st (fun _ => XS.iloadN W3.here W3.ex rfl (hb hby d26_31) rfl) ?_
    show Go p_ e_ bl_ _ (T3.setTop (mkF m_ 32 #[.val (.ref t), .val (.int (61 : Int32)), .val (.int (0 : Int32)), .val (.int (Int32.ofNat cs.length))] [(.int (0 : Int32)), (.int (61 : Int32)), (.ref t)]))
    refine Go.st (fun _ => XS.iloadN W3.here W3.ex rfl (hb hby d26_32) rfl) ?_
    show Go p_ e_ bl_ _ (T3.setTop (mkF m_ 33 #[.val (.ref t), .val (.int (61 : Int32)), .val (.int (0 : Int32)), .val (.int (Int32.ofNat cs.length))] [(.int (Int32.ofNat cs.length)), (.int (0 : Int32)), (.int (61 : Int32)), (.ref t)]))
    refine W3.callS (y := (⟨"java/lang/StringLatin1", "indexOfChar", "([BIII)I"⟩ : MethodName)) (cx.w 205 rfl) (cx.w 206 rfl) (cx.w 177 rfl) (cx.w 207 rfl) (by decide) (ct_ioc cx W3.old t kt cs hl hp hc V_t) all0 (by decide) (Wd := 0) (by decide) (k' := 0) (n' := 0) rfl rfl (by decide) (by decide) (by rw [hml]; rfl) (argsL := [(.ref t), (.int (61 : Int32)), (.int (0 : Int32)), (.int (Int32.ofNat cs.length))]) (rest := []) rfl (lenOf pd11 rfl) rfl (Nat.le_of_eq rfl) (hb hby d26_33) ?_
    intro v4 vm4 T4 h4 L4 W4 q4
    obtain ⟨rfl, eh_⟩ := q4
    subst h4
    show Go p_ e_ bl_ _ (T4.setTop (mkF m_ 36 #[.val (.ref t), .val (.int (61 : Int32)), .val (.int (0 : Int32)), .val (.int (Int32.ofNat cs.length))] [(.int (ixV cs))]))
    exact W4.retI hret (hb hby d26_36) (by decide) (by decide) fun _ _ => ⟨rfl, rfl⟩
  · refine Go.st (fun _ => XS.icmpNo W3.here W3.ex rfl (hb hby d26_24) rfl (flt (hp : ¬ ((0 : Int32) < (Int32.ofNat cs.length)))).1) ?_
    show Go p_ e_ bl_ _ (T3.setTop (mkF m_ 27 #[.val (.ref t), .val (.int (61 : Int32)), .val (.int (0 : Int32)), .val (.int (Int32.ofNat cs.length))] []))
    refine Go.st (fun _ => XS.iconst W3.here W3.ex rfl (hb hby d26_27)) ?_
    show Go p_ e_ bl_ _ (T3.setTop (mkF m_ 28 #[.val (.ref t), .val (.int (61 : Int32)), .val (.int (0 : Int32)), .val (.int (Int32.ofNat cs.length))] [(.int (-1 : Int32))]))
    exact W3.retI hret (hb hby d26_28) (by decide) (by decide) fun _ _ => ⟨by rw [ix_nil hl hp], rfl⟩
set_option maxRecDepth 65536 in
set_option maxHeartbeats 40000000 in
theorem ct_isL {l : Launch} {Z : State} {a0 : Array Value} {n0 : Nat} {g1 : Int32} {gf : Value} {ea : Addr} {kea : ClassId} (cx : Ctx Z a0 n0 g1 gf ea kea) {h : Heap} (O : Old Z n0 h) (a t : Addr) (cs : List Int32) (S_a : StrAt Z h a t cs) :
    Ct l Z consts_1 n0 [] (⟨"java/lang/String", "isLatin1", "()Z"⟩ : MethodName) jdk_42_method_154_code 1 (some .boolean) ({ frames := 0, cells := 0, slots := 0, locals := 0 } : Room) #[(.ref a)] [] h (fun v _ h' => v = some (.int 1) ∧ h' = h) := by
  refine Ct.intro (plainFor_of_name pn0) O cx.ew ?_
  intro p_ e_ s_ m_ bl_ mt_ c_ T0 W0 hby hml hret hnm
  refine Go.st (fun t_ k_ => castTop (g' := mkF m_ 0 #[.val (.ref a)] []) (by first | (simp [entryFrame, mkF, argsToLocals, Value.category]; done) | rfl) k_) ?_
  show Go p_ e_ bl_ _ (T0.setTop (mkF m_ 0 #[.val (.ref a)] []))
  have E_a := S_a.1
  have F_coder_a := S_a.2.1
  have F_value_a := S_a.2.2.1
  obtain ⟨k_t, V_t⟩ := S_a.kb
  refine W0.getS (cx.w 164 rfl) Via.refl (cx.cmp.ext W0.e0) (hb hby d23_0) ?_
  intro T1 W1
  show Go p_ e_ bl_ _ (T1.setTop (mkF m_ 3 #[.val (.ref a)] [(.int g1)]))
  refine Go.st (fun _ => XS.ifNo W1.here W1.ex rfl (hb hby d23_3) rfl ((if0 _ _).trans (feq (cx.g1 : ¬ (g1 = (0 : Int32)))).1)) ?_
  show Go p_ e_ bl_ _ (T1.setTop (mkF m_ 6 #[.val (.ref a)] []))
  refine Go.st (fun _ => XS.aloadN W1.here W1.ex rfl (hb hby d23_6) rfl rfl) ?_
  show Go p_ e_ bl_ _ (T1.setTop (mkF m_ 7 #[.val (.ref a)] [(.ref a)]))
  refine W1.getF (cx.w 29 rfl) Via.refl F_coder_a (hb hby d23_7) ?_
  intro T2 W2
  show Go p_ e_ bl_ _ (T2.setTop (mkF m_ 10 #[.val (.ref a)] [(.int (0 : Int32))]))
  refine Go.st (fun _ => XS.ifNo W2.here W2.ex rfl (hb hby d23_10) rfl ((if0 _ _).trans (teq (rfl : (0 : Int32) = (0 : Int32))).2)) ?_
  show Go p_ e_ bl_ _ (T2.setTop (mkF m_ 13 #[.val (.ref a)] []))
  refine Go.st (fun _ => XS.iconst W2.here W2.ex rfl (hb hby d23_13)) ?_
  show Go p_ e_ bl_ _ (T2.setTop (mkF m_ 14 #[.val (.ref a)] [(.int (1 : Int32))]))
  refine Go.st (fun _ => XS.goto W2.here W2.ex rfl (pc0 := 14) (pc' := 18) rfl (hb hby d23_14) (by decide) (by decide)) ?_
  show Go p_ e_ bl_ _ (T2.setTop (mkF m_ 18 #[.val (.ref a)] [(.int (1 : Int32))]))
  exact W2.retN hret (by simp) (hb hby d23_18) (by decide) (by decide) fun _ _ => ⟨rfl, rfl⟩
set_option maxRecDepth 65536 in
set_option maxHeartbeats 40000000 in
theorem ct_io2 {l : Launch} {Z : State} {a0 : Array Value} {n0 : Nat} {g1 : Int32} {gf : Value} {ea : Addr} {kea : ClassId} (cx : Ctx Z a0 n0 g1 gf ea kea) {h : Heap} (O : Old Z n0 h) (a t : Addr) (cs : List Int32) (hl : cs.length ≤ 4) (S_a : StrAt Z h a t cs) :
    Ct l Z consts_1 n0 [] (⟨"java/lang/String", "indexOf", "(II)I"⟩ : MethodName) jdk_42_method_80_code 3 (some .int) ({ frames := 2, cells := 0, slots := 0, locals := 32 } : Room) #[(.ref a), (.int (61 : Int32)), (.int (0 : Int32))] [] h (fun v _ h' => v = some (.int (ixV cs)) ∧ h' = h) := by
  refine Ct.intro (plainFor_of_name pn0) O cx.ew ?_
  intro p_ e_ s_ m_ bl_ mt_ c_ T0 W0 hby hml hret hnm
  refine Go.st (fun t_ k_ => castTop (g' := mkF m_ 0 #[.val (.ref a), .val (.int (61 : Int32)), .val (.int (0 : Int32))] []) (by first | (simp [entryFrame, mkF, argsToLocals, Value.category]; done) | rfl) k_) ?_
  show Go p_ e_ bl_ _ (T0.setTop (mkF m_ 0 #[.val (.ref a), .val (.int (61 : Int32)), .val (.int (0 : Int32))] []))
  have E_a := S_a.1
  have F_coder_a := S_a.2.1
  have F_value_a := S_a.2.2.1
  obtain ⟨k_t, V_t⟩ := S_a.kb
  refine Go.st (fun _ => XS.aloadN W0.here W0.ex rfl (hb hby d22_0) rfl rfl) ?_
  show Go p_ e_ bl_ _ (T0.setTop (mkF m_ 1 #[.val (.ref a), .val (.int (61 : Int32)), .val (.int (0 : Int32))] [(.ref a)]))
  refine W0.callV (y := (⟨"java/lang/String", "isLatin1", "()Z"⟩ : MethodName)) (z := (⟨"java/lang/String", "isLatin1", "()Z"⟩ : MethodName)) (cx.w 159 rfl) (cx.w 160 rfl) (cx.w 162 rfl) (cx.w 161 rfl) (cx.w 10 rfl) (cx.w 163 rfl) (W0.nf (cx.w 162 rfl)) (by decide) E_a (ct_isL cx W0.old a t cs S_a) all0 (by decide) (Wd := 0) (by decide) (k' := 0) (n' := 0) rfl rfl (by decide) (by decide) (by rw [hml]; rfl) (a := a) (argsL := []) (rest := []) rfl (lenOf pd12 rfl) rfl (Nat.le_of_eq rfl) (hb hby d22_1) ?_
  intro v1 vm1 T1 h1 L1 W1 q1
  obtain ⟨rfl, eh_⟩ := q1
  subst h1
  show Go p_ e_ bl_ _ (T1.setTop (mkF m_ 4 #[.val (.ref a), .val (.int (61 : Int32)), .val (.int (0 : Int32))] [(.int (1 : Int32))]))
  refine Go.st (fun _ => XS.ifNo W1.here W1.ex rfl (hb hby d22_4) rfl ((if0 _ _).trans (feq ((by decide) : ¬ ((1 : Int32) = (0 : Int32)))).1)) ?_
  show Go p_ e_ bl_ _ (T1.setTop (mkF m_ 7 #[.val (.ref a), .val (.int (61 : Int32)), .val (.int (0 : Int32))] []))
  refine Go.st (fun _ => XS.aloadN W1.here W1.ex rfl (hb hby d22_7) rfl rfl) ?_
  show Go p_ e_ bl_ _ (T1.setTop (mkF m_ 8 #[.val (.ref a), .val (.int (61 : Int32)), .val (.int (0 : Int32))] [(.ref a)]))
  refine W1.getF (cx.w 28 rfl) Via.refl F_value_a (hb hby d22_8) ?_
  intro T2 W2
  show Go p_ e_ bl_ _ (T2.setTop (mkF m_ 11 #[.val (.ref a), .val (.int (61 : Int32)), .val (.int (0 : Int32))] [(.ref t)]))
  refine Go.st (fun _ => XS.iloadN W2.here W2.ex rfl (hb hby d22_11) rfl) ?_
  show Go p_ e_ bl_ _ (T2.setTop (mkF m_ 12 #[.val (.ref a), .val (.int (61 : Int32)), .val (.int (0 : Int32))] [(.int (61 : Int32)), (.ref t)]))
  refine Go.st (fun _ => XS.iloadN W2.here W2.ex rfl (hb hby d22_12) rfl) ?_
  show Go p_ e_ bl_ _ (T2.setTop (mkF m_ 13 #[.val (.ref a), .val (.int (61 : Int32)), .val (.int (0 : Int32))] [(.int (0 : Int32)), (.int (61 : Int32)), (.ref t)]))
  refine Go.st (fun _ => XS.aloadN W2.here W2.ex rfl (hb hby d22_13) rfl rfl) ?_
  show Go p_ e_ bl_ _ (T2.setTop (mkF m_ 14 #[.val (.ref a), .val (.int (61 : Int32)), .val (.int (0 : Int32))] [(.ref a), (.int (0 : Int32)), (.int (61 : Int32)), (.ref t)]))
  obtain ⟨k1_3, V1_3⟩ := S_a.kb
  refine W2.libV (y := (⟨"java/lang/String", "length", "()I"⟩ : MethodName)) (z := (⟨"java/lang/String", "length", "()I"⟩ : MethodName)) (cx.w 165 rfl) (cx.w 166 rfl) (cx.w 168 rfl) (cx.w 167 rfl) (W2.nf (cx.w 168 rfl)) (by decide) E_a (Q := fun v h' L' => v = some (.int (Int32.ofNat (cs).length)) ∧ L' = [] ∧ h' = h) (ws := []) (Wd := 3) (ck := 0) (cn := 0) (StrChars.Road.lenW (W := 3) W2.hZ cx.lw (kI := 4) (cx.w 9 rfl) (cs := cs) S_a.1 S_a.2.2.1 S_a.2.1 V1_3 (StrChars.Road.codOf rfl fun c hc => (S_a.ch c hc).2) S_a.ch.up (cx.cmp.ext W2.e0) cx.g1 S_a.le (by decide) (by decide)) (fun v h' L' q => ⟨by rw [q.2.1]; exact Fr.nil _, by rw [q.2.2]; exact Keep.refl _ _⟩) all0 all0 (k' := 0) (n' := 0) rfl rfl (by decide) (by decide) (by rw [hml]; rfl) (a := a) (argsL := []) (rest := [(.int (0 : Int32)), (.int (61 : Int32)), (.ref t)]) rfl (lenOf pd13 rfl) rfl (Nat.le_of_eq rfl) (hb hby d22_14) ?_
  intro v4 T4 h4 M4 L4 W4 q4
  obtain ⟨rfl, -, eh_⟩ := q4
  subst h4
  show Go p_ e_ bl_ _ (T4.setTop (mkF m_ 17 #[.val (.ref a), .val (.int (61 : Int32)), .val (.int (0 : Int32))] [(.int (Int32.ofNat cs.length)), (.int (0 : Int32)), (.int (61 : Int32)), (.ref t)]))
  refine W4.callS (y := (⟨"java/lang/StringLatin1", "indexOf", "([BIII)I"⟩ : MethodName)) (cx.w 175 rfl) (cx.w 176 rfl) (cx.w 177 rfl) (cx.w 178 rfl) (by decide) (ct_io4 cx W4.old t k_t cs hl S_a.ch V_t) all0 (by decide) (Wd := 0) (by decide) (k' := 0) (n' := 0) rfl rfl (by decide) (by decide) (by rw [hml]; rfl) (argsL := [(.ref t), (.int (61 : Int32)), (.int (0 : Int32)), (.int (Int32.ofNat cs.length))]) (rest := []) rfl (lenOf pd11 rfl) rfl (Nat.le_of_eq rfl) (hb hby d22_17) ?_
  intro v5 vm5 T5 h5 L5 W5 q5
  obtain ⟨rfl, eh_⟩ := q5
  subst h5
  show Go p_ e_ bl_ _ (T5.setTop (mkF m_ 20 #[.val (.ref a), .val (.int (61 : Int32)), .val (.int (0 : Int32))] [(.int (ixV cs))]))
  refine Go.st (fun _ => XS.goto W5.here W5.ex rfl (pc0 := 20) (pc' := 36) rfl (hb hby d22_20) (by decide) (by decide)) ?_
  show Go p_ e_ bl_ _ (T5.setTop (mkF m_ 36 #[.val (.ref a), .val (.int (61 : Int32)), .val (.int (0 : Int32))] [(.int (ixV cs))]))
  exact W5.retI hret (hb hby d22_36) (by decide) (by decide) fun _ _ => ⟨rfl, rfl⟩
set_option maxRecDepth 65536 in
set_option maxHeartbeats 40000000 in
theorem ct_io1 {l : Launch} {Z : State} {a0 : Array Value} {n0 : Nat} {g1 : Int32} {gf : Value} {ea : Addr} {kea : ClassId} (cx : Ctx Z a0 n0 g1 gf ea kea) {h : Heap} (O : Old Z n0 h) (a t : Addr) (cs : List Int32) (hl : cs.length ≤ 4) (S_a : StrAt Z h a t cs) :
    Ct l Z consts_1 n0 [] (⟨"java/lang/String", "indexOf", "(I)I"⟩ : MethodName) jdk_42_method_79_code 2 (some .int) ({ frames := 3, cells := 0, slots := 0, locals := 46 } : Room) #[(.ref a), (.int (61 : Int32))] [] h (fun v _ h' => v = some (.int (ixV cs)) ∧ h' = h) := by
  refine Ct.intro (plainFor_of_name pn0) O cx.ew ?_
  intro p_ e_ s_ m_ bl_ mt_ c_ T0 W0 hby hml hret hnm
  refine Go.st (fun t_ k_ => castTop (g' := mkF m_ 0 #[.val (.ref a), .val (.int (61 : Int32))] []) (by first | (simp [entryFrame, mkF, argsToLocals, Value.category]; done) | rfl) k_) ?_
  show Go p_ e_ bl_ _ (T0.setTop (mkF m_ 0 #[.val (.ref a), .val (.int (61 : Int32))] []))
  have E_a := S_a.1
  have F_coder_a := S_a.2.1
  have F_value_a := S_a.2.2.1
  obtain ⟨k_t, V_t⟩ := S_a.kb
  refine Go.st (fun _ => XS.aloadN W0.here W0.ex rfl (hb hby d21_0) rfl rfl) ?_
  show Go p_ e_ bl_ _ (T0.setTop (mkF m_ 1 #[.val (.ref a), .val (.int (61 : Int32))] [(.ref a)]))
  refine Go.st (fun _ => XS.iloadN W0.here W0.ex rfl (hb hby d21_1) rfl) ?_
  show Go p_ e_ bl_ _ (T0.setTop (mkF m_ 2 #[.val (.ref a), .val (.int (61 : Int32))] [(.int (61 : Int32)), (.ref a)]))
  refine Go.st (fun _ => XS.iconst W0.here W0.ex rfl (hb hby d21_2)) ?_
  show Go p_ e_ bl_ _ (T0.setTop (mkF m_ 3 #[.val (.ref a), .val (.int (61 : Int32))] [(.int (0 : Int32)), (.int (61 : Int32)), (.ref a)]))
  refine W0.callV (y := (⟨"java/lang/String", "indexOf", "(II)I"⟩ : MethodName)) (z := (⟨"java/lang/String", "indexOf", "(II)I"⟩ : MethodName)) (cx.w 154 rfl) (cx.w 155 rfl) (cx.w 157 rfl) (cx.w 156 rfl) (cx.w 10 rfl) (cx.w 158 rfl) (W0.nf (cx.w 157 rfl)) (by decide) E_a (ct_io2 cx W0.old a t cs hl S_a) all0 (by decide) (Wd := 0) (by decide) (k' := 0) (n' := 0) rfl rfl (by decide) (by decide) (by rw [hml]; rfl) (a := a) (argsL := [(.int (61 : Int32)), (.int (0 : Int32))]) (rest := []) rfl (lenOf pd3 rfl) rfl (Nat.le_of_eq rfl) (hb hby d21_3) ?_
  intro v1 vm1 T1 h1 L1 W1 q1
  obtain ⟨rfl, eh_⟩ := q1
  subst h1
  show Go p_ e_ bl_ _ (T1.setTop (mkF m_ 6 #[.val (.ref a), .val (.int (61 : Int32))] [(.int (ixV cs))]))
  exact W1.retI hret (hb hby d21_6) (by decide) (by decide) fun _ _ => ⟨rfl, rfl⟩
set_option maxRecDepth 65536 in
set_option maxHeartbeats 40000000 in
theorem ct_cftN {l : Launch} {Z : State} {a0 : Array Value} {n0 : Nat} {g1 : Int32} {gf : Value} {ea : Addr} {kea : ClassId} (cx : Ctx Z a0 n0 g1 gf ea kea) {h : Heap} (O : Old Z n0 h) (x n : Int32) (q1 : ¬ x < 0) (q2 : ¬ n < x) :
    Ct l Z consts_1 n0 [] (⟨"jdk/internal/util/Preconditions", "checkFromToIndex", "(IIILjava/util/function/BiFunction;)I"⟩ : MethodName) jdk_41_method_12_code 4 (some .int) ({ frames := 0, cells := 0, slots := 0, locals := 0 } : Room) #[(.int (0 : Int32)), (.int x), (.int n), .null] [] h (fun v _ h' => v = some (.int 0) ∧ h' = h) := by
  refine Ct.intro (plainFor_of_name pn8) O cx.ew ?_
  intro p_ e_ s_ m_ bl_ mt_ c_ T0 W0 hby hml hret hnm
  refine Go.st (fun t_ k_ => castTop (g' := mkF m_ 0 #[.val (.int (0 : Int32)), .val (.int x), .val (.int n), .val .null] []) (by first | (simp [entryFrame, mkF, argsToLocals, Value.category]; done) | rfl) k_) ?_
  show Go p_ e_ bl_ _ (T0.setTop (mkF m_ 0 #[.val (.int (0 : Int32)), .val (.int x), .val (.int n), .val .null] []))
  refine Go.st (fun _ => XS.iloadN W0.here W0.ex rfl (hb hby d37_0) rfl) ?_
  show Go p_ e_ bl_ _ (T0.setTop (mkF m_ 1 #[.val (.int (0 : Int32)), .val (.int x), .val (.int n), .val .null] [(.int (0 : Int32))]))
  refine Go.st (fun _ => XS.ifNo W0.here W0.ex rfl (hb hby d37_1) rfl ((if0 _ _).trans (flt ((by decide) : ¬ ((0 : Int32) < (0 : Int32)))).1)) ?_
  show Go p_ e_ bl_ _ (T0.setTop (mkF m_ 4 #[.val (.int (0 : Int32)), .val (.int x), .val (.int n), .val .null] []))
  refine Go.st (fun _ => XS.iloadN W0.here W0.ex rfl (hb hby d37_4) rfl) ?_
  show Go p_ e_ bl_ _ (T0.setTop (mkF m_ 5 #[.val (.int (0 : Int32)), .val (.int x), .val (.int n), .val .null] [(.int (0 : Int32))]))
  refine Go.st (fun _ => XS.iloadN W0.here W0.ex rfl (hb hby d37_5) rfl) ?_
  show Go p_ e_ bl_ _ (T0.setTop (mkF m_ 6 #[.val (.int (0 : Int32)), .val (.int x), .val (.int n), .val .null] [(.int x), (.int (0 : Int32))]))
  refine Go.st (fun _ => XS.icmpNo W0.here W0.ex rfl (hb hby d37_6) rfl (flt (q1 : ¬ (x < (0 : Int32)))).2.2.1) ?_
  show Go p_ e_ bl_ _ (T0.setTop (mkF m_ 9 #[.val (.int (0 : Int32)), .val (.int x), .val (.int n), .val .null] []))
  refine Go.st (fun _ => XS.iloadN W0.here W0.ex rfl (hb hby d37_9) rfl) ?_
  show Go p_ e_ bl_ _ (T0.setTop (mkF m_ 10 #[.val (.int (0 : Int32)), .val (.int x), .val (.int n), .val .null] [(.int x)]))
  refine Go.st (fun _ => XS.iloadN W0.here W0.ex rfl (hb hby d37_10) rfl) ?_
  show Go p_ e_ bl_ _ (T0.setTop (mkF m_ 11 #[.val (.int (0 : Int32)), .val (.int x), .val (.int n), .val .null] [(.int n), (.int x)]))
  refine Go.st (fun _ => XS.icmpYes W0.here W0.ex rfl (pc0 := 11) (pc' := 22) rfl (hb hby d37_11) rfl (flt (q2 : ¬ (n < x))).2.2.2 (by decide) (by decide)) ?_
  show Go p_ e_ bl_ _ (T0.setTop (mkF m_ 22 #[.val (.int (0 : Int32)), .val (.int x), .val (.int n), .val .null] []))
  refine Go.st (fun _ => XS.iloadN W0.here W0.ex rfl (hb hby d37_22) rfl) ?_
  show Go p_ e_ bl_ _ (T0.setTop (mkF m_ 23 #[.val (.int (0 : Int32)), .val (.int x), .val (.int n), .val .null] [(.int (0 : Int32))]))
  exact W0.retI hret (hb hby d37_23) (by decide) (by decide) fun _ _ => ⟨rfl, rfl⟩
set_option maxRecDepth 65536 in
set_option maxHeartbeats 40000000 in
theorem ct_cftR {l : Launch} {Z : State} {a0 : Array Value} {n0 : Nat} {g1 : Int32} {gf : Value} {ea : Addr} {kea : ClassId} (cx : Ctx Z a0 n0 g1 gf ea kea) {h : Heap} (O : Old Z n0 h) (x n : Int32) (f : Addr) (q1 : ¬ x < 0) (q2 : ¬ n < x) :
    Ct l Z consts_1 n0 [] (⟨"jdk/internal/util/Preconditions", "checkFromToIndex", "(IIILjava/util/function/BiFunction;)I"⟩ : MethodName) jdk_41_method_12_code 4 (some .int) ({ frames := 0, cells := 0, slots := 0, locals := 0 } : Room) #[(.int (0 : Int32)), (.int x), (.int n), (.ref f)] [] h (fun v _ h' => v = some (.int 0) ∧ h' = h) := by
  refine Ct.intro (plainFor_of_name pn8) O cx.ew ?_
  intro p_ e_ s_ m_ bl_ mt_ c_ T0 W0 hby hml hret hnm
  refine Go.st (fun t_ k_ => castTop (g' := mkF m_ 0 #[.val (.int (0 : Int32)), .val (.int x), .val (.int n), .val (.ref f)] []) (by first | (simp [entryFrame, mkF, argsToLocals, Value.category]; done) | rfl) k_) ?_
  show Go p_ e_ bl_ _ (T0.setTop (mkF m_ 0 #[.val (.int (0 : Int32)), .val (.int x), .val (.int n), .val (.ref f)] []))
  refine Go.st (fun _ => XS.iloadN W0.here W0.ex rfl (hb hby d37_0) rfl) ?_
  show Go p_ e_ bl_ _ (T0.setTop (mkF m_ 1 #[.val (.int (0 : Int32)), .val (.int x), .val (.int n), .val (.ref f)] [(.int (0 : Int32))]))
  refine Go.st (fun _ => XS.ifNo W0.here W0.ex rfl (hb hby d37_1) rfl ((if0 _ _).trans (flt ((by decide) : ¬ ((0 : Int32) < (0 : Int32)))).1)) ?_
  show Go p_ e_ bl_ _ (T0.setTop (mkF m_ 4 #[.val (.int (0 : Int32)), .val (.int x), .val (.int n), .val (.ref f)] []))
  refine Go.st (fun _ => XS.iloadN W0.here W0.ex rfl (hb hby d37_4) rfl) ?_
  show Go p_ e_ bl_ _ (T0.setTop (mkF m_ 5 #[.val (.int (0 : Int32)), .val (.int x), .val (.int n), .val (.ref f)] [(.int (0 : Int32))]))
  refine Go.st (fun _ => XS.iloadN W0.here W0.ex rfl (hb hby d37_5) rfl) ?_
  show Go p_ e_ bl_ _ (T0.setTop (mkF m_ 6 #[.val (.int (0 : Int32)), .val (.int x), .val (.int n), .val (.ref f)] [(.int x), (.int (0 : Int32))]))
  refine Go.st (fun _ => XS.icmpNo W0.here W0.ex rfl (hb hby d37_6) rfl (flt (q1 : ¬ (x < (0 : Int32)))).2.2.1) ?_
  show Go p_ e_ bl_ _ (T0.setTop (mkF m_ 9 #[.val (.int (0 : Int32)), .val (.int x), .val (.int n), .val (.ref f)] []))
  refine Go.st (fun _ => XS.iloadN W0.here W0.ex rfl (hb hby d37_9) rfl) ?_
  show Go p_ e_ bl_ _ (T0.setTop (mkF m_ 10 #[.val (.int (0 : Int32)), .val (.int x), .val (.int n), .val (.ref f)] [(.int x)]))
  refine Go.st (fun _ => XS.iloadN W0.here W0.ex rfl (hb hby d37_10) rfl) ?_
  show Go p_ e_ bl_ _ (T0.setTop (mkF m_ 11 #[.val (.int (0 : Int32)), .val (.int x), .val (.int n), .val (.ref f)] [(.int n), (.int x)]))
  refine Go.st (fun _ => XS.icmpYes W0.here W0.ex rfl (pc0 := 11) (pc' := 22) rfl (hb hby d37_11) rfl (flt (q2 : ¬ (n < x))).2.2.2 (by decide) (by decide)) ?_
  show Go p_ e_ bl_ _ (T0.setTop (mkF m_ 22 #[.val (.int (0 : Int32)), .val (.int x), .val (.int n), .val (.ref f)] []))
  refine Go.st (fun _ => XS.iloadN W0.here W0.ex rfl (hb hby d37_22) rfl) ?_
  show Go p_ e_ bl_ _ (T0.setTop (mkF m_ 23 #[.val (.int (0 : Int32)), .val (.int x), .val (.int n), .val (.ref f)] [(.int (0 : Int32))]))
  exact W0.retI hret (hb hby d37_23) (by decide) (by decide) fun _ _ => ⟨rfl, rfl⟩
theorem ct_cft {l : Launch} {Z : State} {a0 : Array Value} {n0 : Nat} {g1 : Int32} {gf : Value} {ea : Addr} {kea : ClassId} (cx : Ctx Z a0 n0 g1 gf ea kea) {h : Heap} (O : Old Z n0 h) (x n : Int32) (v : Value) (hv : v.isRef = true) (q1 : ¬ x < 0) (q2 : ¬ n < x) :
    Ct l Z consts_1 n0 [] (⟨"jdk/internal/util/Preconditions", "checkFromToIndex", "(IIILjava/util/function/BiFunction;)I"⟩ : MethodName) jdk_41_method_12_code 4 (some .int) ({ frames := 0, cells := 0, slots := 0, locals := 0 } : Room) #[.int 0, .int x, .int n, v] [] h (fun v _ h' => v = some (.int 0) ∧ h' = h) := by
  cases v <;> first | exact ct_cftN cx O x n q1 q2 | exact ct_cftR cx O x n _ q1 q2 | cases hv
set_option maxRecDepth 65536 in
set_option maxHeartbeats 40000000 in
theorem ct_cb {l : Launch} {Z : State} {a0 : Array Value} {n0 : Nat} {g1 : Int32} {gf : Value} {ea : Addr} {kea : ClassId} (cx : Ctx Z a0 n0 g1 gf ea kea) {h : Heap} (O : Old Z n0 h) (x n : Int32) (q1 : ¬ x < 0) (q2 : ¬ n < x) :
    Ct l Z consts_1 n0 [] (⟨"java/lang/String", "checkBoundsBeginEnd", "(III)V"⟩ : MethodName) jdk_42_method_158_code 3 none ({ frames := 1, cells := 0, slots := 0, locals := 15 } : Room) #[(.int (0 : Int32)), (.int x), (.int n)] [] h (fun v _ h' => v = none ∧ h' = h) := by
  refine Ct.intro (plainFor_of_name pn0) O cx.ew ?_
  intro p_ e_ s_ m_ bl_ mt_ c_ T0 W0 hby hml hret hnm
  refine Go.st (fun t_ k_ => castTop (g' := mkF m_ 0 #[.val (.int (0 : Int32)), .val (.int x), .val (.int n)] []) (by first | (simp [entryFrame, mkF, argsToLocals, Value.category]; done) | rfl) k_) ?_
  show Go p_ e_ bl_ _ (T0.setTop (mkF m_ 0 #[.val (.int (0 : Int32)), .val (.int x), .val (.int n)] []))
  refine Go.st (fun _ => XS.iloadN W0.here W0.ex rfl (hb hby d36_0) rfl) ?_
  show Go p_ e_ bl_ _ (T0.setTop (mkF m_ 1 #[.val (.int (0 : Int32)), .val (.int x), .val (.int n)] [(.int (0 : Int32))]))
  refine Go.st (fun _ => XS.iloadN W0.here W0.ex rfl (hb hby d36_1) rfl) ?_
  show Go p_ e_ bl_ _ (T0.setTop (mkF m_ 2 #[.val (.int (0 : Int32)), .val (.int x), .val (.int n)] [(.int x), (.int (0 : Int32))]))
  refine Go.st (fun _ => XS.iloadN W0.here W0.ex rfl (hb hby d36_2) rfl) ?_
  show Go p_ e_ bl_ _ (T0.setTop (mkF m_ 3 #[.val (.int (0 : Int32)), .val (.int x), .val (.int n)] [(.int n), (.int x), (.int (0 : Int32))]))
  refine W0.getS (cx.w 216 rfl) Via.refl (cx.fmt.ext W0.e0) (hb hby d36_3) ?_
  intro T1 W1
  show Go p_ e_ bl_ _ (T1.setTop (mkF m_ 6 #[.val (.int (0 : Int32)), .val (.int x), .val (.int n)] [gf, (.int n), (.int x), (.int (0 : Int32))]))
  refine W1.callS (y := (⟨"jdk/internal/util/Preconditions", "checkFromToIndex", "(IIILjava/util/function/BiFunction;)I"⟩ : MethodName)) (cx.w 218 rfl) (cx.w 219 rfl) (cx.w 217 rfl) (cx.w 220 rfl) (by decide) (ct_cft cx W1.old x n gf cx.fref q1 q2) all0 (by decide) (Wd := 0) (by decide) (k' := 0) (n' := 0) rfl rfl (by decide) (by decide) (by rw [hml]; rfl) (argsL := [(.int (0 : Int32)), (.int x), (.int n), gf]) (rest := []) rfl (lenOf pd14 rfl) rfl (Nat.le_of_eq rfl) (hb hby d36_6) ?_
  intro v2 vm2 T2 h2 L2 W2 q2
  obtain ⟨rfl, eh_⟩ := q2
  subst h2
  show Go p_ e_ bl_ _ (T2.setTop (mkF m_ 9 #[.val (.int (0 : Int32)), .val (.int x), .val (.int n)] [(.int (0 : Int32))]))
  refine Go.st (fun _ => XS.pop W2.here W2.ex rfl (hb hby d36_9) rfl rfl) ?_
  show Go p_ e_ bl_ _ (T2.setTop (mkF m_ 10 #[.val (.int (0 : Int32)), .val (.int x), .val (.int n)] []))
  exact W2.retV hret (hb hby d36_10) (by decide) (by decide) fun _ _ => ⟨rfl, rfl⟩
set_option maxRecDepth 65536 in
set_option maxHeartbeats 40000000 in
theorem ct_iBB {l : Launch} {Z : State} {a0 : Array Value} {n0 : Nat} {g1 : Int32} {gf : Value} {ea : Addr} {kea : ClassId} (cx : Ctx Z a0 n0 g1 gf ea kea) {h : Heap} (O : Old Z n0 h) (a t : Addr) (E_a : Exa Z h a "java/lang/String") (F_value_a : Fld Z h a "java/lang/String" "value" "[B" .null) (F_coder_a : Fld Z h a "java/lang/String" "coder" "B" (.int 0)) (g_a : n0 ≤ a) :
    Ct l Z consts_1 n0 [] (⟨"java/lang/String", "<init>", "([BB)V"⟩ : MethodName) jdk_42_method_151_code 3 none ({ frames := 1, cells := 0, slots := 0, locals := 12 } : Room) #[(.ref a), (.ref t), (.int (0 : Int32))] [a] h (fun v _ h' => v = none ∧ Keep h h' [a] ∧ Exa Z h' a "java/lang/String" ∧ Fld Z h' a "java/lang/String" "coder" "B" (.int 0) ∧ Fld Z h' a "java/lang/String" "value" "[B" (.ref t)) := by
  refine Ct.intro (plainFor_of_name pn0) O cx.ew ?_
  intro p_ e_ s_ m_ bl_ mt_ c_ T0 W0 hby hml hret hnm
  refine Go.st (fun t_ k_ => castTop (g' := mkF m_ 0 #[.val (.ref a), .val (.ref t), .val (.int (0 : Int32))] []) (by first | (simp [entryFrame, mkF, argsToLocals, Value.category]; done) | rfl) k_) ?_
  show Go p_ e_ bl_ _ (T0.setTop (mkF m_ 0 #[.val (.ref a), .val (.ref t), .val (.int (0 : Int32))] []))
  have K0 : Keep h h [a] := Keep.refl _ _
  refine Go.st (fun _ => XS.aloadN W0.here W0.ex rfl (hb hby d42_0) rfl rfl) ?_
  show Go p_ e_ bl_ _ (T0.setTop (mkF m_ 1 #[.val (.ref a), .val (.ref t), .val (.int (0 : Int32))] [(.ref a)]))
  refine W0.initO (cx.w 19 rfl) (cx.w 20 rfl) (cx.w 21 rfl) (by rw [hml]; rfl) (hb hby d42_1) (by decide) (Wd := 0) (Nat.le_of_eq rfl) (by decide) ?_
  intro T1 W1
  show Go p_ e_ bl_ _ (T1.setTop (mkF m_ 4 #[.val (.ref a), .val (.ref t), .val (.int (0 : Int32))] []))
  refine Go.st (fun _ => XS.aloadN W1.here W1.ex rfl (hb hby d42_4) rfl rfl) ?_
  show Go p_ e_ bl_ _ (T1.setTop (mkF m_ 5 #[.val (.ref a), .val (.ref t), .val (.int (0 : Int32))] [(.ref a)]))
  refine Go.st (fun _ => XS.aloadN W1.here W1.ex rfl (hb hby d42_5) rfl rfl) ?_
  show Go p_ e_ bl_ _ (T1.setTop (mkF m_ 6 #[.val (.ref a), .val (.ref t), .val (.int (0 : Int32))] [(.ref t), (.ref a)]))
  refine W1.putF (cx.w 28 rfl) Via.refl F_value_a E_a (Or.inr ⟨(cx.w 24 rfl), rfl, hnm⟩) (cx.w 9 rfl) (ty := (.array .byte)) (by decide) rfl rfl (List.mem_of_getElem? (i := 0) rfl) g_a (hb hby d42_6) ?_
  intro T2 h2 L2 W2 w2
  replace E_a := E_a.wr w2
  replace F_value_a := F_value_a.same w2
  replace F_coder_a := F_coder_a.other w2 (Or.inr (slot_ne (Or.inr (cx.w 25 rfl)) (Or.inr (cx.w 24 rfl)) (by decide) (t := .byte) (t' := (.array .byte)) (by decide) (by decide)))
  replace K0 := K0.wr w2 (Or.inl (List.mem_of_getElem? (i := 0) rfl))
  show Go p_ e_ bl_ _ (T2.setTop (mkF m_ 9 #[.val (.ref a), .val (.ref t), .val (.int (0 : Int32))] []))
  refine Go.st (fun _ => XS.aloadN W2.here W2.ex rfl (hb hby d42_9) rfl rfl) ?_
  show Go p_ e_ bl_ _ (T2.setTop (mkF m_ 10 #[.val (.ref a), .val (.ref t), .val (.int (0 : Int32))] [(.ref a)]))
  refine Go.st (fun _ => XS.iloadN W2.here W2.ex rfl (hb hby d42_10) rfl) ?_
  show Go p_ e_ bl_ _ (T2.setTop (mkF m_ 11 #[.val (.ref a), .val (.ref t), .val (.int (0 : Int32))] [(.int (0 : Int32)), (.ref a)]))
  refine W2.putF (cx.w 29 rfl) Via.refl F_coder_a E_a (Or.inr ⟨(cx.w 25 rfl), rfl, hnm⟩) (cx.w 9 rfl) (ty := .byte) (by decide) rfl rfl (List.mem_of_getElem? (i := 0) rfl) g_a (hb hby d42_11) ?_
  intro T3 h3 L3 W3 w3
  replace E_a := E_a.wr w3
  replace F_value_a := F_value_a.other w3 (Or.inr (slot_ne (Or.inr (cx.w 24 rfl)) (Or.inr (cx.w 25 rfl)) (by decide) (t := (.array .byte)) (t' := .byte) (by decide) (by decide)))
  replace F_coder_a := F_coder_a.same w3
  replace K0 := K0.wr w3 (Or.inl (List.mem_of_getElem? (i := 0) rfl))
  show Go p_ e_ bl_ _ (T3.setTop (mkF m_ 14 #[.val (.ref a), .val (.ref t), .val (.int (0 : Int32))] []))
  exact W3.retV hret (hb hby d42_14) (by decide) (by decide) fun _ _ => ⟨rfl, K0, E_a, F_coder_a, F_value_a⟩
set_option maxRecDepth 65536 in
set_option maxHeartbeats 40000000 in
theorem ct_min_1 {l : Launch} {Z : State} {a0 : Array Value} {n0 : Nat} {g1 : Int32} {gf : Value} {ea : Addr} {kea : ClassId} (cx : Ctx Z a0 n0 g1 gf ea kea) {h : Heap} (O : Old Z n0 h) (x : Int32) (q : (1 : Int32) < x) :
    Ct l Z consts_1 n0 [] (⟨"java/lang/Math", "min", "(II)I"⟩ : MethodName) jdk_29_method_69_code 2 (some .int) ({ frames := 0, cells := 0, slots := 0, locals := 0 } : Room) #[(.int x), (.int (1 : Int32))] [] h (fun v _ h' => v = some (.int 1) ∧ h' = h) := by
  refine Ct.intro (Jvm.Free.JP.mathPlain rfl (by decide +kernel)) O cx.ew ?_
  intro p_ e_ s_ m_ bl_ mt_ c_ T0 W0 hby hml hret hnm
  refine Go.st (fun t_ k_ => castTop (g' := mkF m_ 0 #[.val (.int x), .val (.int (1 : Int32))] []) (by first | (simp [entryFrame, mkF, argsToLocals, Value.category]; done) | rfl) k_) ?_
  show Go p_ e_ bl_ _ (T0.setTop (mkF m_ 0 #[.val (.int x), .val (.int (1 : Int32))] []))
  refine Go.st (fun _ => XS.iloadN W0.here W0.ex rfl (hb hby d28_0) rfl) ?_
  show Go p_ e_ bl_ _ (T0.setTop (mkF m_ 1 #[.val (.int x), .val (.int (1 : Int32))] [(.int x)]))
  refine Go.st (fun _ => XS.iloadN W0.here W0.ex rfl (hb hby d28_1) rfl) ?_
  show Go p_ e_ bl_ _ (T0.setTop (mkF m_ 2 #[.val (.int x), .val (.int (1 : Int32))] [(.int (1 : Int32)), (.int x)]))
  refine Go.st (fun _ => XS.icmpYes W0.here W0.ex rfl (pc0 := 2) (pc' := 9) rfl (hb hby d28_2) rfl (tlt (q : (1 : Int32) < x)).2.2.1 (by decide) (by decide)) ?_
  show Go p_ e_ bl_ _ (T0.setTop (mkF m_ 9 #[.val (.int x), .val (.int (1 : Int32))] []))
  refine Go.st (fun _ => XS.iloadN W0.here W0.ex rfl (hb hby d28_9) rfl) ?_
  show Go p_ e_ bl_ _ (T0.setTop (mkF m_ 10 #[.val (.int x), .val (.int (1 : Int32))] [(.int (1 : Int32))]))
  exact W0.retI hret (hb hby d28_10) (by decide) (by decide) fun _ _ => ⟨rfl, rfl⟩
set_option maxRecDepth 65536 in
set_option maxHeartbeats 40000000 in
theorem ct_ckl_1 {l : Launch} {Z : State} {a0 : Array Value} {n0 : Nat} {g1 : Int32} {gf : Value} {ea : Addr} {kea : ClassId} (cx : Ctx Z a0 n0 g1 gf ea kea) {h : Heap} (O : Old Z n0 h)   :
    Ct l Z consts_1 n0 [] (⟨"java/util/Arrays", "checkLength", "(II)V"⟩ : MethodName) jdk_65_method_131_code 2 none ({ frames := 0, cells := 0, slots := 0, locals := 0 } : Room) #[(.int (0 : Int32)), (.int (1 : Int32))] [] h (fun v _ h' => v = none ∧ h' = h) := by
  refine Ct.intro (plainFor_of_name pn9) O cx.ew ?_
  intro p_ e_ s_ m_ bl_ mt_ c_ T0 W0 hby hml hret hnm
  refine Go.st (fun t_ k_ => castTop (g' := mkF m_ 0 #[.val (.int (0 : Int32)), .val (.int (1 : Int32))] []) (by first | (simp [entryFrame, mkF, argsToLocals, Value.category]; done) | rfl) k_) ?_
  show Go p_ e_ bl_ _ (T0.setTop (mkF m_ 0 #[.val (.int (0 : Int32)), .val (.int (1 : Int32))] []))
  refine Go.st (fun _ => XS.iloadN W0.here W0.ex rfl (hb hby d41_0) rfl) ?_
  show Go p_ e_ bl_ _ (T0.setTop (mkF m_ 1 #[.val (.int (0 : Int32)), .val (.int (1 : Int32))] [(.int (1 : Int32))]))
  refine Go.st (fun _ => XS.iloadN W0.here W0.ex rfl (hb hby d41_1) rfl) ?_
  show Go p_ e_ bl_ _ (T0.setTop (mkF m_ 2 #[.val (.int (0 : Int32)), .val (.int (1 : Int32))] [(.int (0 : Int32)), (.int (1 : Int32))]))
  refine Go.st (fun _ => XS.icmpYes W0.here W0.ex rfl (pc0 := 2) (pc' := 37) rfl (hb hby d41_2) rfl (flt ((by decide) : ¬ ((1 : Int32) < (0 : Int32)))).2.1 (by decide) (by decide)) ?_
  show Go p_ e_ bl_ _ (T0.setTop (mkF m_ 37 #[.val (.int (0 : Int32)), .val (.int (1 : Int32))] []))
  exact W0.retV hret (hb hby d41_37) (by decide) (by decide) fun _ _ => ⟨rfl, rfl⟩
set_option maxRecDepth 65536 in
set_option maxHeartbeats 40000000 in
theorem ct_corb_1 {l : Launch} {Z : State} {a0 : Array Value} {n0 : Nat} {g1 : Int32} {gf : Value} {ea : Addr} {kea : ClassId} (cx : Ctx Z a0 n0 g1 gf ea kea) {h : Heap} (O : Old Z n0 h) (t : Addr) (kt : ClassId) (cs : List Int32) (hk : 1 < cs.length) (hl : cs.length ≤ 4) (V_t : Arv Z h t kt .byte (Int32.ofNat cs.length) (bsOf cs) (.int 0)) :
    Ct l Z consts_1 n0 [] (⟨"java/util/Arrays", "copyOfRangeByte", "([BII)[B"⟩ : MethodName) jdk_65_method_133_code 5 (some (.array .byte)) ({ frames := 1, cells := 1, slots := 1, locals := 18 } : Room) #[(.ref t), (.int (0 : Int32)), (.int (1 : Int32))] [] h (fun v _ h' => ∃ (b : Addr) (kb : ClassId), v = some (.ref b) ∧ h.size ≤ b ∧ n0 ≤ b ∧ Keep h h' [] ∧ Arv Z h' b kb .byte (1 : Int32) (bsOf (cs.take 1)) (.int 0)) := by
  refine Ct.intro (plainFor_of_name pn9) O cx.ew ?_
  intro p_ e_ s_ m_ bl_ mt_ c_ T0 W0 hby hml hret hnm
  refine Go.st (fun t_ k_ => castTop (g' := mkF m_ 0 #[.val (.ref t), .val (.int (0 : Int32)), .val (.int (1 : Int32)), .unset, .unset] []) (by first | (simp [entryFrame, mkF, argsToLocals, Value.category]; done) | rfl) k_) ?_
  show Go p_ e_ bl_ _ (T0.setTop (mkF m_ 0 #[.val (.ref t), .val (.int (0 : Int32)), .val (.int (1 : Int32)), .unset, .unset] []))
  have K0 : Keep h h [] := Keep.refl _ _
  refine Go.st (fun _ => XS.iloadN W0.here W0.ex rfl (hb hby d40_0) rfl) ?_
  show Go p_ e_ bl_ _ (T0.setTop (mkF m_ 1 #[.val (.ref t), .val (.int (0 : Int32)), .val (.int (1 : Int32)), .unset, .unset] [(.int (0 : Int32))]))
  refine Go.st (fun _ => XS.iloadN W0.here W0.ex rfl (hb hby d40_1) rfl) ?_
  show Go p_ e_ bl_ _ (T0.setTop (mkF m_ 2 #[.val (.ref t), .val (.int (0 : Int32)), .val (.int (1 : Int32)), .unset, .unset] [(.int (1 : Int32)), (.int (0 : Int32))]))
  refine W0.callS (y := (⟨"java/util/Arrays", "checkLength", "(II)V"⟩ : MethodName)) (cx.w 233 rfl) (cx.w 234 rfl) (cx.w 228 rfl) (cx.w 235 rfl) (by decide) (ct_ckl_1 cx W0.old ) all0 (by decide) (Wd := 0) (by decide) (k' := 0) (n' := 0) rfl rfl (by decide) (by decide) (by rw [hml]; rfl) (argsL := [(.int (0 : Int32)), (.int (1 : Int32))]) (rest := []) rfl (lenOf pd15 rfl) rfl (Nat.le_of_eq rfl) (hb hby d40_2) ?_
  intro v1 vm1 T1 h1 L1 W1 q1
  obtain ⟨rfl, eh_⟩ := q1
  subst h1
  show Go p_ e_ bl_ _ (T1.setTop (mkF m_ 5 #[.val (.ref t), .val (.int (0 : Int32)), .val (.int (1 : Int32)), .unset, .unset] []))
  refine Go.st (fun _ => XS.iloadN W1.here W1.ex rfl (hb hby d40_5) rfl) ?_
  show Go p_ e_ bl_ _ (T1.setTop (mkF m_ 6 #[.val (.ref t), .val (.int (0 : Int32)), .val (.int (1 : Int32)), .unset, .unset] [(.int (1 : Int32))]))
  refine Go.st (fun _ => XS.iloadN W1.here W1.ex rfl (hb hby d40_6) rfl) ?_
  show Go p_ e_ bl_ _ (T1.setTop (mkF m_ 7 #[.val (.ref t), .val (.int (0 : Int32)), .val (.int (1 : Int32)), .unset, .unset] [(.int (0 : Int32)), (.int (1 : Int32))]))
  refine Go.st (fun _ => XS.isub W1.here W1.ex rfl (hb hby d40_7) rfl) ?_
  show Go p_ e_ bl_ _ (T1.setTop (mkF m_ 8 #[.val (.ref t), .val (.int (0 : Int32)), .val (.int (1 : Int32)), .unset, .unset] [(.int ((1 : Int32) - (0 : Int32)))]))
  show Go p_ e_ bl_ _ (T1.setTop (mkF m_ 8 #[.val (.ref t), .val (.int (0 : Int32)), .val (.int (1 : Int32)), .unset, .unset] [(.int (1 : Int32))]))
  refine Go.st (fun _ => XS.istoreN W1.here W1.ex rfl (hb hby d40_8) rfl (l' := #[.val (.ref t), .val (.int (0 : Int32)), .val (.int (1 : Int32)), .val (.int (1 : Int32)), .unset]) rfl) ?_
  show Go p_ e_ bl_ _ (T1.setTop (mkF m_ 9 #[.val (.ref t), .val (.int (0 : Int32)), .val (.int (1 : Int32)), .val (.int (1 : Int32)), .unset] []))
  refine Go.st (fun _ => XS.iloadN W1.here W1.ex rfl (hb hby d40_9) rfl) ?_
  show Go p_ e_ bl_ _ (T1.setTop (mkF m_ 10 #[.val (.ref t), .val (.int (0 : Int32)), .val (.int (1 : Int32)), .val (.int (1 : Int32)), .unset] [(.int (1 : Int32))]))
  refine W1.newP (ty := .byte) (dv := .int 0) rfl rfl (cx.w 23 rfl) (hb hby d40_10) (z := (1 : Int32)) (by decide) (cap := 1) (by decide) (by decide) (k' := 1) (n' := 1) rfl rfl (by decide) (by decide) ?_
  intro T2 h2 b2 kA_b2 hb2 g_b2 W2 E2 V_b2
  have ne_t_b2 : t ≠ b2 := Nat.ne_of_lt (Nat.lt_of_lt_of_le V_t.lt (Nat.le_of_eq hb2.symm))
  have sz_b2 : h.size ≤ b2 := Nat.le_trans K0.1 (Nat.le_of_eq hb2.symm)
  replace V_t := V_t.ext E2
  replace K0 := K0.ext E2
  replace V_b2 : Arv Z h2 b2 kA_b2 .byte (1 : Int32) [(.int 0)] (.int 0) := V_b2
  show Go p_ e_ bl_ _ (T2.setTop (mkF m_ 12 #[.val (.ref t), .val (.int (0 : Int32)), .val (.int (1 : Int32)), .val (.int (1 : Int32)), .unset] [(.ref b2)]))
  refine Go.st (fun _ => XS.astore W2.here W2.ex rfl (hb hby d40_12) rfl rfl (l' := #[.val (.ref t), .val (.int (0 : Int32)), .val (.int (1 : Int32)), .val (.int (1 : Int32)), .val (.ref b2)]) rfl) ?_
  show Go p_ e_ bl_ _ (T2.setTop (mkF m_ 14 #[.val (.ref t), .val (.int (0 : Int32)), .val (.int (1 : Int32)), .val (.int (1 : Int32)), .val (.ref b2)] []))
  refine Go.st (fun _ => XS.aloadN W2.here W2.ex rfl (hb hby d40_14) rfl rfl) ?_
  show Go p_ e_ bl_ _ (T2.setTop (mkF m_ 15 #[.val (.ref t), .val (.int (0 : Int32)), .val (.int (1 : Int32)), .val (.int (1 : Int32)), .val (.ref b2)] [(.ref t)]))
  refine Go.st (fun _ => XS.iloadN W2.here W2.ex rfl (hb hby d40_15) rfl) ?_
  show Go p_ e_ bl_ _ (T2.setTop (mkF m_ 16 #[.val (.ref t), .val (.int (0 : Int32)), .val (.int (1 : Int32)), .val (.int (1 : Int32)), .val (.ref b2)] [(.int (0 : Int32)), (.ref t)]))
  refine Go.st (fun _ => XS.aload W2.here W2.ex rfl (hb hby d40_16) rfl rfl) ?_
  show Go p_ e_ bl_ _ (T2.setTop (mkF m_ 18 #[.val (.ref t), .val (.int (0 : Int32)), .val (.int (1 : Int32)), .val (.int (1 : Int32)), .val (.ref b2)] [(.ref b2), (.int (0 : Int32)), (.ref t)]))
  refine Go.st (fun _ => XS.iconst W2.here W2.ex rfl (hb hby d40_18)) ?_
  show Go p_ e_ bl_ _ (T2.setTop (mkF m_ 19 #[.val (.ref t), .val (.int (0 : Int32)), .val (.int (1 : Int32)), .val (.int (1 : Int32)), .val (.ref b2)] [(.int (0 : Int32)), (.ref b2), (.int (0 : Int32)), (.ref t)]))
  refine Go.st (fun _ => XS.aloadN W2.here W2.ex rfl (hb hby d40_19) rfl rfl) ?_
  show Go p_ e_ bl_ _ (T2.setTop (mkF m_ 20 #[.val (.ref t), .val (.int (0 : Int32)), .val (.int (1 : Int32)), .val (.int (1 : Int32)), .val (.ref b2)] [(.ref t), (.int (0 : Int32)), (.ref b2), (.int (0 : Int32)), (.ref t)]))
  refine W2.alen V_t (hb hby d40_20) ?_
  show Go p_ e_ bl_ _ (T2.setTop (mkF m_ 21 #[.val (.ref t), .val (.int (0 : Int32)), .val (.int (1 : Int32)), .val (.int (1 : Int32)), .val (.ref b2)] [(.int (Int32.ofNat cs.length)), (.int (0 : Int32)), (.ref b2), (.int (0 : Int32)), (.ref t)]))
  refine Go.st (fun _ => XS.iloadN W2.here W2.ex rfl (hb hby d40_21) rfl) ?_
  show Go p_ e_ bl_ _ (T2.setTop (mkF m_ 22 #[.val (.ref t), .val (.int (0 : Int32)), .val (.int (1 : Int32)), .val (.int (1 : Int32)), .val (.ref b2)] [(.int (0 : Int32)), (.int (Int32.ofNat cs.length)), (.int (0 : Int32)), (.ref b2), (.int (0 : Int32)), (.ref t)]))
  refine Go.st (fun _ => XS.isub W2.here W2.ex rfl (hb hby d40_22) rfl) ?_
  show Go p_ e_ bl_ _ (T2.setTop (mkF m_ 23 #[.val (.ref t), .val (.int (0 : Int32)), .val (.int (1 : Int32)), .val (.int (1 : Int32)), .val (.ref b2)] [(.int ((Int32.ofNat cs.length) - (0 : Int32))), (.int (0 : Int32)), (.ref b2), (.int (0 : Int32)), (.ref t)]))
  refine Go.st (fun _ => XS.iloadN W2.here W2.ex rfl (hb hby d40_23) rfl) ?_
  show Go p_ e_ bl_ _ (T2.setTop (mkF m_ 24 #[.val (.ref t), .val (.int (0 : Int32)), .val (.int (1 : Int32)), .val (.int (1 : Int32)), .val (.ref b2)] [(.int (1 : Int32)), (.int ((Int32.ofNat cs.length) - (0 : Int32))), (.int (0 : Int32)), (.ref b2), (.int (0 : Int32)), (.ref t)]))
  refine W2.callS (y := (⟨"java/lang/Math", "min", "(II)I"⟩ : MethodName)) (cx.w 236 rfl) (cx.w 184 rfl) (cx.w 80 rfl) (cx.w 185 rfl) (by decide) (ct_min_1 cx W2.old ((Int32.ofNat cs.length) - (0 : Int32)) (sub0_lt (len_lt hl hk).1)) all0 (by decide) (Wd := 4) (by decide) (k' := 1) (n' := 1) rfl rfl (by decide) (by decide) (by rw [hml]; rfl) (argsL := [(.int ((Int32.ofNat cs.length) - (0 : Int32))), (.int (1 : Int32))]) (rest := [(.int (0 : Int32)), (.ref b2), (.int (0 : Int32)), (.ref t)]) rfl (lenOf pd3 rfl) rfl (Nat.le_of_eq rfl) (hb hby d40_24) ?_
  intro v3 vm3 T3 h3 L3 W3 q3
  obtain ⟨rfl, eh_⟩ := q3
  subst h3
  show Go p_ e_ bl_ _ (T3.setTop (mkF m_ 27 #[.val (.ref t), .val (.int (0 : Int32)), .val (.int (1 : Int32)), .val (.int (1 : Int32)), .val (.ref b2)] [(.int (1 : Int32)), (.int (0 : Int32)), (.ref b2), (.int (0 : Int32)), (.ref t)]))
  refine W3.cpP (cx.w 237 rfl) (cx.w 240 rfl) (cx.w 238 rfl) (cx.w 239 rfl) V_t V_b2 rfl (by decide) (by decide) (by decide) (by rw [clampN hl]; exact Nat.le_of_lt hk) (by decide) (us := bsOf (cs.take 1)) (take_range (Nat.le_of_lt hk)) (by decide) (List.mem_of_getElem? (i := 0) rfl) g_b2 (by rw [hml]; rfl) (hb hby d40_27) (by decide) (Wd := 0) (Nat.le_of_eq rfl) (by decide) ?_
  intro T4 h4 L4 W4 Kc4 V_new
  replace V_t := V_t.keep Kc4 (ninS ne_t_b2 nin0)
  replace K0 := K0.trans Kc4 (allS (Or.inr sz_b2) all0)
  replace V_b2 : Arv Z h4 b2 kA_b2 .byte (1 : Int32) (bsOf (cs.take 1)) (.int 0) := by have q : Arv Z h4 b2 kA_b2 .byte (1 : Int32) (bsOf (cs.take 1) ++ []) (.int 0) := V_new; rwa [List.append_nil] at q
  clear V_new
  show Go p_ e_ bl_ _ (T4.setTop (mkF m_ 30 #[.val (.ref t), .val (.int (0 : Int32)), .val (.int (1 : Int32)), .val (.int (1 : Int32)), .val (.ref b2)] []))
  refine Go.st (fun _ => XS.aload W4.here W4.ex rfl (hb hby d40_30) rfl rfl) ?_
  show Go p_ e_ bl_ _ (T4.setTop (mkF m_ 32 #[.val (.ref t), .val (.int (0 : Int32)), .val (.int (1 : Int32)), .val (.int (1 : Int32)), .val (.ref b2)] [(.ref b2)]))
  exact W4.retA hret rfl rfl (hb hby d40_32) (by decide) (by decide) fun _ _ => ⟨b2, _, rfl, sz_b2, g_b2, K0, V_b2⟩
set_option maxRecDepth 65536 in
set_option maxHeartbeats 40000000 in
theorem ct_cor_1 {l : Launch} {Z : State} {a0 : Array Value} {n0 : Nat} {g1 : Int32} {gf : Value} {ea : Addr} {kea : ClassId} (cx : Ctx Z a0 n0 g1 gf ea kea) {h : Heap} (O : Old Z n0 h) (t : Addr) (kt : ClassId) (cs : List Int32) (hk : 1 < cs.length) (hl : cs.length ≤ 4) (V_t : Arv Z h t kt .byte (Int32.ofNat cs.length) (bsOf cs) (.int 0)) :
    Ct l Z consts_1 n0 [] (⟨"java/util/Arrays", "copyOfRange", "([BII)[B"⟩ : MethodName) jdk_65_method_132_code 3 (some (.array .byte)) ({ frames := 2, cells := 1, slots := 1, locals := 34 } : Room) #[(.ref t), (.int (0 : Int32)), (.int (1 : Int32))] [] h (fun v _ h' => ∃ (b : Addr) (kb : ClassId), v = some (.ref b) ∧ h.size ≤ b ∧ n0 ≤ b ∧ Keep h h' [] ∧ Arv Z h' b kb .byte (1 : Int32) (bsOf (cs.take 1)) (.int 0)) := by
  refine Ct.intro (plainFor_of_name pn9) O cx.ew ?_
  intro p_ e_ s_ m_ bl_ mt_ c_ T0 W0 hby hml hret hnm
  refine Go.st (fun t_ k_ => castTop (g' := mkF m_ 0 #[.val (.ref t), .val (.int (0 : Int32)), .val (.int (1 : Int32))] []) (by first | (simp [entryFrame, mkF, argsToLocals, Value.category]; done) | rfl) k_) ?_
  show Go p_ e_ bl_ _ (T0.setTop (mkF m_ 0 #[.val (.ref t), .val (.int (0 : Int32)), .val (.int (1 : Int32))] []))
  refine Go.st (fun _ => XS.iloadN W0.here W0.ex rfl (hb hby d39_0) rfl) ?_
  show Go p_ e_ bl_ _ (T0.setTop (mkF m_ 1 #[.val (.ref t), .val (.int (0 : Int32)), .val (.int (1 : Int32))] [(.int (0 : Int32))]))
  refine Go.st (fun _ => XS.ifNo W0.here W0.ex rfl (hb hby d39_1) rfl ((if0 _ _).trans (teq (rfl : (0 : Int32) = (0 : Int32))).2)) ?_
  show Go p_ e_ bl_ _ (T0.setTop (mkF m_ 4 #[.val (.ref t), .val (.int (0 : Int32)), .val (.int (1 : Int32))] []))
  refine Go.st (fun _ => XS.iloadN W0.here W0.ex rfl (hb hby d39_4) rfl) ?_
  show Go p_ e_ bl_ _ (T0.setTop (mkF m_ 5 #[.val (.ref t), .val (.int (0 : Int32)), .val (.int (1 : Int32))] [(.int (1 : Int32))]))
  refine Go.st (fun _ => XS.aloadN W0.here W0.ex rfl (hb hby d39_5) rfl rfl) ?_
  show Go p_ e_ bl_ _ (T0.setTop (mkF m_ 6 #[.val (.ref t), .val (.int (0 : Int32)), .val (.int (1 : Int32))] [(.ref t), (.int (1 : Int32))]))
  refine W0.alen V_t (hb hby d39_6) ?_
  show Go p_ e_ bl_ _ (T0.setTop (mkF m_ 7 #[.val (.ref t), .val (.int (0 : Int32)), .val (.int (1 : Int32))] [(.int (Int32.ofNat cs.length)), (.int (1 : Int32))]))
  refine Go.st (fun _ => XS.icmpNo W0.here W0.ex rfl (hb hby d39_7) rfl (feq (ne_lt (len_lt hl hk).1 : ¬ ((1 : Int32) = (Int32.ofNat cs.length)))).1) ?_
  show Go p_ e_ bl_ _ (T0.setTop (mkF m_ 10 #[.val (.ref t), .val (.int (0 : Int32)), .val (.int (1 : Int32))] []))
  refine Go.st (fun _ => XS.aloadN W0.here W0.ex rfl (hb hby d39_10) rfl rfl) ?_
  show Go p_ e_ bl_ _ (T0.setTop (mkF m_ 11 #[.val (.ref t), .val (.int (0 : Int32)), .val (.int (1 : Int32))] [(.ref t)]))
  refine Go.st (fun _ => XS.iloadN W0.here W0.ex rfl (hb hby d39_11) rfl) ?_
  show Go p_ e_ bl_ _ (T0.setTop (mkF m_ 12 #[.val (.ref t), .val (.int (0 : Int32)), .val (.int (1 : Int32))] [(.int (0 : Int32)), (.ref t)]))
  refine Go.st (fun _ => XS.iloadN W0.here W0.ex rfl (hb hby d39_12) rfl) ?_
  show Go p_ e_ bl_ _ (T0.setTop (mkF m_ 13 #[.val (.ref t), .val (.int (0 : Int32)), .val (.int (1 : Int32))] [(.int (1 : Int32)), (.int (0 : Int32)), (.ref t)]))
  refine W0.callS (y := (⟨"java/util/Arrays", "copyOfRangeByte", "([BII)[B"⟩ : MethodName)) (cx.w 230 rfl) (cx.w 231 rfl) (cx.w 228 rfl) (cx.w 232 rfl) (by decide) (ct_corb_1 cx W0.old t kt cs hk hl V_t) all0 (by decide) (Wd := 0) (by decide) (k' := 1) (n' := 1) rfl rfl (by decide) (by decide) (by rw [hml]; rfl) (argsL := [(.ref t), (.int (0 : Int32)), (.int (1 : Int32))]) (rest := []) rfl (lenOf pd16 rfl) rfl (Nat.le_of_eq rfl) (hb hby d39_13) ?_
  intro v1 vm1 T1 h1 L1 W1 q1
  obtain ⟨b, kb, rfl, hz_b, g_b, K1, V_b⟩ := q1
  show Go p_ e_ bl_ _ (T1.setTop (mkF m_ 16 #[.val (.ref t), .val (.int (0 : Int32)), .val (.int (1 : Int32))] [(.ref b)]))
  exact W1.retA hret rfl rfl (hb hby d39_16) (by decide) (by decide) fun _ _ => ⟨b, kb, rfl, hz_b, g_b, K1, V_b⟩
set_option maxRecDepth 65536 in
set_option maxHeartbeats 40000000 in
theorem ct_min_2 {l : Launch} {Z : State} {a0 : Array Value} {n0 : Nat} {g1 : Int32} {gf : Value} {ea : Addr} {kea : ClassId} (cx : Ctx Z a0 n0 g1 gf ea kea) {h : Heap} (O : Old Z n0 h) (x : Int32) (q : (2 : Int32) < x) :
    Ct l Z consts_1 n0 [] (⟨"java/lang/Math", "min", "(II)I"⟩ : MethodName) jdk_29_method_69_code 2 (some .int) ({ frames := 0, cells := 0, slots := 0, locals := 0 } : Room) #[(.int x), (.int (2 : Int32))] [] h (fun v _ h' => v = some (.int 2) ∧ h' = h) := by
  refine Ct.intro (Jvm.Free.JP.mathPlain rfl (by decide +kernel)) O cx.ew ?_
  intro p_ e_ s_ m_ bl_ mt_ c_ T0 W0 hby hml hret hnm
  refine Go.st (fun t_ k_ => castTop (g' := mkF m_ 0 #[.val (.int x), .val (.int (2 : Int32))] []) (by first | (simp [entryFrame, mkF, argsToLocals, Value.category]; done) | rfl) k_) ?_
  show Go p_ e_ bl_ _ (T0.setTop (mkF m_ 0 #[.val (.int x), .val (.int (2 : Int32))] []))
  refine Go.st (fun _ => XS.iloadN W0.here W0.ex rfl (hb hby d28_0) rfl) ?_
  show Go p_ e_ bl_ _ (T0.setTop (mkF m_ 1 #[.val (.int x), .val (.int (2 : Int32))] [(.int x)]))
  refine Go.st (fun _ => XS.iloadN W0.here W0.ex rfl (hb hby d28_1) rfl) ?_
  show Go p_ e_ bl_ _ (T0.setTop (mkF m_ 2 #[.val (.int x), .val (.int (2 : Int32))] [(.int (2 : Int32)), (.int x)]))
  refine Go.st (fun _ => XS.icmpYes W0.here W0.ex rfl (pc0 := 2) (pc' := 9) rfl (hb hby d28_2) rfl (tlt (q : (2 : Int32) < x)).2.2.1 (by decide) (by decide)) ?_
  show Go p_ e_ bl_ _ (T0.setTop (mkF m_ 9 #[.val (.int x), .val (.int (2 : Int32))] []))
  refine Go.st (fun _ => XS.iloadN W0.here W0.ex rfl (hb hby d28_9) rfl) ?_
  show Go p_ e_ bl_ _ (T0.setTop (mkF m_ 10 #[.val (.int x), .val (.int (2 : Int32))] [(.int (2 : Int32))]))
  exact W0.retI hret (hb hby d28_10) (by decide) (by decide) fun _ _ => ⟨rfl, rfl⟩
set_option maxRecDepth 65536 in
set_option maxHeartbeats 40000000 in
theorem ct_ckl_2 {l : Launch} {Z : State} {a0 : Array Value} {n0 : Nat} {g1 : Int32} {gf : Value} {ea : Addr} {kea : ClassId} (cx : Ctx Z a0 n0 g1 gf ea kea) {h : Heap} (O : Old Z n0 h)   :
    Ct l Z consts_1 n0 [] (⟨"java/util/Arrays", "checkLength", "(II)V"⟩ : MethodName) jdk_65_method_131_code 2 none ({ frames := 0, cells := 0, slots := 0, locals := 0 } : Room) #[(.int (0 : Int32)), (.int (2 : Int32))] [] h (fun v _ h' => v = none ∧ h' = h) := by
  refine Ct.intro (plainFor_of_name pn9) O cx.ew ?_
  intro p_ e_ s_ m_ bl_ mt_ c_ T0 W0 hby hml hret hnm
  refine Go.st (fun t_ k_ => castTop (g' := mkF m_ 0 #[.val (.int (0 : Int32)), .val (.int (2 : Int32))] []) (by first | (simp [entryFrame, mkF, argsToLocals, Value.category]; done) | rfl) k_) ?_
  show Go p_ e_ bl_ _ (T0.setTop (mkF m_ 0 #[.val (.int (0 : Int32)), .val (.int (2 : Int32))] []))
  refine Go.st (fun _ => XS.iloadN W0.here W0.ex rfl (hb hby d41_0) rfl) ?_
  show Go p_ e_ bl_ _ (T0.setTop (mkF m_ 1 #[.val (.int (0 : Int32)), .val (.int (2 : Int32))] [(.int (2 : Int32))]))
  refine Go.st (fun _ => XS.iloadN W0.here W0.ex rfl (hb hby d41_1) rfl) ?_
  show Go p_ e_ bl_ _ (T0.setTop (mkF m_ 2 #[.val (.int (0 : Int32)), .val (.int (2 : Int32))] [(.int (0 : Int32)), (.int (2 : Int32))]))
  refine Go.st (fun _ => XS.icmpYes W0.here W0.ex rfl (pc0 := 2) (pc' := 37) rfl (hb hby d41_2) rfl (flt ((by decide) : ¬ ((2 : Int32) < (0 : Int32)))).2.1 (by decide) (by decide)) ?_
  show Go p_ e_ bl_ _ (T0.setTop (mkF m_ 37 #[.val (.int (0 : Int32)), .val (.int (2 : Int32))] []))
  exact W0.retV hret (hb hby d41_37) (by decide) (by decide) fun _ _ => ⟨rfl, rfl⟩
set_option maxRecDepth 65536 in
set_option maxHeartbeats 40000000 in
theorem ct_corb_2 {l : Launch} {Z : State} {a0 : Array Value} {n0 : Nat} {g1 : Int32} {gf : Value} {ea : Addr} {kea : ClassId} (cx : Ctx Z a0 n0 g1 gf ea kea) {h : Heap} (O : Old Z n0 h) (t : Addr) (kt : ClassId) (cs : List Int32) (hk : 2 < cs.length) (hl : cs.length ≤ 4) (V_t : Arv Z h t kt .byte (Int32.ofNat cs.length) (bsOf cs) (.int 0)) :
    Ct l Z consts_1 n0 [] (⟨"java/util/Arrays", "copyOfRangeByte", "([BII)[B"⟩ : MethodName) jdk_65_method_133_code 5 (some (.array .byte)) ({ frames := 1, cells := 1, slots := 2, locals := 18 } : Room) #[(.ref t), (.int (0 : Int32)), (.int (2 : Int32))] [] h (fun v _ h' => ∃ (b : Addr) (kb : ClassId), v = some (.ref b) ∧ h.size ≤ b ∧ n0 ≤ b ∧ Keep h h' [] ∧ Arv Z h' b kb .byte (2 : Int32) (bsOf (cs.take 2)) (.int 0)) := by
  refine Ct.intro (plainFor_of_name pn9) O cx.ew ?_
  intro p_ e_ s_ m_ bl_ mt_ c_ T0 W0 hby hml hret hnm
  refine Go.st (fun t_ k_ => castTop (g' := mkF m_ 0 #[.val (.ref t), .val (.int (0 : Int32)), .val (.int (2 : Int32)), .unset, .unset] []) (by first | (simp [entryFrame, mkF, argsToLocals, Value.category]; done) | rfl) k_) ?_
  show Go p_ e_ bl_ _ (T0.setTop (mkF m_ 0 #[.val (.ref t), .val (.int (0 : Int32)), .val (.int (2 : Int32)), .unset, .unset] []))
  have K0 : Keep h h [] := Keep.refl _ _
  refine Go.st (fun _ => XS.iloadN W0.here W0.ex rfl (hb hby d40_0) rfl) ?_
  show Go p_ e_ bl_ _ (T0.setTop (mkF m_ 1 #[.val (.ref t), .val (.int (0 : Int32)), .val (.int (2 : Int32)), .unset, .unset] [(.int (0 : Int32))]))
  refine Go.st (fun _ => XS.iloadN W0.here W0.ex rfl (hb hby d40_1) rfl) ?_
  show Go p_ e_ bl_ _ (T0.setTop (mkF m_ 2 #[.val (.ref t), .val (.int (0 : Int32)), .val (.int (2 : Int32)), .unset, .unset] [(.int (2 : Int32)), (.int (0 : Int32))]))
  refine W0.callS (y := (⟨"java/util/Arrays", "checkLength", "(II)V"⟩ : MethodName)) (cx.w 233 rfl) (cx.w 234 rfl) (cx.w 228 rfl) (cx.w 235 rfl) (by decide) (ct_ckl_2 cx W0.old ) all0 (by decide) (Wd := 0) (by decide) (k' := 0) (n' := 0) rfl rfl (by decide) (by decide) (by rw [hml]; rfl) (argsL := [(.int (0 : Int32)), (.int (2 : Int32))]) (rest := []) rfl (lenOf pd15 rfl) rfl (Nat.le_of_eq rfl) (hb hby d40_2) ?_
  intro v1 vm1 T1 h1 L1 W1 q1
  obtain ⟨rfl, eh_⟩ := q1
  subst h1
  show Go p_ e_ bl_ _ (T1.setTop (mkF m_ 5 #[.val (.ref t), .val (.int (0 : Int32)), .val (.int (2 : Int32)), .unset, .unset] []))
  refine Go.st (fun _ => XS.iloadN W1.here W1.ex rfl (hb hby d40_5) rfl) ?_
  show Go p_ e_ bl_ _ (T1.setTop (mkF m_ 6 #[.val (.ref t), .val (.int (0 : Int32)), .val (.int (2 : Int32)), .unset, .unset] [(.int (2 : Int32))]))
  refine Go.st (fun _ => XS.iloadN W1.here W1.ex rfl (hb hby d40_6) rfl) ?_
  show Go p_ e_ bl_ _ (T1.setTop (mkF m_ 7 #[.val (.ref t), .val (.int (0 : Int32)), .val (.int (2 : Int32)), .unset, .unset] [(.int (0 : Int32)), (.int (2 : Int32))]))
  refine Go.st (fun _ => XS.isub W1.here W1.ex rfl (hb hby d40_7) rfl) ?_
  show Go p_ e_ bl_ _ (T1.setTop (mkF m_ 8 #[.val (.ref t), .val (.int (0 : Int32)), .val (.int (2 : Int32)), .unset, .unset] [(.int ((2 : Int32) - (0 : Int32)))]))
  show Go p_ e_ bl_ _ (T1.setTop (mkF m_ 8 #[.val (.ref t), .val (.int (0 : Int32)), .val (.int (2 : Int32)), .unset, .unset] [(.int (2 : Int32))]))
  refine Go.st (fun _ => XS.istoreN W1.here W1.ex rfl (hb hby d40_8) rfl (l' := #[.val (.ref t), .val (.int (0 : Int32)), .val (.int (2 : Int32)), .val (.int (2 : Int32)), .unset]) rfl) ?_
  show Go p_ e_ bl_ _ (T1.setTop (mkF m_ 9 #[.val (.ref t), .val (.int (0 : Int32)), .val (.int (2 : Int32)), .val (.int (2 : Int32)), .unset] []))
  refine Go.st (fun _ => XS.iloadN W1.here W1.ex rfl (hb hby d40_9) rfl) ?_
  show Go p_ e_ bl_ _ (T1.setTop (mkF m_ 10 #[.val (.ref t), .val (.int (0 : Int32)), .val (.int (2 : Int32)), .val (.int (2 : Int32)), .unset] [(.int (2 : Int32))]))
  refine W1.newP (ty := .byte) (dv := .int 0) rfl rfl (cx.w 23 rfl) (hb hby d40_10) (z := (2 : Int32)) (by decide) (cap := 2) (by decide) (by decide) (k' := 1) (n' := 2) rfl rfl (by decide) (by decide) ?_
  intro T2 h2 b2 kA_b2 hb2 g_b2 W2 E2 V_b2
  have ne_t_b2 : t ≠ b2 := Nat.ne_of_lt (Nat.lt_of_lt_of_le V_t.lt (Nat.le_of_eq hb2.symm))
  have sz_b2 : h.size ≤ b2 := Nat.le_trans K0.1 (Nat.le_of_eq hb2.symm)
  replace V_t := V_t.ext E2
  replace K0 := K0.ext E2
  replace V_b2 : Arv Z h2 b2 kA_b2 .byte (2 : Int32) [(.int 0), (.int 0)] (.int 0) := V_b2
  show Go p_ e_ bl_ _ (T2.setTop (mkF m_ 12 #[.val (.ref t), .val (.int (0 : Int32)), .val (.int (2 : Int32)), .val (.int (2 : Int32)), .unset] [(.ref b2)]))
  refine Go.st (fun _ => XS.astore W2.here W2.ex rfl (hb hby d40_12) rfl rfl (l' := #[.val (.ref t), .val (.int (0 : Int32)), .val (.int (2 : Int32)), .val (.int (2 : Int32)), .val (.ref b2)]) rfl) ?_
  show Go p_ e_ bl_ _ (T2.setTop (mkF m_ 14 #[.val (.ref t), .val (.int (0 : Int32)), .val (.int (2 : Int32)), .val (.int (2 : Int32)), .val (.ref b2)] []))
  refine Go.st (fun _ => XS.aloadN W2.here W2.ex rfl (hb hby d40_14) rfl rfl) ?_
  show Go p_ e_ bl_ _ (T2.setTop (mkF m_ 15 #[.val (.ref t), .val (.int (0 : Int32)), .val (.int (2 : Int32)), .val (.int (2 : Int32)), .val (.ref b2)] [(.ref t)]))
  refine Go.st (fun _ => XS.iloadN W2.here W2.ex rfl (hb hby d40_15) rfl) ?_
  show Go p_ e_ bl_ _ (T2.setTop (mkF m_ 16 #[.val (.ref t), .val (.int (0 : Int32)), .val (.int (2 : Int32)), .val (.int (2 : Int32)), .val (.ref b2)] [(.int (0 : Int32)), (.ref t)]))
  refine Go.st (fun _ => XS.aload W2.here W2.ex rfl (hb hby d40_16) rfl rfl) ?_
  show Go p_ e_ bl_ _ (T2.setTop (mkF m_ 18 #[.val (.ref t), .val (.int (0 : Int32)), .val (.int (2 : Int32)), .val (.int (2 : Int32)), .val (.ref b2)] [(.ref b2), (.int (0 : Int32)), (.ref t)]))
  refine Go.st (fun _ => XS.iconst W2.here W2.ex rfl (hb hby d40_18)) ?_
  show Go p_ e_ bl_ _ (T2.setTop (mkF m_ 19 #[.val (.ref t), .val (.int (0 : Int32)), .val (.int (2 : Int32)), .val (.int (2 : Int32)), .val (.ref b2)] [(.int (0 : Int32)), (.ref b2), (.int (0 : Int32)), (.ref t)]))
  refine Go.st (fun _ => XS.aloadN W2.here W2.ex rfl (hb hby d40_19) rfl rfl) ?_
  show Go p_ e_ bl_ _ (T2.setTop (mkF m_ 20 #[.val (.ref t), .val (.int (0 : Int32)), .val (.int (2 : Int32)), .val (.int (2 : Int32)), .val (.ref b2)] [(.ref t), (.int (0 : Int32)), (.ref b2), (.int (0 : Int32)), (.ref t)]))
  refine W2.alen V_t (hb hby d40_20) ?_
  show Go p_ e_ bl_ _ (T2.setTop (mkF m_ 21 #[.val (.ref t), .val (.int (0 : Int32)), .val (.int (2 : Int32)), .val (.int (2 : Int32)), .val (.ref b2)] [(.int (Int32.ofNat cs.length)), (.int (0 : Int32)), (.ref b2), (.int (0 : Int32)), (.ref t)]))
  refine Go.st (fun _ => XS.iloadN W2.here W2.ex rfl (hb hby d40_21) rfl) ?_
  show Go p_ e_ bl_ _ (T2.setTop (mkF m_ 22 #[.val (.ref t), .val (.int (0 : Int32)), .val (.int (2 : Int32)), .val (.int (2 : Int32)), .val (.ref b2)] [(.int (0 : Int32)), (.int (Int32.ofNat cs.length)), (.int (0 : Int32)), (.ref b2), (.int (0 : Int32)), (.ref t)]))
  refine Go.st (fun _ => XS.isub W2.here W2.ex rfl (hb hby d40_22) rfl) ?_
  show Go p_ e_ bl_ _ (T2.setTop (mkF m_ 23 #[.val (.ref t), .val (.int (0 : Int32)), .val (.int (2 : Int32)), .val (.int (2 : Int32)), .val (.ref b2)] [(.int ((Int32.ofNat cs.length) - (0 : Int32))), (.int (0 : Int32)), (.ref b2), (.int (0 : Int32)), (.ref t)]))
  refine Go.st (fun _ => XS.iloadN W2.here W2.ex rfl (hb hby d40_23) rfl) ?_
  show Go p_ e_ bl_ _ (T2.setTop (mkF m_ 24 #[.val (.ref t), .val (.int (0 : Int32)), .val (.int (2 : Int32)), .val (.int (2 : Int32)), .val (.ref b2)] [(.int (2 : Int32)), (.int ((Int32.ofNat cs.length) - (0 : Int32))), (.int (0 : Int32)), (.ref b2), (.int (0 : Int32)), (.ref t)]))
  refine W2.callS (y := (⟨"java/lang/Math", "min", "(II)I"⟩ : MethodName)) (cx.w 236 rfl) (cx.w 184 rfl) (cx.w 80 rfl) (cx.w 185 rfl) (by decide) (ct_min_2 cx W2.old ((Int32.ofNat cs.length) - (0 : Int32)) (sub0_lt (len_lt hl hk).1)) all0 (by decide) (Wd := 4) (by decide) (k' := 1) (n' := 2) rfl rfl (by decide) (by decide) (by rw [hml]; rfl) (argsL := [(.int ((Int32.ofNat cs.length) - (0 : Int32))), (.int (2 : Int32))]) (rest := [(.int (0 : Int32)), (.ref b2), (.int (0 : Int32)), (.ref t)]) rfl (lenOf pd3 rfl) rfl (Nat.le_of_eq rfl) (hb hby d40_24) ?_
  intro v3 vm3 T3 h3 L3 W3 q3
  obtain ⟨rfl, eh_⟩ := q3
  subst h3
  show Go p_ e_ bl_ _ (T3.setTop (mkF m_ 27 #[.val (.ref t), .val (.int (0 : Int32)), .val (.int (2 : Int32)), .val (.int (2 : Int32)), .val (.ref b2)] [(.int (2 : Int32)), (.int (0 : Int32)), (.ref b2), (.int (0 : Int32)), (.ref t)]))
  refine W3.cpP (cx.w 237 rfl) (cx.w 240 rfl) (cx.w 238 rfl) (cx.w 239 rfl) V_t V_b2 rfl (by decide) (by decide) (by decide) (by rw [clampN hl]; exact Nat.le_of_lt hk) (by decide) (us := bsOf (cs.take 2)) (take_range (Nat.le_of_lt hk)) (by decide) (List.mem_of_getElem? (i := 0) rfl) g_b2 (by rw [hml]; rfl) (hb hby d40_27) (by decide) (Wd := 0) (Nat.le_of_eq rfl) (by decide) ?_
  intro T4 h4 L4 W4 Kc4 V_new
  replace V_t := V_t.keep Kc4 (ninS ne_t_b2 nin0)
  replace K0 := K0.trans Kc4 (allS (Or.inr sz_b2) all0)
  replace V_b2 : Arv Z h4 b2 kA_b2 .byte (2 : Int32) (bsOf (cs.take 2)) (.int 0) := by have q : Arv Z h4 b2 kA_b2 .byte (2 : Int32) (bsOf (cs.take 2) ++ []) (.int 0) := V_new; rwa [List.append_nil] at q
  clear V_new
  show Go p_ e_ bl_ _ (T4.setTop (mkF m_ 30 #[.val (.ref t), .val (.int (0 : Int32)), .val (.int (2 : Int32)), .val (.int (2 : Int32)), .val (.ref b2)] []))
  refine Go.st (fun _ => XS.aload W4.here W4.ex rfl (hb hby d40_30) rfl rfl) ?_
  show Go p_ e_ bl_ _ (T4.setTop (mkF m_ 32 #[.val (.ref t), .val (.int (0 : Int32)), .val (.int (2 : Int32)), .val (.int (2 : Int32)), .val (.ref b2)] [(.ref b2)]))
  exact W4.retA hret rfl rfl (hb hby d40_32) (by decide) (by decide) fun _ _ => ⟨b2, _, rfl, sz_b2, g_b2, K0, V_b2⟩
set_option maxRecDepth 65536 in
set_option maxHeartbeats 40000000 in
theorem ct_cor_2 {l : Launch} {Z : State} {a0 : Array Value} {n0 : Nat} {g1 : Int32} {gf : Value} {ea : Addr} {kea : ClassId} (cx : Ctx Z a0 n0 g1 gf ea kea) {h : Heap} (O : Old Z n0 h) (t : Addr) (kt : ClassId) (cs : List Int32) (hk : 2 < cs.length) (hl : cs.length ≤ 4) (V_t : Arv Z h t kt .byte (Int32.ofNat cs.length) (bsOf cs) (.int 0)) :
    Ct l Z consts_1 n0 [] (⟨"java/util/Arrays", "copyOfRange", "([BII)[B"⟩ : MethodName) jdk_65_method_132_code 3 (some (.array .byte)) ({ frames := 2, cells := 1, slots := 2, locals := 34 } : Room) #[(.ref t), (.int (0 : Int32)), (.int (2 : Int32))] [] h (fun v _ h' => ∃ (b : Addr) (kb : ClassId), v = some (.ref b) ∧ h.size ≤ b ∧ n0 ≤ b ∧ Keep h h' [] ∧ Arv Z h' b kb .byte (2 : Int32) (bsOf (cs.take 2)) (.int 0)) := by
  refine Ct.intro (plainFor_of_name pn9) O cx.ew ?_
  intro p_ e_ s_ m_ bl_ mt_ c_ T0 W0 hby hml hret hnm
  refine Go.st (fun t_ k_ => castTop (g' := mkF m_ 0 #[.val (.ref t), .val (.int (0 : Int32)), .val (.int (2 : Int32))] []) (by first | (simp [entryFrame, mkF, argsToLocals, Value.category]; done) | rfl) k_) ?_
  show Go p_ e_ bl_ _ (T0.setTop (mkF m_ 0 #[.val (.ref t), .val (.int (0 : Int32)), .val (.int (2 : Int32))] []))
  refine Go.st (fun _ => XS.iloadN W0.here W0.ex rfl (hb hby d39_0) rfl) ?_
  show Go p_ e_ bl_ _ (T0.setTop (mkF m_ 1 #[.val (.ref t), .val (.int (0 : Int32)), .val (.int (2 : Int32))] [(.int (0 : Int32))]))
  refine Go.st (fun _ => XS.ifNo W0.here W0.ex rfl (hb hby d39_1) rfl ((if0 _ _).trans (teq (rfl : (0 : Int32) = (0 : Int32))).2)) ?_
  show Go p_ e_ bl_ _ (T0.setTop (mkF m_ 4 #[.val (.ref t), .val (.int (0 : Int32)), .val (.int (2 : Int32))] []))
  refine Go.st (fun _ => XS.iloadN W0.here W0.ex rfl (hb hby d39_4) rfl) ?_
  show Go p_ e_ bl_ _ (T0.setTop (mkF m_ 5 #[.val (.ref t), .val (.int (0 : Int32)), .val (.int (2 : Int32))] [(.int (2 : Int32))]))
  refine Go.st (fun _ => XS.aloadN W0.here W0.ex rfl (hb hby d39_5) rfl rfl) ?_
  show Go p_ e_ bl_ _ (T0.setTop (mkF m_ 6 #[.val (.ref t), .val (.int (0 : Int32)), .val (.int (2 : Int32))] [(.ref t), (.int (2 : Int32))]))
  refine W0.alen V_t (hb hby d39_6) ?_
  show Go p_ e_ bl_ _ (T0.setTop (mkF m_ 7 #[.val (.ref t), .val (.int (0 : Int32)), .val (.int (2 : Int32))] [(.int (Int32.ofNat cs.length)), (.int (2 : Int32))]))
  refine Go.st (fun _ => XS.icmpNo W0.here W0.ex rfl (hb hby d39_7) rfl (feq (ne_lt (len_lt hl hk).1 : ¬ ((2 : Int32) = (Int32.ofNat cs.length)))).1) ?_
  show Go p_ e_ bl_ _ (T0.setTop (mkF m_ 10 #[.val (.ref t), .val (.int (0 : Int32)), .val (.int (2 : Int32))] []))
  refine Go.st (fun _ => XS.aloadN W0.here W0.ex rfl (hb hby d39_10) rfl rfl) ?_
  show Go p_ e_ bl_ _ (T0.setTop (mkF m_ 11 #[.val (.ref t), .val (.int (0 : Int32)), .val (.int (2 : Int32))] [(.ref t)]))
  refine Go.st (fun _ => XS.iloadN W0.here W0.ex rfl (hb hby d39_11) rfl) ?_
  show Go p_ e_ bl_ _ (T0.setTop (mkF m_ 12 #[.val (.ref t), .val (.int (0 : Int32)), .val (.int (2 : Int32))] [(.int (0 : Int32)), (.ref t)]))
  refine Go.st (fun _ => XS.iloadN W0.here W0.ex rfl (hb hby d39_12) rfl) ?_
  show Go p_ e_ bl_ _ (T0.setTop (mkF m_ 13 #[.val (.ref t), .val (.int (0 : Int32)), .val (.int (2 : Int32))] [(.int (2 : Int32)), (.int (0 : Int32)), (.ref t)]))
  refine W0.callS (y := (⟨"java/util/Arrays", "copyOfRangeByte", "([BII)[B"⟩ : MethodName)) (cx.w 230 rfl) (cx.w 231 rfl) (cx.w 228 rfl) (cx.w 232 rfl) (by decide) (ct_corb_2 cx W0.old t kt cs hk hl V_t) all0 (by decide) (Wd := 0) (by decide) (k' := 1) (n' := 2) rfl rfl (by decide) (by decide) (by rw [hml]; rfl) (argsL := [(.ref t), (.int (0 : Int32)), (.int (2 : Int32))]) (rest := []) rfl (lenOf pd16 rfl) rfl (Nat.le_of_eq rfl) (hb hby d39_13) ?_
  intro v1 vm1 T1 h1 L1 W1 q1
  obtain ⟨b, kb, rfl, hz_b, g_b, K1, V_b⟩ := q1
  show Go p_ e_ bl_ _ (T1.setTop (mkF m_ 16 #[.val (.ref t), .val (.int (0 : Int32)), .val (.int (2 : Int32))] [(.ref b)]))
  exact W1.retA hret rfl rfl (hb hby d39_16) (by decide) (by decide) fun _ _ => ⟨b, kb, rfl, hz_b, g_b, K1, V_b⟩
set_option maxRecDepth 65536 in
set_option maxHeartbeats 40000000 in
theorem ct_min_3 {l : Launch} {Z : State} {a0 : Array Value} {n0 : Nat} {g1 : Int32} {gf : Value} {ea : Addr} {kea : ClassId} (cx : Ctx Z a0 n0 g1 gf ea kea) {h : Heap} (O : Old Z n0 h) (x : Int32) (q : (3 : Int32) < x) :
    Ct l Z consts_1 n0 [] (⟨"java/lang/Math", "min", "(II)I"⟩ : MethodName) jdk_29_method_69_code 2 (some .int) ({ frames := 0, cells := 0, slots := 0, locals := 0 } : Room) #[(.int x), (.int (3 : Int32))] [] h (fun v _ h' => v = some (.int 3) ∧ h' = h) := by
  refine Ct.intro (Jvm.Free.JP.mathPlain rfl (by decide +kernel)) O cx.ew ?_
  intro p_ e_ s_ m_ bl_ mt_ c_ T0 W0 hby hml hret hnm
  refine Go.st (fun t_ k_ => castTop (g' := mkF m_ 0 #[.val (.int x), .val (.int (3 : Int32))] []) (by first | (simp [entryFrame, mkF, argsToLocals, Value.category]; done) | rfl) k_) ?_
  show Go p_ e_ bl_ _ (T0.setTop (mkF m_ 0 #[.val (.int x), .val (.int (3 : Int32))] []))
  refine Go.st (fun _ => XS.iloadN W0.here W0.ex rfl (hb hby d28_0) rfl) ?_
  show Go p_ e_ bl_ _ (T0.setTop (mkF m_ 1 #[.val (.int x), .val (.int (3 : Int32))] [(.int x)]))
  refine Go.st (fun _ => XS.iloadN W0.here W0.ex rfl (hb hby d28_1) rfl) ?_
  show Go p_ e_ bl_ _ (T0.setTop (mkF m_ 2 #[.val (.int x), .val (.int (3 : Int32))] [(.int (3 : Int32)), (.int x)]))
  refine Go.st (fun _ => XS.icmpYes W0.here W0.ex rfl (pc0 := 2) (pc' := 9) rfl (hb hby d28_2) rfl (tlt (q : (3 : Int32) < x)).2.2.1 (by decide) (by decide)) ?_
  show Go p_ e_ bl_ _ (T0.setTop (mkF m_ 9 #[.val (.int x), .val (.int (3 : Int32))] []))
  refine Go.st (fun _ => XS.iloadN W0.here W0.ex rfl (hb hby d28_9) rfl) ?_
  show Go p_ e_ bl_ _ (T0.setTop (mkF m_ 10 #[.val (.int x), .val (.int (3 : Int32))] [(.int (3 : Int32))]))
  exact W0.retI hret (hb hby d28_10) (by decide) (by decide) fun _ _ => ⟨rfl, rfl⟩
set_option maxRecDepth 65536 in
set_option maxHeartbeats 40000000 in
theorem ct_ckl_3 {l : Launch} {Z : State} {a0 : Array Value} {n0 : Nat} {g1 : Int32} {gf : Value} {ea : Addr} {kea : ClassId} (cx : Ctx Z a0 n0 g1 gf ea kea) {h : Heap} (O : Old Z n0 h)   :
    Ct l Z consts_1 n0 [] (⟨"java/util/Arrays", "checkLength", "(II)V"⟩ : MethodName) jdk_65_method_131_code 2 none ({ frames := 0, cells := 0, slots := 0, locals := 0 } : Room) #[(.int (0 : Int32)), (.int (3 : Int32))] [] h (fun v _ h' => v = none ∧ h' = h) := by
  refine Ct.intro (plainFor_of_name pn9) O cx.ew ?_
  intro p_ e_ s_ m_ bl_ mt_ c_ T0 W0 hby hml hret hnm
  refine Go.st (fun t_ k_ => castTop (g' := mkF m_ 0 #[.val (.int (0 : Int32)), .val (.int (3 : Int32))] []) (by first | (simp [entryFrame, mkF, argsToLocals, Value.category]; done) | rfl) k_) ?_
  show Go p_ e_ bl_ _ (T0.setTop (mkF m_ 0 #[.val (.int (0 : Int32)), .val (.int (3 : Int32))] []))
  refine Go.st (fun _ => XS.iloadN W0.here W0.ex rfl (hb hby d41_0) rfl) ?_
  show Go p_ e_ bl_ _ (T0.setTop (mkF m_ 1 #[.val (.int (0 : Int32)), .val (.int (3 : Int32))] [(.int (3 : Int32))]))
  refine Go.st (fun _ => XS.iloadN W0.here W0.ex rfl (hb hby d41_1) rfl) ?_
  show Go p_ e_ bl_ _ (T0.setTop (mkF m_ 2 #[.val (.int (0 : Int32)), .val (.int (3 : Int32))] [(.int (0 : Int32)), (.int (3 : Int32))]))
  refine Go.st (fun _ => XS.icmpYes W0.here W0.ex rfl (pc0 := 2) (pc' := 37) rfl (hb hby d41_2) rfl (flt ((by decide) : ¬ ((3 : Int32) < (0 : Int32)))).2.1 (by decide) (by decide)) ?_
  show Go p_ e_ bl_ _ (T0.setTop (mkF m_ 37 #[.val (.int (0 : Int32)), .val (.int (3 : Int32))] []))
  exact W0.retV hret (hb hby d41_37) (by decide) (by decide) fun _ _ => ⟨rfl, rfl⟩
set_option maxRecDepth 65536 in
set_option maxHeartbeats 40000000 in
theorem ct_corb_3 {l : Launch} {Z : State} {a0 : Array Value} {n0 : Nat} {g1 : Int32} {gf : Value} {ea : Addr} {kea : ClassId} (cx : Ctx Z a0 n0 g1 gf ea kea) {h : Heap} (O : Old Z n0 h) (t : Addr) (kt : ClassId) (cs : List Int32) (hk : 3 < cs.length) (hl : cs.length ≤ 4) (V_t : Arv Z h t kt .byte (Int32.ofNat cs.length) (bsOf cs) (.int 0)) :
    Ct l Z consts_1 n0 [] (⟨"java/util/Arrays", "copyOfRangeByte", "([BII)[B"⟩ : MethodName) jdk_65_method_133_code 5 (some (.array .byte)) ({ frames := 1, cells := 1, slots := 3, locals := 18 } : Room) #[(.ref t), (.int (0 : Int32)), (.int (3 : Int32))] [] h (fun v _ h' => ∃ (b : Addr) (kb : ClassId), v = some (.ref b) ∧ h.size ≤ b ∧ n0 ≤ b ∧ Keep h h' [] ∧ Arv Z h' b kb .byte (3 : Int32) (bsOf (cs.take 3)) (.int 0)) := by
  refine Ct.intro (plainFor_of_name pn9) O cx.ew ?_
  intro p_ e_ s_ m_ bl_ mt_ c_ T0 W0 hby hml hret hnm
  refine Go.st (fun t_ k_ => castTop (g' := mkF m_ 0 #[.val (.ref t), .val (.int (0 : Int32)), .val (.int (3 : Int32)), .unset, .unset] []) (by first | (simp [entryFrame, mkF, argsToLocals, Value.category]; done) | rfl) k_) ?_
  show Go p_ e_ bl_ _ (T0.setTop (mkF m_ 0 #[.val (.ref t), .val (.int (0 : Int32)), .val (.int (3 : Int32)), .unset, .unset] []))
  have K0 : Keep h h [] := Keep.refl _ _
  refine Go.st (fun _ => XS.iloadN W0.here W0.ex rfl (hb hby d40_0) rfl) ?_
  show Go p_ e_ bl_ _ (T0.setTop (mkF m_ 1 #[.val (.ref t), .val (.int (0 : Int32)), .val (.int (3 : Int32)), .unset, .unset] [(.int (0 : Int32))]))
  refine Go.st (fun _ => XS.iloadN W0.here W0.ex rfl (hb hby d40_1) rfl) ?_
  show Go p_ e_ bl_ _ (T0.setTop (mkF m_ 2 #[.val (.ref t), .val (.int (0 : Int32)), .val (.int (3 : Int32)), .unset, .unset] [(.int (3 : Int32)), (.int (0 : Int32))]))
  refine W0.callS (y := (⟨"java/util/Arrays", "checkLength", "(II)V"⟩ : MethodName)) (cx.w 233 rfl) (cx.w 234 rfl) (cx.w 228 rfl) (cx.w 235 rfl) (by decide) (ct_ckl_3 cx W0.old ) all0 (by decide) (Wd := 0) (by decide) (k' := 0) (n' := 0) rfl rfl (by decide) (by decide) (by rw [hml]; rfl) (argsL := [(.int (0 : Int32)), (.int (3 : Int32))]) (rest := []) rfl (lenOf pd15 rfl) rfl (Nat.le_of_eq rfl) (hb hby d40_2) ?_
  intro v1 vm1 T1 h1 L1 W1 q1
  obtain ⟨rfl, eh_⟩ := q1
  subst h1
  show Go p_ e_ bl_ _ (T1.setTop (mkF m_ 5 #[.val (.ref t), .val (.int (0 : Int32)), .val (.int (3 : Int32)), .unset, .unset] []))
  refine Go.st (fun _ => XS.iloadN W1.here W1.ex rfl (hb hby d40_5) rfl) ?_
  show Go p_ e_ bl_ _ (T1.setTop (mkF m_ 6 #[.val (.ref t), .val (.int (0 : Int32)), .val (.int (3 : Int32)), .unset, .unset] [(.int (3 : Int32))]))
  refine Go.st (fun _ => XS.iloadN W1.here W1.ex rfl (hb hby d40_6) rfl) ?_
  show Go p_ e_ bl_ _ (T1.setTop (mkF m_ 7 #[.val (.ref t), .val (.int (0 : Int32)), .val (.int (3 : Int32)), .unset, .unset] [(.int (0 : Int32)), (.int (3 : Int32))]))
  refine Go.st (fun _ => XS.isub W1.here W1.ex rfl (hb hby d40_7) rfl) ?_
  show Go p_ e_ bl_ _ (T1.setTop (mkF m_ 8 #[.val (.ref t), .val (.int (0 : Int32)), .val (.int (3 : Int32)), .unset, .unset] [(.int ((3 : Int32) - (0 : Int32)))]))
  show Go p_ e_ bl_ _ (T1.setTop (mkF m_ 8 #[.val (.ref t), .val (.int (0 : Int32)), .val (.int (3 : Int32)), .unset, .unset] [(.int (3 : Int32))]))
  refine Go.st (fun _ => XS.istoreN W1.here W1.ex rfl (hb hby d40_8) rfl (l' := #[.val (.ref t), .val (.int (0 : Int32)), .val (.int (3 : Int32)), .val (.int (3 : Int32)), .unset]) rfl) ?_
  show Go p_ e_ bl_ _ (T1.setTop (mkF m_ 9 #[.val (.ref t), .val (.int (0 : Int32)), .val (.int (3 : Int32)), .val (.int (3 : Int32)), .unset] []))
  refine Go.st (fun _ => XS.iloadN W1.here W1.ex rfl (hb hby d40_9) rfl) ?_
  show Go p_ e_ bl_ _ (T1.setTop (mkF m_ 10 #[.val (.ref t), .val (.int (0 : Int32)), .val (.int (3 : Int32)), .val (.int (3 : Int32)), .unset] [(.int (3 : Int32))]))
  refine W1.newP (ty := .byte) (dv := .int 0) rfl rfl (cx.w 23 rfl) (hb hby d40_10) (z := (3 : Int32)) (by decide) (cap := 3) (by decide) (by decide) (k' := 1) (n' := 3) rfl rfl (by decide) (by decide) ?_
  intro T2 h2 b2 kA_b2 hb2 g_b2 W2 E2 V_b2
  have ne_t_b2 : t ≠ b2 := Nat.ne_of_lt (Nat.lt_of_lt_of_le V_t.lt (Nat.le_of_eq hb2.symm))
  have sz_b2 : h.size ≤ b2 := Nat.le_trans K0.1 (Nat.le_of_eq hb2.symm)
  replace V_t := V_t.ext E2
  replace K0 := K0.ext E2
  replace V_b2 : Arv Z h2 b2 kA_b2 .byte (3 : Int32) [(.int 0), (.int 0), (.int 0)] (.int 0) := V_b2
  show Go p_ e_ bl_ _ (T2.setTop (mkF m_ 12 #[.val (.ref t), .val (.int (0 : Int32)), .val (.int (3 : Int32)), .val (.int (3 : Int32)), .unset] [(.ref b2)]))
  refine Go.st (fun _ => XS.astore W2.here W2.ex rfl (hb hby d40_12) rfl rfl (l' := #[.val (.ref t), .val (.int (0 : Int32)), .val (.int (3 : Int32)), .val (.int (3 : Int32)), .val (.ref b2)]) rfl) ?_
  show Go p_ e_ bl_ _ (T2.setTop (mkF m_ 14 #[.val (.ref t), .val (.int (0 : Int32)), .val (.int (3 : Int32)), .val (.int (3 : Int32)), .val (.ref b2)] []))
  refine Go.st (fun _ => XS.aloadN W2.here W2.ex rfl (hb hby d40_14) rfl rfl) ?_
  show Go p_ e_ bl_ _ (T2.setTop (mkF m_ 15 #[.val (.ref t), .val (.int (0 : Int32)), .val (.int (3 : Int32)), .val (.int (3 : Int32)), .val (.ref b2)] [(.ref t)]))
  refine Go.st (fun _ => XS.iloadN W2.here W2.ex rfl (hb hby d40_15) rfl) ?_
  show Go p_ e_ bl_ _ (T2.setTop (mkF m_ 16 #[.val (.ref t), .val (.int (0 : Int32)), .val (.int (3 : Int32)), .val (.int (3 : Int32)), .val (.ref b2)] [(.int (0 : Int32)), (.ref t)]))
  refine Go.st (fun _ => XS.aload W2.here W2.ex rfl (hb hby d40_16) rfl rfl) ?_
  show Go p_ e_ bl_ _ (T2.setTop (mkF m_ 18 #[.val (.ref t), .val (.int (0 : Int32)), .val (.int (3 : Int32)), .val (.int (3 : Int32)), .val (.ref b2)] [(.ref b2), (.int (0 : Int32)), (.ref t)]))
  refine Go.st (fun _ => XS.iconst W2.here W2.ex rfl (hb hby d40_18)) ?_
  show Go p_ e_ bl_ _ (T2.setTop (mkF m_ 19 #[.val (.ref t), .val (.int (0 : Int32)), .val (.int (3 : Int32)), .val (.int (3 : Int32)), .val (.ref b2)] [(.int (0 : Int32)), (.ref b2), (.int (0 : Int32)), (.ref t)]))
  refine Go.st (fun _ => XS.aloadN W2.here W2.ex rfl (hb hby d40_19) rfl rfl) ?_
  show Go p_ e_ bl_ _ (T2.setTop (mkF m_ 20 #[.val (.ref t), .val (.int (0 : Int32)), .val (.int (3 : Int32)), .val (.int (3 : Int32)), .val (.ref b2)] [(.ref t), (.int (0 : Int32)), (.ref b2), (.int (0 : Int32)), (.ref t)]))
  refine W2.alen V_t (hb hby d40_20) ?_
  show Go p_ e_ bl_ _ (T2.setTop (mkF m_ 21 #[.val (.ref t), .val (.int (0 : Int32)), .val (.int (3 : Int32)), .val (.int (3 : Int32)), .val (.ref b2)] [(.int (Int32.ofNat cs.length)), (.int (0 : Int32)), (.ref b2), (.int (0 : Int32)), (.ref t)]))
  refine Go.st (fun _ => XS.iloadN W2.here W2.ex rfl (hb hby d40_21) rfl) ?_
  show Go p_ e_ bl_ _ (T2.setTop (mkF m_ 22 #[.val (.ref t), .val (.int (0 : Int32)), .val (.int (3 : Int32)), .val (.int (3 : Int32)), .val (.ref b2)] [(.int (0 : Int32)), (.int (Int32.ofNat cs.length)), (.int (0 : Int32)), (.ref b2), (.int (0 : Int32)), (.ref t)]))
  refine Go.st (fun _ => XS.isub W2.here W2.ex rfl (hb hby d40_22) rfl) ?_
  show Go p_ e_ bl_ _ (T2.setTop (mkF m_ 23 #[.val (.ref t), .val (.int (0 : Int32)), .val (.int (3 : Int32)), .val (.int (3 : Int32)), .val (.ref b2)] [(.int ((Int32.ofNat cs.length) - (0 : Int32))), (.int (0 : Int32)), (.ref b2), (.int (0 : Int32)), (.ref t)]))
  refine Go.st (fun _ => XS.iloadN W2.here W2.ex rfl (hb hby d40_23) rfl) ?_
  show Go p_ e_ bl_ _ (T2.setTop (mkF m_ 24 #[.val (.ref t), .val (.int (0 : Int32)), .val (.int (3 : Int32)), .val (.int (3 : Int32)), .val (.ref b2)] [(.int (3 : Int32)), (.int ((Int32.ofNat cs.length) - (0 : Int32))), (.int (0 : Int32)), (.ref b2), (.int (0 : Int32)), (.ref t)]))
  refine W2.callS (y := (⟨"java/lang/Math", "min", "(II)I"⟩ : MethodName)) (cx.w 236 rfl) (cx.w 184 rfl) (cx.w 80 rfl) (cx.w 185 rfl) (by decide) (ct_min_3 cx W2.old ((Int32.ofNat cs.length) - (0 : Int32)) (sub0_lt (len_lt hl hk).1)) all0 (by decide) (Wd := 4) (by decide) (k' := 1) (n' := 3) rfl rfl (by decide) (by decide) (by rw [hml]; rfl) (argsL := [(.int ((Int32.ofNat cs.length) - (0 : Int32))), (.int (3 : Int32))]) (rest := [(.int (0 : Int32)), (.ref b2), (.int (0 : Int32)), (.ref t)]) rfl (lenOf pd3 rfl) rfl (Nat.le_of_eq rfl) (hb hby d40_24) ?_
  intro v3 vm3 T3 h3 L3 W3 q3
  obtain ⟨rfl, eh_⟩ := q3
  subst h3
  show Go p_ e_ bl_ _ (T3.setTop (mkF m_ 27 #[.val (.ref t), .val (.int (0 : Int32)), .val (.int (3 : Int32)), .val (.int (3 : Int32)), .val (.ref b2)] [(.int (3 : Int32)), (.int (0 : Int32)), (.ref b2), (.int (0 : Int32)), (.ref t)]))
  refine W3.cpP (cx.w 237 rfl) (cx.w 240 rfl) (cx.w 238 rfl) (cx.w 239 rfl) V_t V_b2 rfl (by decide) (by decide) (by decide) (by rw [clampN hl]; exact Nat.le_of_lt hk) (by decide) (us := bsOf (cs.take 3)) (take_range (Nat.le_of_lt hk)) (by decide) (List.mem_of_getElem? (i := 0) rfl) g_b2 (by rw [hml]; rfl) (hb hby d40_27) (by decide) (Wd := 0) (Nat.le_of_eq rfl) (by decide) ?_
  intro T4 h4 L4 W4 Kc4 V_new
  replace V_t := V_t.keep Kc4 (ninS ne_t_b2 nin0)
  replace K0 := K0.trans Kc4 (allS (Or.inr sz_b2) all0)
  replace V_b2 : Arv Z h4 b2 kA_b2 .byte (3 : Int32) (bsOf (cs.take 3)) (.int 0) := by have q : Arv Z h4 b2 kA_b2 .byte (3 : Int32) (bsOf (cs.take 3) ++ []) (.int 0) := V_new; rwa [List.append_nil] at q
  clear V_new
  show Go p_ e_ bl_ _ (T4.setTop (mkF m_ 30 #[.val (.ref t), .val (.int (0 : Int32)), .val (.int (3 : Int32)), .val (.int (3 : Int32)), .val (.ref b2)] []))
  refine Go.st (fun _ => XS.aload W4.here W4.ex rfl (hb hby d40_30) rfl rfl) ?_
  show Go p_ e_ bl_ _ (T4.setTop (mkF m_ 32 #[.val (.ref t), .val (.int (0 : Int32)), .val (.int (3 : Int32)), .val (.int (3 : Int32)), .val (.ref b2)] [(.ref b2)]))
  exact W4.retA hret rfl rfl (hb hby d40_32) (by decide) (by decide) fun _ _ => ⟨b2, _, rfl, sz_b2, g_b2, K0, V_b2⟩
set_option maxRecDepth 65536 in
set_option maxHeartbeats 40000000 in
theorem ct_cor_3 {l : Launch} {Z : State} {a0 : Array Value} {n0 : Nat} {g1 : Int32} {gf : Value} {ea : Addr} {kea : ClassId} (cx : Ctx Z a0 n0 g1 gf ea kea) {h : Heap} (O : Old Z n0 h) (t : Addr) (kt : ClassId) (cs : List Int32) (hk : 3 < cs.length) (hl : cs.length ≤ 4) (V_t : Arv Z h t kt .byte (Int32.ofNat cs.length) (bsOf cs) (.int 0)) :
    Ct l Z consts_1 n0 [] (⟨"java/util/Arrays", "copyOfRange", "([BII)[B"⟩ : MethodName) jdk_65_method_132_code 3 (some (.array .byte)) ({ frames := 2, cells := 1, slots := 3, locals := 34 } : Room) #[(.ref t), (.int (0 : Int32)), (.int (3 : Int32))] [] h (fun v _ h' => ∃ (b : Addr) (kb : ClassId), v = some (.ref b) ∧ h.size ≤ b ∧ n0 ≤ b ∧ Keep h h' [] ∧ Arv Z h' b kb .byte (3 : Int32) (bsOf (cs.take 3)) (.int 0)) := by
  refine Ct.intro (plainFor_of_name pn9) O cx.ew ?_
  intro p_ e_ s_ m_ bl_ mt_ c_ T0 W0 hby hml hret hnm
  refine Go.st (fun t_ k_ => castTop (g' := mkF m_ 0 #[.val (.ref t), .val (.int (0 : Int32)), .val (.int (3 : Int32))] []) (by first | (simp [entryFrame, mkF, argsToLocals, Value.category]; done) | rfl) k_) ?_
  show Go p_ e_ bl_ _ (T0.setTop (mkF m_ 0 #[.val (.ref t), .val (.int (0 : Int32)), .val (.int (3 : Int32))] []))
  refine Go.st (fun _ => XS.iloadN W0.here W0.ex rfl (hb hby d39_0) rfl) ?_
  show Go p_ e_ bl_ _ (T0.setTop (mkF m_ 1 #[.val (.ref t), .val (.int (0 : Int32)), .val (.int (3 : Int32))] [(.int (0 : Int32))]))
  refine Go.st (fun _ => XS.ifNo W0.here W0.ex rfl (hb hby d39_1) rfl ((if0 _ _).trans (teq (rfl : (0 : Int32) = (0 : Int32))).2)) ?_
  show Go p_ e_ bl_ _ (T0.setTop (mkF m_ 4 #[.val (.ref t), .val (.int (0 : Int32)), .val (.int (3 : Int32))] []))
  refine Go.st (fun _ => XS.iloadN W0.here W0.ex rfl (hb hby d39_4) rfl) ?_
  show Go p_ e_ bl_ _ (T0.setTop (mkF m_ 5 #[.val (.ref t), .val (.int (0 : Int32)), .val (.int (3 : Int32))] [(.int (3 : Int32))]))
  refine Go.st (fun _ => XS.aloadN W0.here W0.ex rfl (hb hby d39_5) rfl rfl) ?_
  show Go p_ e_ bl_ _ (T0.setTop (mkF m_ 6 #[.val (.ref t), .val (.int (0 : Int32)), .val (.int (3 : Int32))] [(.ref t), (.int (3 : Int32))]))
  refine W0.alen V_t (hb hby d39_6) ?_
  show Go p_ e_ bl_ _ (T0.setTop (mkF m_ 7 #[.val (.ref t), .val (.int (0 : Int32)), .val (.int (3 : Int32))] [(.int (Int32.ofNat cs.length)), (.int (3 : Int32))]))
  refine Go.st (fun _ => XS.icmpNo W0.here W0.ex rfl (hb hby d39_7) rfl (feq (ne_lt (len_lt hl hk).1 : ¬ ((3 : Int32) = (Int32.ofNat cs.length)))).1) ?_
  show Go p_ e_ bl_ _ (T0.setTop (mkF m_ 10 #[.val (.ref t), .val (.int (0 : Int32)), .val (.int (3 : Int32))] []))
  refine Go.st (fun _ => XS.aloadN W0.here W0.ex rfl (hb hby d39_10) rfl rfl) ?_
  show Go p_ e_ bl_ _ (T0.setTop (mkF m_ 11 #[.val (.ref t), .val (.int (0 : Int32)), .val (.int (3 : Int32))] [(.ref t)]))
  refine Go.st (fun _ => XS.iloadN W0.here W0.ex rfl (hb hby d39_11) rfl) ?_
  show Go p_ e_ bl_ _ (T0.setTop (mkF m_ 12 #[.val (.ref t), .val (.int (0 : Int32)), .val (.int (3 : Int32))] [(.int (0 : Int32)), (.ref t)]))
  refine Go.st (fun _ => XS.iloadN W0.here W0.ex rfl (hb hby d39_12) rfl) ?_
  show Go p_ e_ bl_ _ (T0.setTop (mkF m_ 13 #[.val (.ref t), .val (.int (0 : Int32)), .val (.int (3 : Int32))] [(.int (3 : Int32)), (.int (0 : Int32)), (.ref t)]))
  refine W0.callS (y := (⟨"java/util/Arrays", "copyOfRangeByte", "([BII)[B"⟩ : MethodName)) (cx.w 230 rfl) (cx.w 231 rfl) (cx.w 228 rfl) (cx.w 232 rfl) (by decide) (ct_corb_3 cx W0.old t kt cs hk hl V_t) all0 (by decide) (Wd := 0) (by decide) (k' := 1) (n' := 3) rfl rfl (by decide) (by decide) (by rw [hml]; rfl) (argsL := [(.ref t), (.int (0 : Int32)), (.int (3 : Int32))]) (rest := []) rfl (lenOf pd16 rfl) rfl (Nat.le_of_eq rfl) (hb hby d39_13) ?_
  intro v1 vm1 T1 h1 L1 W1 q1
  obtain ⟨b, kb, rfl, hz_b, g_b, K1, V_b⟩ := q1
  show Go p_ e_ bl_ _ (T1.setTop (mkF m_ 16 #[.val (.ref t), .val (.int (0 : Int32)), .val (.int (3 : Int32))] [(.ref b)]))
  exact W1.retA hret rfl rfl (hb hby d39_16) (by decide) (by decide) fun _ _ => ⟨b, kb, rfl, hz_b, g_b, K1, V_b⟩
set_option maxRecDepth 65536 in
set_option maxHeartbeats 40000000 in
theorem ct_ns_0 {l : Launch} {Z : State} {a0 : Array Value} {n0 : Nat} {g1 : Int32} {gf : Value} {ea : Addr} {kea : ClassId} (cx : Ctx Z a0 n0 g1 gf ea kea) {h : Heap} (O : Old Z n0 h) (t : Addr) (kt : ClassId) (cs : List Int32) (hk : 0 < cs.length) (hl : cs.length ≤ 4) (hc : Ch8 cs) (V_t : Arv Z h t kt .byte (Int32.ofNat cs.length) (bsOf cs) (.int 0)) :
    Ct l Z consts_1 n0 [] (⟨"java/lang/StringLatin1", "newString", "([BII)Ljava/lang/String;"⟩ : MethodName) jdk_43_method_47_code 3 (some (.object "java/lang/String")) ({ frames := 0, cells := 2, slots := 4, locals := 0 } : Room) #[(.ref t), (.int (0 : Int32)), (.int (0 : Int32))] [] h (fun v _ h' => ∃ (a t : Addr), v = some (.ref a) ∧ Keep h h' [] ∧ StrAt Z h' a t (cs.take 0)) := by
  refine Ct.intro (plainFor_of_name pn7) O cx.ew ?_
  intro p_ e_ s_ m_ bl_ mt_ c_ T0 W0 hby hml hret hnm
  refine Go.st (fun t_ k_ => castTop (g' := mkF m_ 0 #[.val (.ref t), .val (.int (0 : Int32)), .val (.int (0 : Int32))] []) (by first | (simp [entryFrame, mkF, argsToLocals, Value.category]; done) | rfl) k_) ?_
  show Go p_ e_ bl_ _ (T0.setTop (mkF m_ 0 #[.val (.ref t), .val (.int (0 : Int32)), .val (.int (0 : Int32))] []))
  have K0 : Keep h h [] := Keep.refl _ _
  refine Go.st (fun _ => XS.iloadN W0.here W0.ex rfl (hb hby d38_0) rfl) ?_
  show Go p_ e_ bl_ _ (T0.setTop (mkF m_ 1 #[.val (.ref t), .val (.int (0 : Int32)), .val (.int (0 : Int32))] [(.int (0 : Int32))]))
  refine Go.st (fun _ => XS.ifNo W0.here W0.ex rfl (hb hby d38_1) rfl ((if0 _ _).trans (teq (rfl : (0 : Int32) = (0 : Int32))).2)) ?_
  show Go p_ e_ bl_ _ (T0.setTop (mkF m_ 4 #[.val (.ref t), .val (.int (0 : Int32)), .val (.int (0 : Int32))] []))
  refine W0.ldc (cx.w 224 rfl) cx.str (EL := consts_1) (List.mem_of_getElem? (i := 1) rfl) (vs := []) (z := 0) ⟨by decide, rfl⟩ (by decide) rfl (hb hby d38_4) (j := 0) (by decide) (by decide) (k' := 2) (n' := 4) rfl rfl (by decide) (by decide) ?_
  intro vm1 T1 h1 a1 d1 kA_d1 W1 E1 E_a1 F_coder_a1 F_value_a1 V_d1 nl1
  replace V_t := V_t.ext E1
  replace K0 := K0.ext E1
  show Go p_ e_ bl_ _ (T1.setTop (mkF m_ 6 #[.val (.ref t), .val (.int (0 : Int32)), .val (.int (0 : Int32))] [(.ref a1)]))
  exact W1.retA hret rfl rfl (hb hby d38_6) (by decide) (by decide) fun _ _ => ⟨a1, d1, rfl, K0, E_a1, F_coder_a1, F_value_a1, ⟨_, V_d1⟩, Ch8.nil, Nat.zero_le _⟩
set_option maxRecDepth 65536 in
set_option maxHeartbeats 40000000 in
theorem ct_ns_1 {l : Launch} {Z : State} {a0 : Array Value} {n0 : Nat} {g1 : Int32} {gf : Value} {ea : Addr} {kea : ClassId} (cx : Ctx Z a0 n0 g1 gf ea kea) {h : Heap} (O : Old Z n0 h) (t : Addr) (kt : ClassId) (cs : List Int32) (hk : 1 < cs.length) (hl : cs.length ≤ 4) (hc : Ch8 cs) (V_t : Arv Z h t kt .byte (Int32.ofNat cs.length) (bsOf cs) (.int 0)) :
    Ct l Z consts_1 n0 [] (⟨"java/lang/StringLatin1", "newString", "([BII)Ljava/lang/String;"⟩ : MethodName) jdk_43_method_47_code 3 (some (.object "java/lang/String")) ({ frames := 3, cells := 2, slots := 5, locals := 50 } : Room) #[(.ref t), (.int (0 : Int32)), (.int (1 : Int32))] [] h (fun v _ h' => ∃ (a t : Addr), v = some (.ref a) ∧ Keep h h' [] ∧ StrAt Z h' a t (cs.take 1)) := by
  refine Ct.intro (plainFor_of_name pn7) O cx.ew ?_
  intro p_ e_ s_ m_ bl_ mt_ c_ T0 W0 hby hml hret hnm
  refine Go.st (fun t_ k_ => castTop (g' := mkF m_ 0 #[.val (.ref t), .val (.int (0 : Int32)), .val (.int (1 : Int32))] []) (by first | (simp [entryFrame, mkF, argsToLocals, Value.category]; done) | rfl) k_) ?_
  show Go p_ e_ bl_ _ (T0.setTop (mkF m_ 0 #[.val (.ref t), .val (.int (0 : Int32)), .val (.int (1 : Int32))] []))
  have K0 : Keep h h [] := Keep.refl _ _
  refine Go.st (fun _ => XS.iloadN W0.here W0.ex rfl (hb hby d38_0) rfl) ?_
  show Go p_ e_ bl_ _ (T0.setTop (mkF m_ 1 #[.val (.ref t), .val (.int (0 : Int32)), .val (.int (1 : Int32))] [(.int (1 : Int32))]))
  refine Go.st (fun _ => XS.ifYes W0.here W0.ex rfl (pc0 := 1) (pc' := 7) rfl (hb hby d38_1) rfl ((if0 _ _).trans (feq ((by decide) : ¬ ((1 : Int32) = (0 : Int32)))).2) (by decide) (by decide)) ?_
  show Go p_ e_ bl_ _ (T0.setTop (mkF m_ 7 #[.val (.ref t), .val (.int (0 : Int32)), .val (.int (1 : Int32))] []))
  refine W0.newO (cx.w 225 rfl) (cx.w 9 rfl) (cx.w 10 rfl) (hb hby d38_7) (k' := 1) (n' := 4) rfl rfl (by decide) (by decide) ?_
  intro T1 h1 b1 hb1 g_b1 W1 E1 E_b1 D1
  have ne_t_b1 : t ≠ b1 := Nat.ne_of_lt (Nat.lt_of_lt_of_le V_t.lt (Nat.le_of_eq hb1.symm))
  have sz_b1 : h.size ≤ b1 := Nat.le_trans K0.1 (Nat.le_of_eq hb1.symm)
  replace V_t := V_t.ext E1
  replace K0 := K0.ext E1
  have F_value_b1 : Fld Z h1 b1 "java/lang/String" "value" "[B" .null := D1 (Or.inr (cx.w 24 rfl)) (ty := (.array .byte)) (by decide)
  have F_coder_b1 : Fld Z h1 b1 "java/lang/String" "coder" "B" (.int (0 : Int32)) := D1 (Or.inr (cx.w 25 rfl)) (ty := .byte) (by decide)
  show Go p_ e_ bl_ _ (T1.setTop (mkF m_ 10 #[.val (.ref t), .val (.int (0 : Int32)), .val (.int (1 : Int32))] [(.ref b1)]))
  refine Go.st (fun _ => XS.dup W1.here W1.ex rfl (hb hby d38_10) rfl rfl) ?_
  show Go p_ e_ bl_ _ (T1.setTop (mkF m_ 11 #[.val (.ref t), .val (.int (0 : Int32)), .val (.int (1 : Int32))] [(.ref b1), (.ref b1)]))
  refine Go.st (fun _ => XS.aloadN W1.here W1.ex rfl (hb hby d38_11) rfl rfl) ?_
  show Go p_ e_ bl_ _ (T1.setTop (mkF m_ 12 #[.val (.ref t), .val (.int (0 : Int32)), .val (.int (1 : Int32))] [(.ref t), (.ref b1), (.ref b1)]))
  refine Go.st (fun _ => XS.iloadN W1.here W1.ex rfl (hb hby d38_12) rfl) ?_
  show Go p_ e_ bl_ _ (T1.setTop (mkF m_ 13 #[.val (.ref t), .val (.int (0 : Int32)), .val (.int (1 : Int32))] [(.int (0 : Int32)), (.ref t), (.ref b1), (.ref b1)]))
  refine Go.st (fun _ => XS.iloadN W1.here W1.ex rfl (hb hby d38_13) rfl) ?_
  show Go p_ e_ bl_ _ (T1.setTop (mkF m_ 14 #[.val (.ref t), .val (.int (0 : Int32)), .val (.int (1 : Int32))] [(.int (0 : Int32)), (.int (0 : Int32)), (.ref t), (.ref b1), (.ref b1)]))
  refine Go.st (fun _ => XS.iloadN W1.here W1.ex rfl (hb hby d38_14) rfl) ?_
  show Go p_ e_ bl_ _ (T1.setTop (mkF m_ 15 #[.val (.ref t), .val (.int (0 : Int32)), .val (.int (1 : Int32))] [(.int (1 : Int32)), (.int (0 : Int32)), (.int (0 : Int32)), (.ref t), (.ref b1), (.ref b1)]))
  refine Go.st (fun _ => XS.iadd W1.here W1.ex rfl (hb hby d38_15) rfl) ?_
  show Go p_ e_ bl_ _ (T1.setTop (mkF m_ 16 #[.val (.ref t), .val (.int (0 : Int32)), .val (.int (1 : Int32))] [(.int ((0 : Int32) + (1 : Int32))), (.int (0 : Int32)), (.ref t), (.ref b1), (.ref b1)]))
  show Go p_ e_ bl_ _ (T1.setTop (mkF m_ 16 #[.val (.ref t), .val (.int (0 : Int32)), .val (.int (1 : Int32))] [(.int (1 : Int32)), (.int (0 : Int32)), (.ref t), (.ref b1), (.ref b1)]))
  refine W1.callS (y := (⟨"java/util/Arrays", "copyOfRange", "([BII)[B"⟩ : MethodName)) (cx.w 226 rfl) (cx.w 227 rfl) (cx.w 228 rfl) (cx.w 229 rfl) (by decide) (ct_cor_1 cx W1.old t kt cs hk hl V_t) all0 (by decide) (Wd := 2) (by decide) (k' := 2) (n' := 5) rfl rfl (by decide) (by decide) (by rw [hml]; rfl) (argsL := [(.ref t), (.int (0 : Int32)), (.int (1 : Int32))]) (rest := [(.ref b1), (.ref b1)]) rfl (lenOf pd16 rfl) rfl (Nat.le_of_eq rfl) (hb hby d38_16) ?_
  intro v2 vm2 T2 h2 L2 W2 q2
  obtain ⟨u, ku, rfl, hz_u, g_u, K1, V_u⟩ := q2
  have ne_t_u : t ≠ u := Nat.ne_of_lt (Nat.lt_of_lt_of_le V_t.lt hz_u)
  have ne_b1_u : b1 ≠ u := Nat.ne_of_lt (Nat.lt_of_lt_of_le E_b1.lt hz_u)
  have sz_u : h.size ≤ u := Nat.le_trans K0.1 hz_u
  replace V_t := V_t.keep K1 nin0
  replace E_b1 := E_b1.keep K1
  replace F_value_b1 := F_value_b1.keep K1 nin0
  replace F_coder_b1 := F_coder_b1.keep K1 nin0
  replace K0 := K0.trans K1 all0
  show Go p_ e_ bl_ _ (T2.setTop (mkF m_ 19 #[.val (.ref t), .val (.int (0 : Int32)), .val (.int (1 : Int32))] [(.ref u), (.ref b1), (.ref b1)]))
  refine Go.st (fun _ => XS.iconst W2.here W2.ex rfl (hb hby d38_19)) ?_
  show Go p_ e_ bl_ _ (T2.setTop (mkF m_ 20 #[.val (.ref t), .val (.int (0 : Int32)), .val (.int (1 : Int32))] [(.int (0 : Int32)), (.ref u), (.ref b1), (.ref b1)]))
  refine W2.callI (y := (⟨"java/lang/String", "<init>", "([BB)V"⟩ : MethodName)) rfl (cx.w 241 rfl) (cx.w 242 rfl) (cx.w 10 rfl) (cx.w 243 rfl) (by decide) (ct_iBB cx W2.old b1 u E_b1 F_value_b1 F_coder_b1 g_b1) (allS (List.mem_of_getElem? (i := 0) rfl) all0) (by decide) (Wd := 1) (by decide) (k' := 2) (n' := 5) rfl rfl (by decide) (by decide) (by rw [hml]; rfl) (a := b1) (argsL := [(.ref u), (.int (0 : Int32))]) (rest := [(.ref b1)]) rfl (lenOf pd17 rfl) rfl (Nat.le_of_eq rfl) (hb hby d38_20) ?_
  intro v3 vm3 T3 h3 L3 W3 q3
  obtain ⟨rfl, K2, E_n, F_cn, F_vn⟩ := q3
  replace V_t := V_t.keep K2 (ninS ne_t_b1 nin0)
  replace E_b1 := E_b1.keep K2
  replace V_u := V_u.keep K2 (ninS (Ne.symm ne_b1_u) nin0)
  replace K0 := K0.trans K2 (allS (Or.inr sz_b1) all0)
  show Go p_ e_ bl_ _ (T3.setTop (mkF m_ 23 #[.val (.ref t), .val (.int (0 : Int32)), .val (.int (1 : Int32))] [(.ref b1)]))
  exact W3.retA hret rfl rfl (hb hby d38_23) (by decide) (by decide) fun _ _ => ⟨b1, u, rfl, K0, E_n, F_cn, F_vn, ⟨ku, by rw [len_take (Nat.le_of_lt hk)]; exact V_u⟩, fun c q => hc c (List.mem_of_mem_take q), by rw [len_take (Nat.le_of_lt hk)]; decide⟩
set_option maxRecDepth 65536 in
set_option maxHeartbeats 40000000 in
theorem ct_ns_2 {l : Launch} {Z : State} {a0 : Array Value} {n0 : Nat} {g1 : Int32} {gf : Value} {ea : Addr} {kea : ClassId} (cx : Ctx Z a0 n0 g1 gf ea kea) {h : Heap} (O : Old Z n0 h) (t : Addr) (kt : ClassId) (cs : List Int32) (hk : 2 < cs.length) (hl : cs.length ≤ 4) (hc : Ch8 cs) (V_t : Arv Z h t kt .byte (Int32.ofNat cs.length) (bsOf cs) (.int 0)) :
    Ct l Z consts_1 n0 [] (⟨"java/lang/StringLatin1", "newString", "([BII)Ljava/lang/String;"⟩ : MethodName) jdk_43_method_47_code 3 (some (.object "java/lang/String")) ({ frames := 3, cells := 2, slots := 6, locals := 50 } : Room) #[(.ref t), (.int (0 : Int32)), (.int (2 : Int32))] [] h (fun v _ h' => ∃ (a t : Addr), v = some (.ref a) ∧ Keep h h' [] ∧ StrAt Z h' a t (cs.take 2)) := by
  refine Ct.intro (plainFor_of_name pn7) O cx.ew ?_
  intro p_ e_ s_ m_ bl_ mt_ c_ T0 W0 hby hml hret hnm
  refine Go.st (fun t_ k_ => castTop (g' := mkF m_ 0 #[.val (.ref t), .val (.int (0 : Int32)), .val (.int (2 : Int32))] []) (by first | (simp [entryFrame, mkF, argsToLocals, Value.category]; done) | rfl) k_) ?_
  show Go p_ e_ bl_ _ (T0.setTop (mkF m_ 0 #[.val (.ref t), .val (.int (0 : Int32)), .val (.int (2 : Int32))] []))
  have K0 : Keep h h [] := Keep.refl _ _
  refine Go.st (fun _ => XS.iloadN W0.here W0.ex rfl (hb hby d38_0) rfl) ?_
  show Go p_ e_ bl_ _ (T0.setTop (mkF m_ 1 #[.val (.ref t), .val (.int (0 : Int32)), .val (.int (2 : Int32))] [(.int (2 : Int32))]))
  refine Go.st (fun _ => XS.ifYes W0.here W0.ex rfl (pc0 := 1) (pc' := 7) rfl (hb hby d38_1) rfl ((if0 _ _).trans (feq ((by decide) : ¬ ((2 : Int32) = (0 : Int32)))).2) (by decide) (by decide)) ?_
  show Go p_ e_ bl_ _ (T0.setTop (mkF m_ 7 #[.val (.ref t), .val (.int (0 : Int32)), .val (.int (2 : Int32))] []))
  refine W0.newO (cx.w 225 rfl) (cx.w 9 rfl) (cx.w 10 rfl) (hb hby d38_7) (k' := 1) (n' := 4) rfl rfl (by decide) (by decide) ?_
  intro T1 h1 b1 hb1 g_b1 W1 E1 E_b1 D1
  have ne_t_b1 : t ≠ b1 := Nat.ne_of_lt (Nat.lt_of_lt_of_le V_t.lt (Nat.le_of_eq hb1.symm))
  have sz_b1 : h.size ≤ b1 := Nat.le_trans K0.1 (Nat.le_of_eq hb1.symm)
  replace V_t := V_t.ext E1
  replace K0 := K0.ext E1
  have F_value_b1 : Fld Z h1 b1 "java/lang/String" "value" "[B" .null := D1 (Or.inr (cx.w 24 rfl)) (ty := (.array .byte)) (by decide)
  have F_coder_b1 : Fld Z h1 b1 "java/lang/String" "coder" "B" (.int (0 : Int32)) := D1 (Or.inr (cx.w 25 rfl)) (ty := .byte) (by decide)
  show Go p_ e_ bl_ _ (T1.setTop (mkF m_ 10 #[.val (.ref t), .val (.int (0 : Int32)), .val (.int (2 : Int32))] [(.ref b1)]))
  refine Go.st (fun _ => XS.dup W1.here W1.ex rfl (hb hby d38_10) rfl rfl) ?_
  show Go p_ e_ bl_ _ (T1.setTop (mkF m_ 11 #[.val (.ref t), .val (.int (0 : Int32)), .val (.int (2 : Int32))] [(.ref b1), (.ref b1)]))
  refine Go.st (fun _ => XS.aloadN W1.here W1.ex rfl (hb hby d38_11) rfl rfl) ?_
  show Go p_ e_ bl_ _ (T1.setTop (mkF m_ 12 #[.val (.ref t), .val (.int (0 : Int32)), .val (.int (2 : Int32))] [(.ref t), (.ref b1), (.ref b1)]))
  refine Go.st (fun _ => XS.iloadN W1.here W1.ex rfl (hb hby d38_12) rfl) ?_
  show Go p_ e_ bl_ _ (T1.setTop (mkF m_ 13 #[.val (.ref t), .val (.int (0 : Int32)), .val (.int (2 : Int32))] [(.int (0 : Int32)), (.ref t), (.ref b1), (.ref b1)]))
  refine Go.st (fun _ => XS.iloadN W1.here W1.ex rfl (hb hby d38_13) rfl) ?_
  show Go p_ e_ bl_ _ (T1.setTop (mkF m_ 14 #[.val (.ref t), .val (.int (0 : Int32)), .val (.int (2 : Int32))] [(.int (0 : Int32)), (.int (0 : Int32)), (.ref t), (.ref b1), (.ref b1)]))
  refine Go.st (fun _ => XS.iloadN W1.here W1.ex rfl (hb hby d38_14) rfl) ?_
  show Go p_ e_ bl_ _ (T1.setTop (mkF m_ 15 #[.val (.ref t), .val (.int (0 : Int32)), .val (.int (2 : Int32))] [(.int (2 : Int32)), (.int (0 : Int32)), (.int (0 : Int32)), (.ref t), (.ref b1), (.ref b1)]))
  refine Go.st (fun _ => XS.iadd W1.here W1.ex rfl (hb hby d38_15) rfl) ?_
  show Go p_ e_ bl_ _ (T1.setTop (mkF m_ 16 #[.val (.ref t), .val (.int (0 : Int32)), .val (.int (2 : Int32))] [(.int ((0 : Int32) + (2 : Int32))), (.int (0 : Int32)), (.ref t), (.ref b1), (.ref b1)]))
  show Go p_ e_ bl_ _ (T1.setTop (mkF m_ 16 #[.val (.ref t), .val (.int (0 : Int32)), .val (.int (2 : Int32))] [(.int (2 : Int32)), (.int (0 : Int32)), (.ref t), (.ref b1), (.ref b1)]))
  refine W1.callS (y := (⟨"java/util/Arrays", "copyOfRange", "([BII)[B"⟩ : MethodName)) (cx.w 226 rfl) (cx.w 227 rfl) (cx.w 228 rfl) (cx.w 229 rfl) (by decide) (ct_cor_2 cx W1.old t kt cs hk hl V_t) all0 (by decide) (Wd := 2) (by decide) (k' := 2) (n' := 6) rfl rfl (by decide) (by decide) (by rw [hml]; rfl) (argsL := [(.ref t), (.int (0 : Int32)), (.int (2 : Int32))]) (rest := [(.ref b1), (.ref b1)]) rfl (lenOf pd16 rfl) rfl (Nat.le_of_eq rfl) (hb hby d38_16) ?_
  intro v2 vm2 T2 h2 L2 W2 q2
  obtain ⟨u, ku, rfl, hz_u, g_u, K1, V_u⟩ := q2
  have ne_t_u : t ≠ u := Nat.ne_of_lt (Nat.lt_of_lt_of_le V_t.lt hz_u)
  have ne_b1_u : b1 ≠ u := Nat.ne_of_lt (Nat.lt_of_lt_of_le E_b1.lt hz_u)
  have sz_u : h.size ≤ u := Nat.le_trans K0.1 hz_u
  replace V_t := V_t.keep K1 nin0
  replace E_b1 := E_b1.keep K1
  replace F_value_b1 := F_value_b1.keep K1 nin0
  replace F_coder_b1 := F_coder_b1.keep K1 nin0
  replace K0 := K0.trans K1 all0
  show Go p_ e_ bl_ _ (T2.setTop (mkF m_ 19 #[.val (.ref t), .val (.int (0 : Int32)), .val (.int (2 : Int32))] [(.ref u), (.ref b1), (.ref b1)]))
  refine Go.st (fun _ => XS.iconst W2.here W2.ex rfl (hb hby d38_19)) ?_
  show Go p_ e_ bl_ _ (T2.setTop (mkF m_ 20 #[.val (.ref t), .val (.int (0 : Int32)), .val (.int (2 : Int32))] [(.int (0 : Int32)), (.ref u), (.ref b1), (.ref b1)]))
  refine W2.callI (y := (⟨"java/lang/String", "<init>", "([BB)V"⟩ : MethodName)) rfl (cx.w 241 rfl) (cx.w 242 rfl) (cx.w 10 rfl) (cx.w 243 rfl) (by decide) (ct_iBB cx W2.old b1 u E_b1 F_value_b1 F_coder_b1 g_b1) (allS (List.mem_of_getElem? (i := 0) rfl) all0) (by decide) (Wd := 1) (by decide) (k' := 2) (n' := 6) rfl rfl (by decide) (by decide) (by rw [hml]; rfl) (a := b1) (argsL := [(.ref u), (.int (0 : Int32))]) (rest := [(.ref b1)]) rfl (lenOf pd17 rfl) rfl (Nat.le_of_eq rfl) (hb hby d38_20) ?_
  intro v3 vm3 T3 h3 L3 W3 q3
  obtain ⟨rfl, K2, E_n, F_cn, F_vn⟩ := q3
  replace V_t := V_t.keep K2 (ninS ne_t_b1 nin0)
  replace E_b1 := E_b1.keep K2
  replace V_u := V_u.keep K2 (ninS (Ne.symm ne_b1_u) nin0)
  replace K0 := K0.trans K2 (allS (Or.inr sz_b1) all0)
  show Go p_ e_ bl_ _ (T3.setTop (mkF m_ 23 #[.val (.ref t), .val (.int (0 : Int32)), .val (.int (2 : Int32))] [(.ref b1)]))
  exact W3.retA hret rfl rfl (hb hby d38_23) (by decide) (by decide) fun _ _ => ⟨b1, u, rfl, K0, E_n, F_cn, F_vn, ⟨ku, by rw [len_take (Nat.le_of_lt hk)]; exact V_u⟩, fun c q => hc c (List.mem_of_mem_take q), by rw [len_take (Nat.le_of_lt hk)]; decide⟩
set_option maxRecDepth 65536 in
set_option maxHeartbeats 40000000 in
theorem ct_ns_3 {l : Launch} {Z : State} {a0 : Array Value} {n0 : Nat} {g1 : Int32} {gf : Value} {ea : Addr} {kea : ClassId} (cx : Ctx Z a0 n0 g1 gf ea kea) {h : Heap} (O : Old Z n0 h) (t : Addr) (kt : ClassId) (cs : List Int32) (hk : 3 < cs.length) (hl : cs.length ≤ 4) (hc : Ch8 cs) (V_t : Arv Z h t kt .byte (Int32.ofNat cs.length) (bsOf cs) (.int 0)) :
    Ct l Z consts_1 n0 [] (⟨"java/lang/StringLatin1", "newString", "([BII)Ljava/lang/String;"⟩ : MethodName) jdk_43_method_47_code 3 (some (.object "java/lang/String")) ({ frames := 3, cells := 2, slots := 7, locals := 50 } : Room) #[(.ref t), (.int (0 : Int32)), (.int (3 : Int32))] [] h (fun v _ h' => ∃ (a t : Addr), v = some (.ref a) ∧ Keep h h' [] ∧ StrAt Z h' a t (cs.take 3)) := by
  refine Ct.intro (plainFor_of_name pn7) O cx.ew ?_
  intro p_ e_ s_ m_ bl_ mt_ c_ T0 W0 hby hml hret hnm
  refine Go.st (fun t_ k_ => castTop (g' := mkF m_ 0 #[.val (.ref t), .val (.int (0 : Int32)), .val (.int (3 : Int32))] []) (by first | (simp [entryFrame, mkF, argsToLocals, Value.category]; done) | rfl) k_) ?_
  show Go p_ e_ bl_ _ (T0.setTop (mkF m_ 0 #[.val (.ref t), .val (.int (0 : Int32)), .val (.int (3 : Int32))] []))
  have K0 : Keep h h [] := Keep.refl _ _
  refine Go.st (fun _ => XS.iloadN W0.here W0.ex rfl (hb hby d38_0) rfl) ?_
  show Go p_ e_ bl_ _ (T0.setTop (mkF m_ 1 #[.val (.ref t), .val (.int (0 : Int32)), .val (.int (3 : Int32))] [(.int (3 : Int32))]))
  refine Go.st (fun _ => XS.ifYes W0.here W0.ex rfl (pc0 := 1) (pc' := 7) rfl (hb hby d38_1) rfl ((if0 _ _).trans (feq ((by decide) : ¬ ((3 : Int32) = (0 : Int32)))).2) (by decide) (by decide)) ?_
  show Go p_ e_ bl_ _ (T0.setTop (mkF m_ 7 #[.val (.ref t), .val (.int (0 : Int32)), .val (.int (3 : Int32))] []))
  refine W0.newO (cx.w 225 rfl) (cx.w 9 rfl) (cx.w 10 rfl) (hb hby d38_7) (k' := 1) (n' := 4) rfl rfl (by decide) (by decide) ?_
  intro T1 h1 b1 hb1 g_b1 W1 E1 E_b1 D1
  have ne_t_b1 : t ≠ b1 := Nat.ne_of_lt (Nat.lt_of_lt_of_le V_t.lt (Nat.le_of_eq hb1.symm))
  have sz_b1 : h.size ≤ b1 := Nat.le_trans K0.1 (Nat.le_of_eq hb1.symm)
  replace V_t := V_t.ext E1
  replace K0 := K0.ext E1
  have F_value_b1 : Fld Z h1 b1 "java/lang/String" "value" "[B" .null := D1 (Or.inr (cx.w 24 rfl)) (ty := (.array .byte)) (by decide)
  have F_coder_b1 : Fld Z h1 b1 "java/lang/String" "coder" "B" (.int (0 : Int32)) := D1 (Or.inr (cx.w 25 rfl)) (ty := .byte) (by decide)
  show Go p_ e_ bl_ _ (T1.setTop (mkF m_ 10 #[.val (.ref t), .val (.int (0 : Int32)), .val (.int (3 : Int32))] [(.ref b1)]))
  refine Go.st (fun _ => XS.dup W1.here W1.ex rfl (hb hby d38_10) rfl rfl) ?_
  show Go p_ e_ bl_ _ (T1.setTop (mkF m_ 11 #[.val (.ref t), .val (.int (0 : Int32)), .val (.int (3 : Int32))] [(.ref b1), (.ref b1)]))
  refine Go.st (fun _ => XS.aloadN W1.here W1.ex rfl (hb hby d38_11) rfl rfl) ?_
  show Go p_ e_ bl_ _ (T1.setTop (mkF m_ 12 #[.val (.ref t), .val (.int (0 : Int32)), .val (.int (3 : Int32))] [(.ref t), (.ref b1), (.ref b1)]))
  refine Go.st (fun _ => XS.iloadN W1.here W1.ex rfl (hb hby d38_12) rfl) ?_
  show Go p_ e_ bl_ _ (T1.setTop (mkF m_ 13 #[.val (.ref t), .val (.int (0 : Int32)), .val (.int (3 : Int32))] [(.int (0 : Int32)), (.ref t), (.ref b1), (.ref b1)]))
  refine Go.st (fun _ => XS.iloadN W1.here W1.ex rfl (hb hby d38_13) rfl) ?_
  show Go p_ e_ bl_ _ (T1.setTop (mkF m_ 14 #[.val (.ref t), .val (.int (0 : Int32)), .val (.int (3 : Int32))] [(.int (0 : Int32)), (.int (0 : Int32)), (.ref t), (.ref b1), (.ref b1)]))
  refine Go.st (fun _ => XS.iloadN W1.here W1.ex rfl (hb hby d38_14) rfl) ?_
  show Go p_ e_ bl_ _ (T1.setTop (mkF m_ 15 #[.val (.ref t), .val (.int (0 : Int32)), .val (.int (3 : Int32))] [(.int (3 : Int32)), (.int (0 : Int32)), (.int (0 : Int32)), (.ref t), (.ref b1), (.ref b1)]))
  refine Go.st (fun _ => XS.iadd W1.here W1.ex rfl (hb hby d38_15) rfl) ?_
  show Go p_ e_ bl_ _ (T1.setTop (mkF m_ 16 #[.val (.ref t), .val (.int (0 : Int32)), .val (.int (3 : Int32))] [(.int ((0 : Int32) + (3 : Int32))), (.int (0 : Int32)), (.ref t), (.ref b1), (.ref b1)]))
  show Go p_ e_ bl_ _ (T1.setTop (mkF m_ 16 #[.val (.ref t), .val (.int (0 : Int32)), .val (.int (3 : Int32))] [(.int (3 : Int32)), (.int (0 : Int32)), (.ref t), (.ref b1), (.ref b1)]))
  refine W1.callS (y := (⟨"java/util/Arrays", "copyOfRange", "([BII)[B"⟩ : MethodName)) (cx.w 226 rfl) (cx.w 227 rfl) (cx.w 228 rfl) (cx.w 229 rfl) (by decide) (ct_cor_3 cx W1.old t kt cs hk hl V_t) all0 (by decide) (Wd := 2) (by decide) (k' := 2) (n' := 7) rfl rfl (by decide) (by decide) (by rw [hml]; rfl) (argsL := [(.ref t), (.int (0 : Int32)), (.int (3 : Int32))]) (rest := [(.ref b1), (.ref b1)]) rfl (lenOf pd16 rfl) rfl (Nat.le_of_eq rfl) (hb hby d38_16) ?_
  intro v2 vm2 T2 h2 L2 W2 q2
  obtain ⟨u, ku, rfl, hz_u, g_u, K1, V_u⟩ := q2
  have ne_t_u : t ≠ u := Nat.ne_of_lt (Nat.lt_of_lt_of_le V_t.lt hz_u)
  have ne_b1_u : b1 ≠ u := Nat.ne_of_lt (Nat.lt_of_lt_of_le E_b1.lt hz_u)
  have sz_u : h.size ≤ u := Nat.le_trans K0.1 hz_u
  replace V_t := V_t.keep K1 nin0
  replace E_b1 := E_b1.keep K1
  replace F_value_b1 := F_value_b1.keep K1 nin0
  replace F_coder_b1 := F_coder_b1.keep K1 nin0
  replace K0 := K0.trans K1 all0
  show Go p_ e_ bl_ _ (T2.setTop (mkF m_ 19 #[.val (.ref t), .val (.int (0 : Int32)), .val (.int (3 : Int32))] [(.ref u), (.ref b1), (.ref b1)]))
  refine Go.st (fun _ => XS.iconst W2.here W2.ex rfl (hb hby d38_19)) ?_
  show Go p_ e_ bl_ _ (T2.setTop (mkF m_ 20 #[.val (.ref t), .val (.int (0 : Int32)), .val (.int (3 : Int32))] [(.int (0 : Int32)), (.ref u), (.ref b1), (.ref b1)]))
  refine W2.callI (y := (⟨"java/lang/String", "<init>", "([BB)V"⟩ : MethodName)) rfl (cx.w 241 rfl) (cx.w 242 rfl) (cx.w 10 rfl) (cx.w 243 rfl) (by decide) (ct_iBB cx W2.old b1 u E_b1 F_value_b1 F_coder_b1 g_b1) (allS (List.mem_of_getElem? (i := 0) rfl) all0) (by decide) (Wd := 1) (by decide) (k' := 2) (n' := 7) rfl rfl (by decide) (by decide) (by rw [hml]; rfl) (a := b1) (argsL := [(.ref u), (.int (0 : Int32))]) (rest := [(.ref b1)]) rfl (lenOf pd17 rfl) rfl (Nat.le_of_eq rfl) (hb hby d38_20) ?_
  intro v3 vm3 T3 h3 L3 W3 q3
  obtain ⟨rfl, K2, E_n, F_cn, F_vn⟩ := q3
  replace V_t := V_t.keep K2 (ninS ne_t_b1 nin0)
  replace E_b1 := E_b1.keep K2
  replace V_u := V_u.keep K2 (ninS (Ne.symm ne_b1_u) nin0)
  replace K0 := K0.trans K2 (allS (Or.inr sz_b1) all0)
  show Go p_ e_ bl_ _ (T3.setTop (mkF m_ 23 #[.val (.ref t), .val (.int (0 : Int32)), .val (.int (3 : Int32))] [(.ref b1)]))
  exact W3.retA hret rfl rfl (hb hby d38_23) (by decide) (by decide) fun _ _ => ⟨b1, u, rfl, K0, E_n, F_cn, F_vn, ⟨ku, by rw [len_take (Nat.le_of_lt hk)]; exact V_u⟩, fun c q => hc c (List.mem_of_mem_take q), by rw [len_take (Nat.le_of_lt hk)]; decide⟩
set_option maxRecDepth 65536 in
set_option maxHeartbeats 40000000 in
theorem ct_sub_0 {l : Launch} {Z : State} {a0 : Array Value} {n0 : Nat} {g1 : Int32} {gf : Value} {ea : Addr} {kea : ClassId} (cx : Ctx Z a0 n0 g1 gf ea kea) {h : Heap} (O : Old Z n0 h) (a t : Addr) (cs : List Int32) (hk : 0 < cs.length) (hl : cs.length ≤ 4) (S_a : StrAt Z h a t cs) :
    Ct l Z consts_1 n0 [] (⟨"java/lang/String", "substring", "(II)Ljava/lang/String;"⟩ : MethodName) jdk_42_method_92_code 5 (some (.object "java/lang/String")) ({ frames := 4, cells := 2, slots := 7, locals := 64 } : Room) #[(.ref a), (.int (0 : Int32)), (.int (0 : Int32))] [] h (fun v _ h' => ∃ (a t : Addr), v = some (.ref a) ∧ Keep h h' [] ∧ StrAt Z h' a t (cs.take 0)) := by
  refine Ct.intro (plainFor_of_name pn0) O cx.ew ?_
  intro p_ e_ s_ m_ bl_ mt_ c_ T0 W0 hby hml hret hnm
  refine Go.st (fun t_ k_ => castTop (g' := mkF m_ 0 #[.val (.ref a), .val (.int (0 : Int32)), .val (.int (0 : Int32)), .unset, .unset] []) (by first | (simp [entryFrame, mkF, argsToLocals, Value.category]; done) | rfl) k_) ?_
  show Go p_ e_ bl_ _ (T0.setTop (mkF m_ 0 #[.val (.ref a), .val (.int (0 : Int32)), .val (.int (0 : Int32)), .unset, .unset] []))
  have E_a := S_a.1
  have F_coder_a := S_a.2.1
  have F_value_a := S_a.2.2.1
  obtain ⟨k_t, V_t⟩ := S_a.kb
  refine Go.st (fun _ => XS.aloadN W0.here W0.ex rfl (hb hby d35_0) rfl rfl) ?_
  show Go p_ e_ bl_ _ (T0.setTop (mkF m_ 1 #[.val (.ref a), .val (.int (0 : Int32)), .val (.int (0 : Int32)), .unset, .unset] [(.ref a)]))
  obtain ⟨k1_1, V1_1⟩ := S_a.kb
  refine W0.libV (y := (⟨"java/lang/String", "length", "()I"⟩ : MethodName)) (z := (⟨"java/lang/String", "length", "()I"⟩ : MethodName)) (cx.w 165 rfl) (cx.w 166 rfl) (cx.w 168 rfl) (cx.w 167 rfl) (W0.nf (cx.w 168 rfl)) (by decide) E_a (Q := fun v h' L' => v = some (.int (Int32.ofNat (cs).length)) ∧ L' = [] ∧ h' = h) (ws := []) (Wd := 0) (ck := 0) (cn := 0) (StrChars.Road.lenW (W := 0) W0.hZ cx.lw (kI := 4) (cx.w 9 rfl) (cs := cs) S_a.1 S_a.2.2.1 S_a.2.1 V1_1 (StrChars.Road.codOf rfl fun c hc => (S_a.ch c hc).2) S_a.ch.up (cx.cmp.ext W0.e0) cx.g1 S_a.le (by decide) (by decide)) (fun v h' L' q => ⟨by rw [q.2.1]; exact Fr.nil _, by rw [q.2.2]; exact Keep.refl _ _⟩) all0 all0 (k' := 0) (n' := 0) rfl rfl (by decide) (by decide) (by rw [hml]; rfl) (a := a) (argsL := []) (rest := []) rfl (lenOf pd13 rfl) rfl (Nat.le_of_eq rfl) (hb hby d35_1) ?_
  intro v2 T2 h2 M2 L2 W2 q2
  obtain ⟨rfl, -, eh_⟩ := q2
  subst h2
  show Go p_ e_ bl_ _ (T2.setTop (mkF m_ 4 #[.val (.ref a), .val (.int (0 : Int32)), .val (.int (0 : Int32)), .unset, .unset] [(.int (Int32.ofNat cs.length))]))
  refine Go.st (fun _ => XS.istoreN W2.here W2.ex rfl (hb hby d35_4) rfl (l' := #[.val (.ref a), .val (.int (0 : Int32)), .val (.int (0 : Int32)), .val (.int (Int32.ofNat cs.length)), .unset]) rfl) ?_
  show Go p_ e_ bl_ _ (T2.setTop (mkF m_ 5 #[.val (.ref a), .val (.int (0 : Int32)), .val (.int (0 : Int32)), .val (.int (Int32.ofNat cs.length)), .unset] []))
  refine Go.st (fun _ => XS.iloadN W2.here W2.ex rfl (hb hby d35_5) rfl) ?_
  show Go p_ e_ bl_ _ (T2.setTop (mkF m_ 6 #[.val (.ref a), .val (.int (0 : Int32)), .val (.int (0 : Int32)), .val (.int (Int32.ofNat cs.length)), .unset] [(.int (0 : Int32))]))
  refine Go.st (fun _ => XS.iloadN W2.here W2.ex rfl (hb hby d35_6) rfl) ?_
  show Go p_ e_ bl_ _ (T2.setTop (mkF m_ 7 #[.val (.ref a), .val (.int (0 : Int32)), .val (.int (0 : Int32)), .val (.int (Int32.ofNat cs.length)), .unset] [(.int (0 : Int32)), (.int (0 : Int32))]))
  refine Go.st (fun _ => XS.iloadN W2.here W2.ex rfl (hb hby d35_7) rfl) ?_
  show Go p_ e_ bl_ _ (T2.setTop (mkF m_ 8 #[.val (.ref a), .val (.int (0 : Int32)), .val (.int (0 : Int32)), .val (.int (Int32.ofNat cs.length)), .unset] [(.int (Int32.ofNat cs.length)), (.int (0 : Int32)), (.int (0 : Int32))]))
  refine W2.callS (y := (⟨"java/lang/String", "checkBoundsBeginEnd", "(III)V"⟩ : MethodName)) (cx.w 213 rfl) (cx.w 214 rfl) (cx.w 10 rfl) (cx.w 215 rfl) (by decide) (ct_cb cx W2.old (0 : Int32) (Int32.ofNat cs.length) (by decide) (nlt_lt (len_lt hl hk).1)) all0 (by decide) (Wd := 0) (by decide) (k' := 0) (n' := 0) rfl rfl (by decide) (by decide) (by rw [hml]; rfl) (argsL := [(.int (0 : Int32)), (.int (0 : Int32)), (.int (Int32.ofNat cs.length))]) (rest := []) rfl (lenOf pd18 rfl) rfl (Nat.le_of_eq rfl) (hb hby d35_8) ?_
  intro v3 vm3 T3 h3 L3 W3 q3
  obtain ⟨rfl, eh_⟩ := q3
  subst h3
  show Go p_ e_ bl_ _ (T3.setTop (mkF m_ 11 #[.val (.ref a), .val (.int (0 : Int32)), .val (.int (0 : Int32)), .val (.int (Int32.ofNat cs.length)), .unset] []))
  refine Go.st (fun _ => XS.iloadN W3.here W3.ex rfl (hb hby d35_11) rfl) ?_
  show Go p_ e_ bl_ _ (T3.setTop (mkF m_ 12 #[.val (.ref a), .val (.int (0 : Int32)), .val (.int (0 : Int32)), .val (.int (Int32.ofNat cs.length)), .unset] [(.int (0 : Int32))]))
  refine Go.st (fun _ => XS.ifNo W3.here W3.ex rfl (hb hby d35_12) rfl ((if0 _ _).trans (teq (rfl : (0 : Int32) = (0 : Int32))).2)) ?_
  show Go p_ e_ bl_ _ (T3.setTop (mkF m_ 15 #[.val (.ref a), .val (.int (0 : Int32)), .val (.int (0 : Int32)), .val (.int (Int32.ofNat cs.length)), .unset] []))
  refine Go.st (fun _ => XS.iloadN W3.here W3.ex rfl (hb hby d35_15) rfl) ?_
  show Go p_ e_ bl_ _ (T3.setTop (mkF m_ 16 #[.val (.ref a), .val (.int (0 : Int32)), .val (.int (0 : Int32)), .val (.int (Int32.ofNat cs.length)), .unset] [(.int (0 : Int32))]))
  refine Go.st (fun _ => XS.iloadN W3.here W3.ex rfl (hb hby d35_16) rfl) ?_
  show Go p_ e_ bl_ _ (T3.setTop (mkF m_ 17 #[.val (.ref a), .val (.int (0 : Int32)), .val (.int (0 : Int32)), .val (.int (Int32.ofNat cs.length)), .unset] [(.int (Int32.ofNat cs.length)), (.int (0 : Int32))]))
  refine Go.st (fun _ => XS.icmpYes W3.here W3.ex rfl (pc0 := 17) (pc' := 22) rfl (hb hby d35_17) rfl (feq (ne_lt (len_lt hl hk).1 : ¬ ((0 : Int32) = (Int32.ofNat cs.length)))).2 (by decide) (by decide)) ?_
  show Go p_ e_ bl_ _ (T3.setTop (mkF m_ 22 #[.val (.ref a), .val (.int (0 : Int32)), .val (.int (0 : Int32)), .val (.int (Int32.ofNat cs.length)), .unset] []))
  refine Go.st (fun _ => XS.iloadN W3.here W3.ex rfl (hb hby d35_22) rfl) ?_
  show Go p_ e_ bl_ _ (T3.setTop (mkF m_ 23 #[.val (.ref a), .val (.int (0 : Int32)), .val (.int (0 : Int32)), .val (.int (Int32.ofNat cs.length)), .unset] [(.int (0 : Int32))]))
  refine Go.st (fun _ => XS.iloadN W3.here W3.ex rfl (hb hby d35_23) rfl) ?_
  show Go p_ e_ bl_ _ (T3.setTop (mkF m_ 24 #[.val (.ref a), .val (.int (0 : Int32)), .val (.int (0 : Int32)), .val (.int (Int32.ofNat cs.length)), .unset] [(.int (0 : Int32)), (.int (0 : Int32))]))
  refine Go.st (fun _ => XS.isub W3.here W3.ex rfl (hb hby d35_24) rfl) ?_
  show Go p_ e_ bl_ _ (T3.setTop (mkF m_ 25 #[.val (.ref a), .val (.int (0 : Int32)), .val (.int (0 : Int32)), .val (.int (Int32.ofNat cs.length)), .unset] [(.int ((0 : Int32) - (0 : Int32)))]))
  show Go p_ e_ bl_ _ (T3.setTop (mkF m_ 25 #[.val (.ref a), .val (.int (0 : Int32)), .val (.int (0 : Int32)), .val (.int (Int32.ofNat cs.length)), .unset] [(.int (0 : Int32))]))
  refine Go.st (fun _ => XS.istore W3.here W3.ex rfl (hb hby d35_25) rfl (l' := #[.val (.ref a), .val (.int (0 : Int32)), .val (.int (0 : Int32)), .val (.int (Int32.ofNat cs.length)), .val (.int (0 : Int32))]) rfl) ?_
  show Go p_ e_ bl_ _ (T3.setTop (mkF m_ 27 #[.val (.ref a), .val (.int (0 : Int32)), .val (.int (0 : Int32)), .val (.int (Int32.ofNat cs.length)), .val (.int (0 : Int32))] []))
  refine Go.st (fun _ => XS.aloadN W3.here W3.ex rfl (hb hby d35_27) rfl rfl) ?_
  show Go p_ e_ bl_ _ (T3.setTop (mkF m_ 28 #[.val (.ref a), .val (.int (0 : Int32)), .val (.int (0 : Int32)), .val (.int (Int32.ofNat cs.length)), .val (.int (0 : Int32))] [(.ref a)]))
  refine W3.callV (y := (⟨"java/lang/String", "isLatin1", "()Z"⟩ : MethodName)) (z := (⟨"java/lang/String", "isLatin1", "()Z"⟩ : MethodName)) (cx.w 159 rfl) (cx.w 160 rfl) (cx.w 162 rfl) (cx.w 161 rfl) (cx.w 10 rfl) (cx.w 163 rfl) (W3.nf (cx.w 162 rfl)) (by decide) E_a (ct_isL cx W3.old a t cs S_a) all0 (by decide) (Wd := 0) (by decide) (k' := 0) (n' := 0) rfl rfl (by decide) (by decide) (by rw [hml]; rfl) (a := a) (argsL := []) (rest := []) rfl (lenOf pd12 rfl) rfl (Nat.le_of_eq rfl) (hb hby d35_28) ?_
  intro v4 vm4 T4 h4 L4 W4 q4
  obtain ⟨rfl, eh_⟩ := q4
  subst h4
  show Go p_ e_ bl_ _ (T4.setTop (mkF m_ 31 #[.val (.ref a), .val (.int (0 : Int32)), .val (.int (0 : Int32)), .val (.int (Int32.ofNat cs.length)), .val (.int (0 : Int32))] [(.int (1 : Int32))]))
  refine Go.st (fun _ => XS.ifNo W4.here W4.ex rfl (hb hby d35_31) rfl ((if0 _ _).trans (feq ((by decide) : ¬ ((1 : Int32) = (0 : Int32)))).1)) ?_
  show Go p_ e_ bl_ _ (T4.setTop (mkF m_ 34 #[.val (.ref a), .val (.int (0 : Int32)), .val (.int (0 : Int32)), .val (.int (Int32.ofNat cs.length)), .val (.int (0 : Int32))] []))
  refine Go.st (fun _ => XS.aloadN W4.here W4.ex rfl (hb hby d35_34) rfl rfl) ?_
  show Go p_ e_ bl_ _ (T4.setTop (mkF m_ 35 #[.val (.ref a), .val (.int (0 : Int32)), .val (.int (0 : Int32)), .val (.int (Int32.ofNat cs.length)), .val (.int (0 : Int32))] [(.ref a)]))
  refine W4.getF (cx.w 28 rfl) Via.refl F_value_a (hb hby d35_35) ?_
  intro T5 W5
  show Go p_ e_ bl_ _ (T5.setTop (mkF m_ 38 #[.val (.ref a), .val (.int (0 : Int32)), .val (.int (0 : Int32)), .val (.int (Int32.ofNat cs.length)), .val (.int (0 : Int32))] [(.ref t)]))
  refine Go.st (fun _ => XS.iloadN W5.here W5.ex rfl (hb hby d35_38) rfl) ?_
  show Go p_ e_ bl_ _ (T5.setTop (mkF m_ 39 #[.val (.ref a), .val (.int (0 : Int32)), .val (.int (0 : Int32)), .val (.int (Int32.ofNat cs.length)), .val (.int (0 : Int32))] [(.int (0 : Int32)), (.ref t)]))
  refine Go.st (fun _ => XS.iload W5.here W5.ex rfl (hb hby d35_39) rfl) ?_
  show Go p_ e_ bl_ _ (T5.setTop (mkF m_ 41 #[.val (.ref a), .val (.int (0 : Int32)), .val (.int (0 : Int32)), .val (.int (Int32.ofNat cs.length)), .val (.int (0 : Int32))] [(.int (0 : Int32)), (.int (0 : Int32)), (.ref t)]))
  refine W5.callS (y := (⟨"java/lang/StringLatin1", "newString", "([BII)Ljava/lang/String;"⟩ : MethodName)) (cx.w 221 rfl) (cx.w 222 rfl) (cx.w 177 rfl) (cx.w 223 rfl) (by decide) (ct_ns_0 cx W5.old t k_t cs hk hl S_a.ch V_t) all0 (by decide) (Wd := 0) (by decide) (k' := 2) (n' := 4) rfl rfl (by decide) (by decide) (by rw [hml]; rfl) (argsL := [(.ref t), (.int (0 : Int32)), (.int (0 : Int32))]) (rest := []) rfl (lenOf pd19 rfl) rfl (Nat.le_of_eq rfl) (hb hby d35_41) ?_
  intro v6 vm6 T6 h6 L6 W6 q6
  obtain ⟨y, ty, rfl, K1, S_y⟩ := q6
  show Go p_ e_ bl_ _ (T6.setTop (mkF m_ 44 #[.val (.ref a), .val (.int (0 : Int32)), .val (.int (0 : Int32)), .val (.int (Int32.ofNat cs.length)), .val (.int (0 : Int32))] [(.ref y)]))
  refine Go.st (fun _ => XS.goto W6.here W6.ex rfl (pc0 := 44) (pc' := 57) rfl (hb hby d35_44) (by decide) (by decide)) ?_
  show Go p_ e_ bl_ _ (T6.setTop (mkF m_ 57 #[.val (.ref a), .val (.int (0 : Int32)), .val (.int (0 : Int32)), .val (.int (Int32.ofNat cs.length)), .val (.int (0 : Int32))] [(.ref y)]))
  exact W6.retA hret rfl rfl (hb hby d35_57) (by decide) (by decide) fun _ _ => ⟨y, ty, rfl, K1, S_y⟩
set_option maxRecDepth 65536 in
set_option maxHeartbeats 40000000 in
theorem ct_sub_1 {l : Launch} {Z : State} {a0 : Array Value} {n0 : Nat} {g1 : Int32} {gf : Value} {ea : Addr} {kea : ClassId} (cx : Ctx Z a0 n0 g1 gf ea kea) {h : Heap} (O : Old Z n0 h) (a t : Addr) (cs : List Int32) (hk : 1 < cs.length) (hl : cs.length ≤ 4) (S_a : StrAt Z h a t cs) :
    Ct l Z consts_1 n0 [] (⟨"java/lang/String", "substring", "(II)Ljava/lang/String;"⟩ : MethodName) jdk_42_method_92_code 5 (some (.object "java/lang/String")) ({ frames := 4, cells := 2, slots := 7, locals := 64 } : Room) #[(.ref a), (.int (0 : Int32)), (.int (1 : Int32))] [] h (fun v _ h' => ∃ (a t : Addr), v = some (.ref a) ∧ Keep h h' [] ∧ StrAt Z h' a t (cs.take 1)) := by
  refine Ct.intro (plainFor_of_name pn0) O cx.ew ?_
  intro p_ e_ s_ m_ bl_ mt_ c_ T0 W0 hby hml hret hnm
  refine Go.st (fun t_ k_ => castTop (g' := mkF m_ 0 #[.val (.ref a), .val (.int (0 : Int32)), .val (.int (1 : Int32)), .unset, .unset] []) (by first | (simp [entryFrame, mkF, argsToLocals, Value.category]; done) | rfl) k_) ?_
  show Go p_ e_ bl_ _ (T0.setTop (mkF m_ 0 #[.val (.ref a), .val (.int (0 : Int32)), .val (.int (1 : Int32)), .unset, .unset] []))
  have E_a := S_a.1
  have F_coder_a := S_a.2.1
  have F_value_a := S_a.2.2.1
  obtain ⟨k_t, V_t⟩ := S_a.kb
  refine Go.st (fun _ => XS.aloadN W0.here W0.ex rfl (hb hby d35_0) rfl rfl) ?_
  show Go p_ e_ bl_ _ (T0.setTop (mkF m_ 1 #[.val (.ref a), .val (.int (0 : Int32)), .val (.int (1 : Int32)), .unset, .unset] [(.ref a)]))
  obtain ⟨k1_1, V1_1⟩ := S_a.kb
  refine W0.libV (y := (⟨"java/lang/String", "length", "()I"⟩ : MethodName)) (z := (⟨"java/lang/String", "length", "()I"⟩ : MethodName)) (cx.w 165 rfl) (cx.w 166 rfl) (cx.w 168 rfl) (cx.w 167 rfl) (W0.nf (cx.w 168 rfl)) (by decide) E_a (Q := fun v h' L' => v = some (.int (Int32.ofNat (cs).length)) ∧ L' = [] ∧ h' = h) (ws := []) (Wd := 0) (ck := 0) (cn := 0) (StrChars.Road.lenW (W := 0) W0.hZ cx.lw (kI := 4) (cx.w 9 rfl) (cs := cs) S_a.1 S_a.2.2.1 S_a.2.1 V1_1 (StrChars.Road.codOf rfl fun c hc => (S_a.ch c hc).2) S_a.ch.up (cx.cmp.ext W0.e0) cx.g1 S_a.le (by decide) (by decide)) (fun v h' L' q => ⟨by rw [q.2.1]; exact Fr.nil _, by rw [q.2.2]; exact Keep.refl _ _⟩) all0 all0 (k' := 0) (n' := 0) rfl rfl (by decide) (by decide) (by rw [hml]; rfl) (a := a) (argsL := []) (rest := []) rfl (lenOf pd13 rfl) rfl (Nat.le_of_eq rfl) (hb hby d35_1) ?_
  intro v2 T2 h2 M2 L2 W2 q2
  obtain ⟨rfl, -, eh_⟩ := q2
  subst h2
  show Go p_ e_ bl_ _ (T2.setTop (mkF m_ 4 #[.val (.ref a), .val (.int (0 : Int32)), .val (.int (1 : Int32)), .unset, .unset] [(.int (Int32.ofNat cs.length))]))
  refine Go.st (fun _ => XS.istoreN W2.here W2.ex rfl (hb hby d35_4) rfl (l' := #[.val (.ref a), .val (.int (0 : Int32)), .val (.int (1 : Int32)), .val (.int (Int32.ofNat cs.length)), .unset]) rfl) ?_
  show Go p_ e_ bl_ _ (T2.setTop (mkF m_ 5 #[.val (.ref a), .val (.int (0 : Int32)), .val (.int (1 : Int32)), .val (.int (Int32.ofNat cs.length)), .unset] []))
  refine Go.st (fun _ => XS.iloadN W2.here W2.ex rfl (hb hby d35_5) rfl) ?_
  show Go p_ e_ bl_ _ (T2.setTop (mkF m_ 6 #[.val (.ref a), .val (.int (0 : Int32)), .val (.int (1 : Int32)), .val (.int (Int32.ofNat cs.length)), .unset] [(.int (0 : Int32))]))
  refine Go.st (fun _ => XS.iloadN W2.here W2.ex rfl (hb hby d35_6) rfl) ?_
  show Go p_ e_ bl_ _ (T2.setTop (mkF m_ 7 #[.val (.ref a), .val (.int (0 : Int32)), .val (.int (1 : Int32)), .val (.int (Int32.ofNat cs.length)), .unset] [(.int (1 : Int32)), (.int (0 : Int32))]))
  refine Go.st (fun _ => XS.iloadN W2.here W2.ex rfl (hb hby d35_7) rfl) ?_
  show Go p_ e_ bl_ _ (T2.setTop (mkF m_ 8 #[.val (.ref a), .val (.int (0 : Int32)), .val (.int (1 : Int32)), .val (.int (Int32.ofNat cs.length)), .unset] [(.int (Int32.ofNat cs.length)), (.int (1 : Int32)), (.int (0 : Int32))]))
  refine W2.callS (y := (⟨"java/lang/String", "checkBoundsBeginEnd", "(III)V"⟩ : MethodName)) (cx.w 213 rfl) (cx.w 214 rfl) (cx.w 10 rfl) (cx.w 215 rfl) (by decide) (ct_cb cx W2.old (1 : Int32) (Int32.ofNat cs.length) (by decide) (nlt_lt (len_lt hl hk).1)) all0 (by decide) (Wd := 0) (by decide) (k' := 0) (n' := 0) rfl rfl (by decide) (by decide) (by rw [hml]; rfl) (argsL := [(.int (0 : Int32)), (.int (1 : Int32)), (.int (Int32.ofNat cs.length))]) (rest := []) rfl (lenOf pd18 rfl) rfl (Nat.le_of_eq rfl) (hb hby d35_8) ?_
  intro v3 vm3 T3 h3 L3 W3 q3
  obtain ⟨rfl, eh_⟩ := q3
  subst h3
  show Go p_ e_ bl_ _ (T3.setTop (mkF m_ 11 #[.val (.ref a), .val (.int (0 : Int32)), .val (.int (1 : Int32)), .val (.int (Int32.ofNat cs.length)), .unset] []))
  refine Go.st (fun _ => XS.iloadN W3.here W3.ex rfl (hb hby d35_11) rfl) ?_
  show Go p_ e_ bl_ _ (T3.setTop (mkF m_ 12 #[.val (.ref a), .val (.int (0 : Int32)), .val (.int (1 : Int32)), .val (.int (Int32.ofNat cs.length)), .unset] [(.int (0 : Int32))]))
  refine Go.st (fun _ => XS.ifNo W3.here W3.ex rfl (hb hby d35_12) rfl ((if0 _ _).trans (teq (rfl : (0 : Int32) = (0 : Int32))).2)) ?_
  show Go p_ e_ bl_ _ (T3.setTop (mkF m_ 15 #[.val (.ref a), .val (.int (0 : Int32)), .val (.int (1 : Int32)), .val (.int (Int32.ofNat cs.length)), .unset] []))
  refine Go.st (fun _ => XS.iloadN W3.here W3.ex rfl (hb hby d35_15) rfl) ?_
  show Go p_ e_ bl_ _ (T3.setTop (mkF m_ 16 #[.val (.ref a), .val (.int (0 : Int32)), .val (.int (1 : Int32)), .val (.int (Int32.ofNat cs.length)), .unset] [(.int (1 : Int32))]))
  refine Go.st (fun _ => XS.iloadN W3.here W3.ex rfl (hb hby d35_16) rfl) ?_
  show Go p_ e_ bl_ _ (T3.setTop (mkF m_ 17 #[.val (.ref a), .val (.int (0 : Int32)), .val (.int (1 : Int32)), .val (.int (Int32.ofNat cs.length)), .unset] [(.int (Int32.ofNat cs.length)), (.int (1 : Int32))]))
  refine Go.st (fun _ => XS.icmpYes W3.here W3.ex rfl (pc0 := 17) (pc' := 22) rfl (hb hby d35_17) rfl (feq (ne_lt (len_lt hl hk).1 : ¬ ((1 : Int32) = (Int32.ofNat cs.length)))).2 (by decide) (by decide)) ?_
  show Go p_ e_ bl_ _ (T3.setTop (mkF m_ 22 #[.val (.ref a), .val (.int (0 : Int32)), .val (.int (1 : Int32)), .val (.int (Int32.ofNat cs.length)), .unset] []))
  refine Go.st (fun _ => XS.iloadN W3.here W3.ex rfl (hb hby d35_22) rfl) ?_
  show Go p_ e_ bl_ _ (T3.setTop (mkF m_ 23 #[.val (.ref a), .val (.int (0 : Int32)), .val (.int (1 : Int32)), .val (.int (Int32.ofNat cs.length)), .unset] [(.int (1 : Int32))]))
  refine Go.st (fun _ => XS.iloadN W3.here W3.ex rfl (hb hby d35_23) rfl) ?_
  show Go p_ e_ bl_ _ (T3.setTop (mkF m_ 24 #[.val (.ref a), .val (.int (0 : Int32)), .val (.int (1 : Int32)), .val (.int (Int32.ofNat cs.length)), .unset] [(.int (0 : Int32)), (.int (1 : Int32))]))
  refine Go.st (fun _ => XS.isub W3.here W3.ex rfl (hb hby d35_24) rfl) ?_
  show Go p_ e_ bl_ _ (T3.setTop (mkF m_ 25 #[.val (.ref a), .val (.int (0 : Int32)), .val (.int (1 : Int32)), .val (.int (Int32.ofNat cs.length)), .unset] [(.int ((1 : Int32) - (0 : Int32)))]))
  show Go p_ e_ bl_ _ (T3.setTop (mkF m_ 25 #[.val (.ref a), .val (.int (0 : Int32)), .val (.int (1 : Int32)), .val (.int (Int32.ofNat cs.length)), .unset] [(.int (1 : Int32))]))
  refine Go.st (fun _ => XS.istore W3.here W3.ex rfl (hb hby d35_25) rfl (l' := #[.val (.ref a), .val (.int (0 : Int32)), .val (.int (1 : Int32)), .val (.int (Int32.ofNat cs.length)), .val (.int (1 : Int32))]) rfl) ?_
  show Go p_ e_ bl_ _ (T3.setTop (mkF m_ 27 #[.val (.ref a), .val (.int (0 : Int32)), .val (.int (1 : Int32)), .val (.int (Int32.ofNat cs.length)), .val (.int (1 : Int32))] []))
  refine Go.st (fun _ => XS.aloadN W3.here W3.ex rfl (hb hby d35_27) rfl rfl) ?_
  show Go p_ e_ bl_ _ (T3.setTop (mkF m_ 28 #[.val (.ref a), .val (.int (0 : Int32)), .val (.int (1 : Int32)), .val (.int (Int32.ofNat cs.length)), .val (.int (1 : Int32))] [(.ref a)]))
  refine W3.callV (y := (⟨"java/lang/String", "isLatin1", "()Z"⟩ : MethodName)) (z := (⟨"java/lang/String", "isLatin1", "()Z"⟩ : MethodName)) (cx.w 159 rfl) (cx.w 160 rfl) (cx.w 162 rfl) (cx.w 161 rfl) (cx.w 10 rfl) (cx.w 163 rfl) (W3.nf (cx.w 162 rfl)) (by decide) E_a (ct_isL cx W3.old a t cs S_a) all0 (by decide) (Wd := 0) (by decide) (k' := 0) (n' := 0) rfl rfl (by decide) (by decide) (by rw [hml]; rfl) (a := a) (argsL := []) (rest := []) rfl (lenOf pd12 rfl) rfl (Nat.le_of_eq rfl) (hb hby d35_28) ?_
  intro v4 vm4 T4 h4 L4 W4 q4
  obtain ⟨rfl, eh_⟩ := q4
  subst h4
  show Go p_ e_ bl_ _ (T4.setTop (mkF m_ 31 #[.val (.ref a), .val (.int (0 : Int32)), .val (.int (1 : Int32)), .val (.int (Int32.ofNat cs.length)), .val (.int (1 : Int32))] [(.int (1 : Int32))]))
  refine Go.st (fun _ => XS.ifNo W4.here W4.ex rfl (hb hby d35_31) rfl ((if0 _ _).trans (feq ((by decide) : ¬ ((1 : Int32) = (0 : Int32)))).1)) ?_
  show Go p_ e_ bl_ _ (T4.setTop (mkF m_ 34 #[.val (.ref a), .val (.int (0 : Int32)), .val (.int (1 : Int32)), .val (.int (Int32.ofNat cs.length)), .val (.int (1 : Int32))] []))
  refine Go.st (fun _ => XS.aloadN W4.here W4.ex rfl (hb hby d35_34) rfl rfl) ?_
  show Go p_ e_ bl_ _ (T4.setTop (mkF m_ 35 #[.val (.ref a), .val (.int (0 : Int32)), .val (.int (1 : Int32)), .val (.int (Int32.ofNat cs.length)), .val (.int (1 : Int32))] [(.ref a)]))
  refine W4.getF (cx.w 28 rfl) Via.refl F_value_a (hb hby d35_35) ?_
  intro T5 W5
  show Go p_ e_ bl_ _ (T5.setTop (mkF m_ 38 #[.val (.ref a), .val (.int (0 : Int32)), .val (.int (1 : Int32)), .val (.int (Int32.ofNat cs.length)), .val (.int (1 : Int32))] [(.ref t)]))
  refine Go.st (fun _ => XS.iloadN W5.here W5.ex rfl (hb hby d35_38) rfl) ?_
  show Go p_ e_ bl_ _ (T5.setTop (mkF m_ 39 #[.val (.ref a), .val (.int (0 : Int32)), .val (.int (1 : Int32)), .val (.int (Int32.ofNat cs.length)), .val (.int (1 : Int32))] [(.int (0 : Int32)), (.ref t)]))
  refine Go.st (fun _ => XS.iload W5.here W5.ex rfl (hb hby d35_39) rfl) ?_
  show Go p_ e_ bl_ _ (T5.setTop (mkF m_ 41 #[.val (.ref a), .val (.int (0 : Int32)), .val (.int (1 : Int32)), .val (.int (Int32.ofNat cs.length)), .val (.int (1 : Int32))] [(.int (1 : Int32)), (.int (0 : Int32)), (.ref t)]))
  refine W5.callS (y := (⟨"java/lang/StringLatin1", "newString", "([BII)Ljava/lang/String;"⟩ : MethodName)) (cx.w 221 rfl) (cx.w 222 rfl) (cx.w 177 rfl) (cx.w 223 rfl) (by decide) (ct_ns_1 cx W5.old t k_t cs hk hl S_a.ch V_t) all0 (by decide) (Wd := 0) (by decide) (k' := 2) (n' := 5) rfl rfl (by decide) (by decide) (by rw [hml]; rfl) (argsL := [(.ref t), (.int (0 : Int32)), (.int (1 : Int32))]) (rest := []) rfl (lenOf pd19 rfl) rfl (Nat.le_of_eq rfl) (hb hby d35_41) ?_
  intro v6 vm6 T6 h6 L6 W6 q6
  obtain ⟨y, ty, rfl, K1, S_y⟩ := q6
  show Go p_ e_ bl_ _ (T6.setTop (mkF m_ 44 #[.val (.ref a), .val (.int (0 : Int32)), .val (.int (1 : Int32)), .val (.int (Int32.ofNat cs.length)), .val (.int (1 : Int32))] [(.ref y)]))
  refine Go.st (fun _ => XS.goto W6.here W6.ex rfl (pc0 := 44) (pc' := 57) rfl (hb hby d35_44) (by decide) (by decide)) ?_
  show Go p_ e_ bl_ _ (T6.setTop (mkF m_ 57 #[.val (.ref a), .val (.int (0 : Int32)), .val (.int (1 : Int32)), .val (.int (Int32.ofNat cs.length)), .val (.int (1 : Int32))] [(.ref y)]))
  exact W6.retA hret rfl rfl (hb hby d35_57) (by decide) (by decide) fun _ _ => ⟨y, ty, rfl, K1, S_y⟩
set_option maxRecDepth 65536 in
set_option maxHeartbeats 40000000 in
theorem ct_sub_2 {l : Launch} {Z : State} {a0 : Array Value} {n0 : Nat} {g1 : Int32} {gf : Value} {ea : Addr} {kea : ClassId} (cx : Ctx Z a0 n0 g1 gf ea kea) {h : Heap} (O : Old Z n0 h) (a t : Addr) (cs : List Int32) (hk : 2 < cs.length) (hl : cs.length ≤ 4) (S_a : StrAt Z h a t cs) :
    Ct l Z consts_1 n0 [] (⟨"java/lang/String", "substring", "(II)Ljava/lang/String;"⟩ : MethodName) jdk_42_method_92_code 5 (some (.object "java/lang/String")) ({ frames := 4, cells := 2, slots := 7, locals := 64 } : Room) #[(.ref a), (.int (0 : Int32)), (.int (2 : Int32))] [] h (fun v _ h' => ∃ (a t : Addr), v = some (.ref a) ∧ Keep h h' [] ∧ StrAt Z h' a t (cs.take 2)) := by
  refine Ct.intro (plainFor_of_name pn0) O cx.ew ?_
  intro p_ e_ s_ m_ bl_ mt_ c_ T0 W0 hby hml hret hnm
  refine Go.st (fun t_ k_ => castTop (g' := mkF m_ 0 #[.val (.ref a), .val (.int (0 : Int32)), .val (.int (2 : Int32)), .unset, .unset] []) (by first | (simp [entryFrame, mkF, argsToLocals, Value.category]; done) | rfl) k_) ?_
  show Go p_ e_ bl_ _ (T0.setTop (mkF m_ 0 #[.val (.ref a), .val (.int (0 : Int32)), .val (.int (2 : Int32)), .unset, .unset] []))
  have E_a := S_a.1
  have F_coder_a := S_a.2.1
  have F_value_a := S_a.2.2.1
  obtain ⟨k_t, V_t⟩ := S_a.kb
  refine Go.st (fun _ => XS.aloadN W0.here W0.ex rfl (hb hby d35_0) rfl rfl) ?_
  show Go p_ e_ bl_ _ (T0.setTop (mkF m_ 1 #[.val (.ref a), .val (.int (0 : Int32)), .val (.int (2 : Int32)), .unset, .unset] [(.ref a)]))
  obtain ⟨k1_1, V1_1⟩ := S_a.kb
  refine W0.libV (y := (⟨"java/lang/String", "length", "()I"⟩ : MethodName)) (z := (⟨"java/lang/String", "length", "()I"⟩ : MethodName)) (cx.w 165 rfl) (cx.w 166 rfl) (cx.w 168 rfl) (cx.w 167 rfl) (W0.nf (cx.w 168 rfl)) (by decide) E_a (Q := fun v h' L' => v = some (.int (Int32.ofNat (cs).length)) ∧ L' = [] ∧ h' = h) (ws := []) (Wd := 0) (ck := 0) (cn := 0) (StrChars.Road.lenW (W := 0) W0.hZ cx.lw (kI := 4) (cx.w 9 rfl) (cs := cs) S_a.1 S_a.2.2.1 S_a.2.1 V1_1 (StrChars.Road.codOf rfl fun c hc => (S_a.ch c hc).2) S_a.ch.up (cx.cmp.ext W0.e0) cx.g1 S_a.le (by decide) (by decide)) (fun v h' L' q => ⟨by rw [q.2.1]; exact Fr.nil _, by rw [q.2.2]; exact Keep.refl _ _⟩) all0 all0 (k' := 0) (n' := 0) rfl rfl (by decide) (by decide) (by rw [hml]; rfl) (a := a) (argsL := []) (rest := []) rfl (lenOf pd13 rfl) rfl (Nat.le_of_eq rfl) (hb hby d35_1) ?_
  intro v2 T2 h2 M2 L2 W2 q2
  obtain ⟨rfl, -, eh_⟩ := q2
  subst h2
  show Go p_ e_ bl_ _ (T2.setTop (mkF m_ 4 #[.val (.ref a), .val (.int (0 : Int32)), .val (.int (2 : Int32)), .unset, .unset] [(.int (Int32.ofNat cs.length))]))
  refine Go.st (fun _ => XS.istoreN W2.here W2.ex rfl (hb hby d35_4) rfl (l' := #[.val (.ref a), .val (.int (0 : Int32)), .val (.int (2 : Int32)), .val (.int (Int32.ofNat cs.length)), .unset]) rfl) ?_
  show Go p_ e_ bl_ _ (T2.setTop (mkF m_ 5 #[.val (.ref a), .val (.int (0 : Int32)), .val (.int (2 : Int32)), .val (.int (Int32.ofNat cs.length)), .unset] []))
  refine Go.st (fun _ => XS.iloadN W2.here W2.ex rfl (hb hby d35_5) rfl) ?_
  show Go p_ e_ bl_ _ (T2.setTop (mkF m_ 6 #[.val (.ref a), .val (.int (0 : Int32)), .val (.int (2 : Int32)), .val (.int (Int32.ofNat cs.length)), .unset] [(.int (0 : Int32))]))
  refine Go.st (fun _ => XS.iloadN W2.here W2.ex rfl (hb hby d35_6) rfl) ?_
  show Go p_ e_ bl_ _ (T2.setTop (mkF m_ 7 #[.val (.ref a), .val (.int (0 : Int32)), .val (.int (2 : Int32)), .val (.int (Int32.ofNat cs.length)), .unset] [(.int (2 : Int32)), (.int (0 : Int32))]))
  refine Go.st (fun _ => XS.iloadN W2.here W2.ex rfl (hb hby d35_7) rfl) ?_
  show Go p_ e_ bl_ _ (T2.setTop (mkF m_ 8 #[.val (.ref a), .val (.int (0 : Int32)), .val (.int (2 : Int32)), .val (.int (Int32.ofNat cs.length)), .unset] [(.int (Int32.ofNat cs.length)), (.int (2 : Int32)), (.int (0 : Int32))]))
  refine W2.callS (y := (⟨"java/lang/String", "checkBoundsBeginEnd", "(III)V"⟩ : MethodName)) (cx.w 213 rfl) (cx.w 214 rfl) (cx.w 10 rfl) (cx.w 215 rfl) (by decide) (ct_cb cx W2.old (2 : Int32) (Int32.ofNat cs.length) (by decide) (nlt_lt (len_lt hl hk).1)) all0 (by decide) (Wd := 0) (by decide) (k' := 0) (n' := 0) rfl rfl (by decide) (by decide) (by rw [hml]; rfl) (argsL := [(.int (0 : Int32)), (.int (2 : Int32)), (.int (Int32.ofNat cs.length))]) (rest := []) rfl (lenOf pd18 rfl) rfl (Nat.le_of_eq rfl) (hb hby d35_8) ?_
  intro v3 vm3 T3 h3 L3 W3 q3
  obtain ⟨rfl, eh_⟩ := q3
  subst h3
  show Go p_ e_ bl_ _ (T3.setTop (mkF m_ 11 #[.val (.ref a), .val (.int (0 : Int32)), .val (.int (2 : Int32)), .val (.int (Int32.ofNat cs.length)), .unset] []))
  refine Go.st (fun _ => XS.iloadN W3.here W3.ex rfl (hb hby d35_11) rfl) ?_
  show Go p_ e_ bl_ _ (T3.setTop (mkF m_ 12 #[.val (.ref a), .val (.int (0 : Int32)), .val (.int (2 : Int32)), .val (.int (Int32.ofNat cs.length)), .unset] [(.int (0 : Int32))]))
  refine Go.st (fun _ => XS.ifNo W3.here W3.ex rfl (hb hby d35_12) rfl ((if0 _ _).trans (teq (rfl : (0 : Int32) = (0 : Int32))).2)) ?_
  show Go p_ e_ bl_ _ (T3.setTop (mkF m_ 15 #[.val (.ref a), .val (.int (0 : Int32)), .val (.int (2 : Int32)), .val (.int (Int32.ofNat cs.length)), .unset] []))
  refine Go.st (fun _ => XS.iloadN W3.here W3.ex rfl (hb hby d35_15) rfl) ?_
  show Go p_ e_ bl_ _ (T3.setTop (mkF m_ 16 #[.val (.ref a), .val (.int (0 : Int32)), .val (.int (2 : Int32)), .val (.int (Int32.ofNat cs.length)), .unset] [(.int (2 : Int32))]))
  refine Go.st (fun _ => XS.iloadN W3.here W3.ex rfl (hb hby d35_16) rfl) ?_
  show Go p_ e_ bl_ _ (T3.setTop (mkF m_ 17 #[.val (.ref a), .val (.int (0 : Int32)), .val (.int (2 : Int32)), .val (.int (Int32.ofNat cs.length)), .unset] [(.int (Int32.ofNat cs.length)), (.int (2 : Int32))]))
  refine Go.st (fun _ => XS.icmpYes W3.here W3.ex rfl (pc0 := 17) (pc' := 22) rfl (hb hby d35_17) rfl (feq (ne_lt (len_lt hl hk).1 : ¬ ((2 : Int32) = (Int32.ofNat cs.length)))).2 (by decide) (by decide)) ?_
  show Go p_ e_ bl_ _ (T3.setTop (mkF m_ 22 #[.val (.ref a), .val (.int (0 : Int32)), .val (.int (2 : Int32)), .val (.int (Int32.ofNat cs.length)), .unset] []))
  refine Go.st (fun _ => XS.iloadN W3.here W3.ex rfl (hb hby d35_22) rfl) ?_
  show Go p_ e_ bl_ _ (T3.setTop (mkF m_ 23 #[.val (.ref a), .val (.int (0 : Int32)), .val (.int (2 : Int32)), .val (.int (Int32.ofNat cs.length)), .unset] [(.int (2 : Int32))]))
  refine Go.st (fun _ => XS.iloadN W3.here W3.ex rfl (hb hby d35_23) rfl) ?_
  show Go p_ e_ bl_ _ (T3.setTop (mkF m_ 24 #[.val (.ref a), .val (.int (0 : Int32)), .val (.int (2 : Int32)), .val (.int (Int32.ofNat cs.length)), .unset] [(.int (0 : Int32)), (.int (2 : Int32))]))
  refine Go.st (fun _ => XS.isub W3.here W3.ex rfl (hb hby d35_24) rfl) ?_
  show Go p_ e_ bl_ _ (T3.setTop (mkF m_ 25 #[.val (.ref a), .val (.int (0 : Int32)), .val (.int (2 : Int32)), .val (.int (Int32.ofNat cs.length)), .unset] [(.int ((2 : Int32) - (0 : Int32)))]))
  show Go p_ e_ bl_ _ (T3.setTop (mkF m_ 25 #[.val (.ref a), .val (.int (0 : Int32)), .val (.int (2 : Int32)), .val (.int (Int32.ofNat cs.length)), .unset] [(.int (2 : Int32))]))
  refine Go.st (fun _ => XS.istore W3.here W3.ex rfl (hb hby d35_25) rfl (l' := #[.val (.ref a), .val (.int (0 : Int32)), .val (.int (2 : Int32)), .val (.int (Int32.ofNat cs.length)), .val (.int (2 : Int32))]) rfl) ?_
  show Go p_ e_ bl_ _ (T3.setTop (mkF m_ 27 #[.val (.ref a), .val (.int (0 : Int32)), .val (.int (2 : Int32)), .val (.int (Int32.ofNat cs.length)), .val (.int (2 : Int32))] []))
  refine Go.st (fun _ => XS.aloadN W3.here W3.ex rfl (hb hby d35_27) rfl rfl) ?_
  show Go p_ e_ bl_ _ (T3.setTop (mkF m_ 28 #[.val (.ref a), .val (.int (0 : Int32)), .val (.int (2 : Int32)), .val (.int (Int32.ofNat cs.length)), .val (.int (2 : Int32))] [(.ref a)]))
  refine W3.callV (y := (⟨"java/lang/String", "isLatin1", "()Z"⟩ : MethodName)) (z := (⟨"java/lang/String", "isLatin1", "()Z"⟩ : MethodName)) (cx.w 159 rfl) (cx.w 160 rfl) (cx.w 162 rfl) (cx.w 161 rfl) (cx.w 10 rfl) (cx.w 163 rfl) (W3.nf (cx.w 162 rfl)) (by decide) E_a (ct_isL cx W3.old a t cs S_a) all0 (by decide) (Wd := 0) (by decide) (k' := 0) (n' := 0) rfl rfl (by decide) (by decide) (by rw [hml]; rfl) (a := a) (argsL := []) (rest := []) rfl (lenOf pd12 rfl) rfl (Nat.le_of_eq rfl) (hb hby d35_28) ?_
  intro v4 vm4 T4 h4 L4 W4 q4
  obtain ⟨rfl, eh_⟩ := q4
  subst h4
  show Go p_ e_ bl_ _ (T4.setTop (mkF m_ 31 #[.val (.ref a), .val (.int (0 : Int32)), .val (.int (2 : Int32)), .val (.int (Int32.ofNat cs.length)), .val (.int (2 : Int32))] [(.int (1 : Int32))]))
  refine Go.st (fun _ => XS.ifNo W4.here W4.ex rfl (hb hby d35_31) rfl ((if0 _ _).trans (feq ((by decide) : ¬ ((1 : Int32) = (0 : Int32)))).1)) ?_
  show Go p_ e_ bl_ _ (T4.setTop (mkF m_ 34 #[.val (.ref a), .val (.int (0 : Int32)), .val (.int (2 : Int32)), .val (.int (Int32.ofNat cs.length)), .val (.int (2 : Int32))] []))
  refine Go.st (fun _ => XS.aloadN W4.here W4.ex rfl (hb hby d35_34) rfl rfl) ?_
  show Go p_ e_ bl_ _ (T4.setTop (mkF m_ 35 #[.val (.ref a), .val (.int (0 : Int32)), .val (.int (2 : Int32)), .val (.int (Int32.ofNat cs.length)), .val (.int (2 : Int32))] [(.ref a)]))
  refine W4.getF (cx.w 28 rfl) Via.refl F_value_a (hb hby d35_35) ?_
  intro T5 W5
  show Go p_ e_ bl_ _ (T5.setTop (mkF m_ 38 #[.val (.ref a), .val (.int (0 : Int32)), .val (.int (2 : Int32)), .val (.int (Int32.ofNat cs.length)), .val (.int (2 : Int32))] [(.ref t)]))
  refine Go.st (fun _ => XS.iloadN W5.here W5.ex rfl (hb hby d35_38) rfl) ?_
  show Go p_ e_ bl_ _ (T5.setTop (mkF m_ 39 #[.val (.ref a), .val (.int (0 : Int32)), .val (.int (2 : Int32)), .val (.int (Int32.ofNat cs.length)), .val (.int (2 : Int32))] [(.int (0 : Int32)), (.ref t)]))
  refine Go.st (fun _ => XS.iload W5.here W5.ex rfl (hb hby d35_39) rfl) ?_
  show Go p_ e_ bl_ _ (T5.setTop (mkF m_ 41 #[.val (.ref a), .val (.int (0 : Int32)), .val (.int (2 : Int32)), .val (.int (Int32.ofNat cs.length)), .val (.int (2 : Int32))] [(.int (2 : Int32)), (.int (0 : Int32)), (.ref t)]))
  refine W5.callS (y := (⟨"java/lang/StringLatin1", "newString", "([BII)Ljava/lang/String;"⟩ : MethodName)) (cx.w 221 rfl) (cx.w 222 rfl) (cx.w 177 rfl) (cx.w 223 rfl) (by decide) (ct_ns_2 cx W5.old t k_t cs hk hl S_a.ch V_t) all0 (by decide) (Wd := 0) (by decide) (k' := 2) (n' := 6) rfl rfl (by decide) (by decide) (by rw [hml]; rfl) (argsL := [(.ref t), (.int (0 : Int32)), (.int (2 : Int32))]) (rest := []) rfl (lenOf pd19 rfl) rfl (Nat.le_of_eq rfl) (hb hby d35_41) ?_
  intro v6 vm6 T6 h6 L6 W6 q6
  obtain ⟨y, ty, rfl, K1, S_y⟩ := q6
  show Go p_ e_ bl_ _ (T6.setTop (mkF m_ 44 #[.val (.ref a), .val (.int (0 : Int32)), .val (.int (2 : Int32)), .val (.int (Int32.ofNat cs.length)), .val (.int (2 : Int32))] [(.ref y)]))
  refine Go.st (fun _ => XS.goto W6.here W6.ex rfl (pc0 := 44) (pc' := 57) rfl (hb hby d35_44) (by decide) (by decide)) ?_
  show Go p_ e_ bl_ _ (T6.setTop (mkF m_ 57 #[.val (.ref a), .val (.int (0 : Int32)), .val (.int (2 : Int32)), .val (.int (Int32.ofNat cs.length)), .val (.int (2 : Int32))] [(.ref y)]))
  exact W6.retA hret rfl rfl (hb hby d35_57) (by decide) (by decide) fun _ _ => ⟨y, ty, rfl, K1, S_y⟩
set_option maxRecDepth 65536 in
set_option maxHeartbeats 40000000 in
theorem ct_sub_3 {l : Launch} {Z : State} {a0 : Array Value} {n0 : Nat} {g1 : Int32} {gf : Value} {ea : Addr} {kea : ClassId} (cx : Ctx Z a0 n0 g1 gf ea kea) {h : Heap} (O : Old Z n0 h) (a t : Addr) (cs : List Int32) (hk : 3 < cs.length) (hl : cs.length ≤ 4) (S_a : StrAt Z h a t cs) :
    Ct l Z consts_1 n0 [] (⟨"java/lang/String", "substring", "(II)Ljava/lang/String;"⟩ : MethodName) jdk_42_method_92_code 5 (some (.object "java/lang/String")) ({ frames := 4, cells := 2, slots := 7, locals := 64 } : Room) #[(.ref a), (.int (0 : Int32)), (.int (3 : Int32))] [] h (fun v _ h' => ∃ (a t : Addr), v = some (.ref a) ∧ Keep h h' [] ∧ StrAt Z h' a t (cs.take 3)) := by
  refine Ct.intro (plainFor_of_name pn0) O cx.ew ?_
  intro p_ e_ s_ m_ bl_ mt_ c_ T0 W0 hby hml hret hnm
  refine Go.st (fun t_ k_ => castTop (g' := mkF m_ 0 #[.val (.ref a), .val (.int (0 : Int32)), .val (.int (3 : Int32)), .unset, .unset] []) (by first | (simp [entryFrame, mkF, argsToLocals, Value.category]; done) | rfl) k_) ?_
  show Go p_ e_ bl_ _ (T0.setTop (mkF m_ 0 #[.val (.ref a), .val (.int (0 : Int32)), .val (.int (3 : Int32)), .unset, .unset] []))
  have E_a := S_a.1
  have F_coder_a := S_a.2.1
  have F_value_a := S_a.2.2.1
  obtain ⟨k_t, V_t⟩ := S_a.kb
  refine Go.st (fun _ => XS.aloadN W0.here W0.ex rfl (hb hby d35_0) rfl rfl) ?_
  show Go p_ e_ bl_ _ (T0.setTop (mkF m_ 1 #[.val (.ref a), .val (.int (0 : Int32)), .val (.int (3 : Int32)), .unset, .unset] [(.ref a)]))
  obtain ⟨k1_1, V1_1⟩ := S_a.kb
  refine W0.libV (y := (⟨"java/lang/String", "length", "()I"⟩ : MethodName)) (z := (⟨"java/lang/String", "length", "()I"⟩ : MethodName)) (cx.w 165 rfl) (cx.w 166 rfl) (cx.w 168 rfl) (cx.w 167 rfl) (W0.nf (cx.w 168 rfl)) (by decide) E_a (Q := fun v h' L' => v = some (.int (Int32.ofNat (cs).length)) ∧ L' = [] ∧ h' = h) (ws := []) (Wd := 0) (ck := 0) (cn := 0) (StrChars.Road.lenW (W := 0) W0.hZ cx.lw (kI := 4) (cx.w 9 rfl) (cs := cs) S_a.1 S_a.2.2.1 S_a.2.1 V1_1 (StrChars.Road.codOf rfl fun c hc => (S_a.ch c hc).2) S_a.ch.up (cx.cmp.ext W0.e0) cx.g1 S_a.le (by decide) (by decide)) (fun v h' L' q => ⟨by rw [q.2.1]; exact Fr.nil _, by rw [q.2.2]; exact Keep.refl _ _⟩) all0 all0 (k' := 0) (n' := 0) rfl rfl (by decide) (by decide) (by rw [hml]; rfl) (a := a) (argsL := []) (rest := []) rfl (lenOf pd13 rfl) rfl (Nat.le_of_eq rfl) (hb hby d35_1) ?_
  intro v2 T2 h2 M2 L2 W2 q2
  obtain ⟨rfl, -, eh_⟩ := q2
  subst h2
  show Go p_ e_ bl_ _ (T2.setTop (mkF m_ 4 #[.val (.ref a), .val (.int (0 : Int32)), .val (.int (3 : Int32)), .unset, .unset] [(.int (Int32.ofNat cs.length))]))
  refine Go.st (fun _ => XS.istoreN W2.here W2.ex rfl (hb hby d35_4) rfl (l' := #[.val (.ref a), .val (.int (0 : Int32)), .val (.int (3 : Int32)), .val (.int (Int32.ofNat cs.length)), .unset]) rfl) ?_
  show Go p_ e_ bl_ _ (T2.setTop (mkF m_ 5 #[.val (.ref a), .val (.int (0 : Int32)), .val (.int (3 : Int32)), .val (.int (Int32.ofNat cs.length)), .unset] []))
  refine Go.st (fun _ => XS.iloadN W2.here W2.ex rfl (hb hby d35_5) rfl) ?_
  show Go p_ e_ bl_ _ (T2.setTop (mkF m_ 6 #[.val (.ref a), .val (.int (0 : Int32)), .val (.int (3 : Int32)), .val (.int (Int32.ofNat cs.length)), .unset] [(.int (0 : Int32))]))
  refine Go.st (fun _ => XS.iloadN W2.here W2.ex rfl (hb hby d35_6) rfl) ?_
  show Go p_ e_ bl_ _ (T2.setTop (mkF m_ 7 #[.val (.ref a), .val (.int (0 : Int32)), .val (.int (3 : Int32)), .val (.int (Int32.ofNat cs.length)), .unset] [(.int (3 : Int32)), (.int (0 : Int32))]))
  refine Go.st (fun _ => XS.iloadN W2.here W2.ex rfl (hb hby d35_7) rfl) ?_
  show Go p_ e_ bl_ _ (T2.setTop (mkF m_ 8 #[.val (.ref a), .val (.int (0 : Int32)), .val (.int (3 : Int32)), .val (.int (Int32.ofNat cs.length)), .unset] [(.int (Int32.ofNat cs.length)), (.int (3 : Int32)), (.int (0 : Int32))]))
  refine W2.callS (y := (⟨"java/lang/String", "checkBoundsBeginEnd", "(III)V"⟩ : MethodName)) (cx.w 213 rfl) (cx.w 214 rfl) (cx.w 10 rfl) (cx.w 215 rfl) (by decide) (ct_cb cx W2.old (3 : Int32) (Int32.ofNat cs.length) (by decide) (nlt_lt (len_lt hl hk).1)) all0 (by decide) (Wd := 0) (by decide) (k' := 0) (n' := 0) rfl rfl (by decide) (by decide) (by rw [hml]; rfl) (argsL := [(.int (0 : Int32)), (.int (3 : Int32)), (.int (Int32.ofNat cs.length))]) (rest := []) rfl (lenOf pd18 rfl) rfl (Nat.le_of_eq rfl) (hb hby d35_8) ?_
  intro v3 vm3 T3 h3 L3 W3 q3
  obtain ⟨rfl, eh_⟩ := q3
  subst h3
  show Go p_ e_ bl_ _ (T3.setTop (mkF m_ 11 #[.val (.ref a), .val (.int (0 : Int32)), .val (.int (3 : Int32)), .val (.int (Int32.ofNat cs.length)), .unset] []))
  refine Go.st (fun _ => XS.iloadN W3.here W3.ex rfl (hb hby d35_11) rfl) ?_
  show Go p_ e_ bl_ _ (T3.setTop (mkF m_ 12 #[.val (.ref a), .val (.int (0 : Int32)), .val (.int (3 : Int32)), .val (.int (Int32.ofNat cs.length)), .unset] [(.int (0 : Int32))]))
  refine Go.st (fun _ => XS.ifNo W3.here W3.ex rfl (hb hby d35_12) rfl ((if0 _ _).trans (teq (rfl : (0 : Int32) = (0 : Int32))).2)) ?_
  show Go p_ e_ bl_ _ (T3.setTop (mkF m_ 15 #[.val (.ref a), .val (.int (0 : Int32)), .val (.int (3 : Int32)), .val (.int (Int32.ofNat cs.length)), .unset] []))
  refine Go.st (fun _ => XS.iloadN W3.here W3.ex rfl (hb hby d35_15) rfl) ?_
  show Go p_ e_ bl_ _ (T3.setTop (mkF m_ 16 #[.val (.ref a), .val (.int (0 : Int32)), .val (.int (3 : Int32)), .val (.int (Int32.ofNat cs.length)), .unset] [(.int (3 : Int32))]))
  refine Go.st (fun _ => XS.iloadN W3.here W3.ex rfl (hb hby d35_16) rfl) ?_
  show Go p_ e_ bl_ _ (T3.setTop (mkF m_ 17 #[.val (.ref a), .val (.int (0 : Int32)), .val (.int (3 : Int32)), .val (.int (Int32.ofNat cs.length)), .unset] [(.int (Int32.ofNat cs.length)), (.int (3 : Int32))]))
  refine Go.st (fun _ => XS.icmpYes W3.here W3.ex rfl (pc0 := 17) (pc' := 22) rfl (hb hby d35_17) rfl (feq (ne_lt (len_lt hl hk).1 : ¬ ((3 : Int32) = (Int32.ofNat cs.length)))).2 (by decide) (by decide)) ?_
  show Go p_ e_ bl_ _ (T3.setTop (mkF m_ 22 #[.val (.ref a), .val (.int (0 : Int32)), .val (.int (3 : Int32)), .val (.int (Int32.ofNat cs.length)), .unset] []))
  refine Go.st (fun _ => XS.iloadN W3.here W3.ex rfl (hb hby d35_22) rfl) ?_
  show Go p_ e_ bl_ _ (T3.setTop (mkF m_ 23 #[.val (.ref a), .val (.int (0 : Int32)), .val (.int (3 : Int32)), .val (.int (Int32.ofNat cs.length)), .unset] [(.int (3 : Int32))]))
  refine Go.st (fun _ => XS.iloadN W3.here W3.ex rfl (hb hby d35_23) rfl) ?_
  show Go p_ e_ bl_ _ (T3.setTop (mkF m_ 24 #[.val (.ref a), .val (.int (0 : Int32)), .val (.int (3 : Int32)), .val (.int (Int32.ofNat cs.length)), .unset] [(.int (0 : Int32)), (.int (3 : Int32))]))
  refine Go.st (fun _ => XS.isub W3.here W3.ex rfl (hb hby d35_24) rfl) ?_
  show Go p_ e_ bl_ _ (T3.setTop (mkF m_ 25 #[.val (.ref a), .val (.int (0 : Int32)), .val (.int (3 : Int32)), .val (.int (Int32.ofNat cs.length)), .unset] [(.int ((3 : Int32) - (0 : Int32)))]))
  show Go p_ e_ bl_ _ (T3.setTop (mkF m_ 25 #[.val (.ref a), .val (.int (0 : Int32)), .val (.int (3 : Int32)), .val (.int (Int32.ofNat cs.length)), .unset] [(.int (3 : Int32))]))
  refine Go.st (fun _ => XS.istore W3.here W3.ex rfl (hb hby d35_25) rfl (l' := #[.val (.ref a), .val (.int (0 : Int32)), .val (.int (3 : Int32)), .val (.int (Int32.ofNat cs.length)), .val (.int (3 : Int32))]) rfl) ?_
  show Go p_ e_ bl_ _ (T3.setTop (mkF m_ 27 #[.val (.ref a), .val (.int (0 : Int32)), .val (.int (3 : Int32)), .val (.int (Int32.ofNat cs.length)), .val (.int (3 : Int32))] []))
  refine Go.st (fun _ => XS.aloadN W3.here W3.ex rfl (hb hby d35_27) rfl rfl) ?_
  show Go p_ e_ bl_ _ (T3.setTop (mkF m_ 28 #[.val (.ref a), .val (.int (0 : Int32)), .val (.int (3 : Int32)), .val (.int (Int32.ofNat cs.length)), .val (.int (3 : Int32))] [(.ref a)]))
  refine W3.callV (y := (⟨"java/lang/String", "isLatin1", "()Z"⟩ : MethodName)) (z := (⟨"java/lang/String", "isLatin1", "()Z"⟩ : MethodName)) (cx.w 159 rfl) (cx.w 160 rfl) (cx.w 162 rfl) (cx.w 161 rfl) (cx.w 10 rfl) (cx.w 163 rfl) (W3.nf (cx.w 162 rfl)) (by decide) E_a (ct_isL cx W3.old a t cs S_a) all0 (by decide) (Wd := 0) (by decide) (k' := 0) (n' := 0) rfl rfl (by decide) (by decide) (by rw [hml]; rfl) (a := a) (argsL := []) (rest := []) rfl (lenOf pd12 rfl) rfl (Nat.le_of_eq rfl) (hb hby d35_28) ?_
  intro v4 vm4 T4 h4 L4 W4 q4
  obtain ⟨rfl, eh_⟩ := q4
  subst h4
  show Go p_ e_ bl_ _ (T4.setTop (mkF m_ 31 #[.val (.ref a), .val (.int (0 : Int32)), .val (.int (3 : Int32)), .val (.int (Int32.ofNat cs.length)), .val (.int (3 : Int32))] [(.int (1 : Int32))]))
  refine Go.st (fun _ => XS.ifNo W4.here W4.ex rfl (hb hby d35_31) rfl ((if0 _ _).trans (feq ((by decide) : ¬ ((1 : Int32) = (0 : Int32)))).1)) ?_
  show Go p_ e_ bl_ _ (T4.setTop (mkF m_ 34 #[.val (.ref a), .val (.int (0 : Int32)), .val (.int (3 : Int32)), .val (.int (Int32.ofNat cs.length)), .val (.int (3 : Int32))] []))
  refine Go.st (fun _ => XS.aloadN W4.here W4.ex rfl (hb hby d35_34) rfl rfl) ?_
  show Go p_ e_ bl_ _ (T4.setTop (mkF m_ 35 #[.val (.ref a), .val (.int (0 : Int32)), .val (.int (3 : Int32)), .val (.int (Int32.ofNat cs.length)), .val (.int (3 : Int32))] [(.ref a)]))
  refine W4.getF (cx.w 28 rfl) Via.refl F_value_a (hb hby d35_35) ?_
  intro T5 W5
  show Go p_ e_ bl_ _ (T5.setTop (mkF m_ 38 #[.val (.ref a), .val (.int (0 : Int32)), .val (.int (3 : Int32)), .val (.int (Int32.ofNat cs.length)), .val (.int (3 : Int32))] [(.ref t)]))
  refine Go.st (fun _ => XS.iloadN W5.here W5.ex rfl (hb hby d35_38) rfl) ?_
  show Go p_ e_ bl_ _ (T5.setTop (mkF m_ 39 #[.val (.ref a), .val (.int (0 : Int32)), .val (.int (3 : Int32)), .val (.int (Int32.ofNat cs.length)), .val (.int (3 : Int32))] [(.int (0 : Int32)), (.ref t)]))
  refine Go.st (fun _ => XS.iload W5.here W5.ex rfl (hb hby d35_39) rfl) ?_
  show Go p_ e_ bl_ _ (T5.setTop (mkF m_ 41 #[.val (.ref a), .val (.int (0 : Int32)), .val (.int (3 : Int32)), .val (.int (Int32.ofNat cs.length)), .val (.int (3 : Int32))] [(.int (3 : Int32)), (.int (0 : Int32)), (.ref t)]))
  refine W5.callS (y := (⟨"java/lang/StringLatin1", "newString", "([BII)Ljava/lang/String;"⟩ : MethodName)) (cx.w 221 rfl) (cx.w 222 rfl) (cx.w 177 rfl) (cx.w 223 rfl) (by decide) (ct_ns_3 cx W5.old t k_t cs hk hl S_a.ch V_t) all0 (by decide) (Wd := 0) (by decide) (k' := 2) (n' := 7) rfl rfl (by decide) (by decide) (by rw [hml]; rfl) (argsL := [(.ref t), (.int (0 : Int32)), (.int (3 : Int32))]) (rest := []) rfl (lenOf pd19 rfl) rfl (Nat.le_of_eq rfl) (hb hby d35_41) ?_
  intro v6 vm6 T6 h6 L6 W6 q6
  obtain ⟨y, ty, rfl, K1, S_y⟩ := q6
  show Go p_ e_ bl_ _ (T6.setTop (mkF m_ 44 #[.val (.ref a), .val (.int (0 : Int32)), .val (.int (3 : Int32)), .val (.int (Int32.ofNat cs.length)), .val (.int (3 : Int32))] [(.ref y)]))
  refine Go.st (fun _ => XS.goto W6.here W6.ex rfl (pc0 := 44) (pc' := 57) rfl (hb hby d35_44) (by decide) (by decide)) ?_
  show Go p_ e_ bl_ _ (T6.setTop (mkF m_ 57 #[.val (.ref a), .val (.int (0 : Int32)), .val (.int (3 : Int32)), .val (.int (Int32.ofNat cs.length)), .val (.int (3 : Int32))] [(.ref y)]))
  exact W6.retA hret rfl rfl (hb hby d35_57) (by decide) (by decide) fun _ _ => ⟨y, ty, rfl, K1, S_y⟩
theorem ct_sub {l : Launch} {Z : State} {a0 : Array Value} {n0 : Nat} {g1 : Int32} {gf : Value} {ea : Addr} {kea : ClassId} (cx : Ctx Z a0 n0 g1 gf ea kea) {h : Heap} (O : Old Z n0 h) (a t : Addr) (cs : List Int32) (x : Int32) (k : Nat) (ex : x = Int32.ofNat k) (hk : k < cs.length) (hl : cs.length ≤ 4) (S_a : StrAt Z h a t cs) :
    Ct l Z consts_1 n0 [] (⟨"java/lang/String", "substring", "(II)Ljava/lang/String;"⟩ : MethodName) jdk_42_method_92_code 5 (some (.object "java/lang/String")) ({ frames := 4, cells := 2, slots := 7, locals := 64 } : Room) #[.ref a, .int 0, .int x] [] h (fun v _ h' => ∃ (a t : Addr), v = some (.ref a) ∧ Keep h h' [] ∧ StrAt Z h' a t (cs.take k)) := by
  subst ex
  have h4 : k < 4 := by omega
  match k, h4, hk with
  | 0, _, hk => exact ct_sub_0 cx O a t cs hk hl S_a
  | 1, _, hk => exact ct_sub_1 cx O a t cs hk hl S_a
  | 2, _, hk => exact ct_sub_2 cx O a t cs hk hl S_a
  | 3, _, hk => exact ct_sub_3 cx O a t cs hk hl S_a
set_option maxRecDepth 65536 in
set_option maxHeartbeats 40000000 in
theorem ct_on {l : Launch} {Z : State} {a0 : Array Value} {n0 : Nat} {g1 : Int32} {gf : Value} {ea : Addr} {kea : ClassId} (cx : Ctx Z a0 n0 g1 gf ea kea) {h : Heap} (O : Old Z n0 h) (c i x tx : Addr) (cs : List Int32) (E_c : Exa Z h c "com/example/dovetail_fields/dovetailfields/CommandLineArguments") (F_remaining_c : Fld Z h c "com/example/dovetail_fields/dovetailfields/CommandLineArguments" "remaining" "Ljava/util/Iterator;" (.ref i)) (F_current_c : Fld Z h c "com/example/dovetail_fields/dovetailfields/CommandLineArguments" "current" "Ljava/lang/String;" (.ref x)) (S_x : StrAt Z h x tx cs) (hl : cs.length ≤ 4) :
    Ct l Z consts_1 n0 [] (⟨"com/example/dovetail_fields/dovetailfields/CommandLineArguments", "optionName", "()Ljava/lang/String;"⟩ : MethodName) prog_4_method_5_code 2 (some (.object "java/lang/String")) ({ frames := 5, cells := 2, slots := 7, locals := 80 } : Room) #[(.ref c)] [] h (fun v _ h' => ∃ (a t : Addr), v = some (.ref a) ∧ Keep h h' [] ∧ StrAt Z h' a t (cs.take (fi cs))) := by
  refine Ct.intro (plainFor_of_name pn6) O cx.ew ?_
  intro p_ e_ s_ m_ bl_ mt_ c_ T0 W0 hby hml hret hnm
  refine Go.st (fun t_ k_ => castTop (g' := mkF m_ 0 #[.val (.ref c), .unset] []) (by first | (simp [entryFrame, mkF, argsToLocals, Value.category]; done) | rfl) k_) ?_
  show Go p_ e_ bl_ _ (T0.setTop (mkF m_ 0 #[.val (.ref c), .unset] []))
  have K0 : Keep h h [] := Keep.refl _ _
  have E_x := S_x.1
  have F_coder_x := S_x.2.1
  have F_value_x := S_x.2.2.1
  obtain ⟨k_tx, V_tx⟩ := S_x.kb
  refine Go.st (fun _ => XS.aloadN W0.here W0.ex rfl (hb hby d20_0) rfl rfl) ?_
  show Go p_ e_ bl_ _ (T0.setTop (mkF m_ 1 #[.val (.ref c), .unset] [(.ref c)]))
  refine W0.getF (cx.w 142 rfl) Via.refl F_current_c (hb hby d20_1) ?_
  intro T1 W1
  show Go p_ e_ bl_ _ (T1.setTop (mkF m_ 4 #[.val (.ref c), .unset] [(.ref x)]))
  refine Go.st (fun _ => XS.bipush W1.here W1.ex rfl (hb hby d20_4)) ?_
  show Go p_ e_ bl_ _ (T1.setTop (mkF m_ 6 #[.val (.ref c), .unset] [(.int (61 : Int32)), (.ref x)]))
  refine W1.callV (y := (⟨"java/lang/String", "indexOf", "(I)I"⟩ : MethodName)) (z := (⟨"java/lang/String", "indexOf", "(I)I"⟩ : MethodName)) (cx.w 149 rfl) (cx.w 150 rfl) (cx.w 152 rfl) (cx.w 151 rfl) (cx.w 10 rfl) (cx.w 153 rfl) (W1.nf (cx.w 152 rfl)) (by decide) E_x (ct_io1 cx W1.old x tx cs hl S_x) all0 (by decide) (Wd := 0) (by decide) (k' := 0) (n' := 0) rfl rfl (by decide) (by decide) (by rw [hml]; rfl) (a := x) (argsL := [(.int (61 : Int32))]) (rest := []) rfl (lenOf pd20 rfl) rfl (Nat.le_of_eq rfl) (hb hby d20_6) ?_
  intro v2 vm2 T2 h2 L2 W2 q2
  obtain ⟨rfl, eh_⟩ := q2
  subst h2
  show Go p_ e_ bl_ _ (T2.setTop (mkF m_ 9 #[.val (.ref c), .unset] [(.int (ixV cs))]))
  refine Go.st (fun _ => XS.istoreN W2.here W2.ex rfl (hb hby d20_9) rfl (l' := #[.val (.ref c), .val (.int (ixV cs))]) rfl) ?_
  show Go p_ e_ bl_ _ (T2.setTop (mkF m_ 10 #[.val (.ref c), .val (.int (ixV cs))] []))
  refine Go.st (fun _ => XS.iloadN W2.here W2.ex rfl (hb hby d20_10) rfl) ?_
  show Go p_ e_ bl_ _ (T2.setTop (mkF m_ 11 #[.val (.ref c), .val (.int (ixV cs))] [(.int (ixV cs))]))
  by_cases hx : (ixV cs) < (0 : Int32)
  · refine Go.st (fun _ => XS.ifYes W2.here W2.ex rfl (pc0 := 11) (pc' := 26) rfl (hb hby d20_11) rfl ((if0 _ _).trans (tlt (hx : (ixV cs) < (0 : Int32))).1) (by decide) (by decide)) ?_
    show Go p_ e_ bl_ _ (T2.setTop (mkF m_ 26 #[.val (.ref c), .val (.int (ixV cs))] []))
    refine Go.st (fun _ => XS.aloadN W2.here W2.ex rfl (hb hby d20_26) rfl rfl) ?_
    show Go p_ e_ bl_ _ (T2.setTop (mkF m_ 27 #[.val (.ref c), .val (.int (ixV cs))] [(.ref c)]))
    refine W2.getF (cx.w 142 rfl) Via.refl F_current_c (hb hby d20_27) ?_
    intro T3 W3
    show Go p_ e_ bl_ _ (T3.setTop (mkF m_ 30 #[.val (.ref c), .val (.int (ixV cs))] [(.ref x)]))
    exact W3.retA hret rfl rfl (hb hby d20_30) (by decide) (by decide) fun _ _ => ⟨x, tx, rfl, K0, by rw [ix_neg hl hx]; exact S_x⟩
  · refine Go.st (fun _ => XS.ifNo W2.here W2.ex rfl (hb hby d20_11) rfl ((if0 _ _).trans (flt (hx : ¬ ((ixV cs) < (0 : Int32)))).1)) ?_
    show Go p_ e_ bl_ _ (T2.setTop (mkF m_ 14 #[.val (.ref c), .val (.int (ixV cs))] []))
    refine Go.st (fun _ => XS.aloadN W2.here W2.ex rfl (hb hby d20_14) rfl rfl) ?_
    show Go p_ e_ bl_ _ (T2.setTop (mkF m_ 15 #[.val (.ref c), .val (.int (ixV cs))] [(.ref c)]))
    refine W2.getF (cx.w 142 rfl) Via.refl F_current_c (hb hby d20_15) ?_
    intro T4 W4
    show Go p_ e_ bl_ _ (T4.setTop (mkF m_ 18 #[.val (.ref c), .val (.int (ixV cs))] [(.ref x)]))
    refine Go.st (fun _ => XS.iconst W4.here W4.ex rfl (hb hby d20_18)) ?_
    show Go p_ e_ bl_ _ (T4.setTop (mkF m_ 19 #[.val (.ref c), .val (.int (ixV cs))] [(.int (0 : Int32)), (.ref x)]))
    refine Go.st (fun _ => XS.iloadN W4.here W4.ex rfl (hb hby d20_19) rfl) ?_
    show Go p_ e_ bl_ _ (T4.setTop (mkF m_ 20 #[.val (.ref c), .val (.int (ixV cs))] [(.int (ixV cs)), (.int (0 : Int32)), (.ref x)]))
    refine W4.callV (y := (⟨"java/lang/String", "substring", "(II)Ljava/lang/String;"⟩ : MethodName)) (z := (⟨"java/lang/String", "substring", "(II)Ljava/lang/String;"⟩ : MethodName)) (cx.w 208 rfl) (cx.w 209 rfl) (cx.w 211 rfl) (cx.w 210 rfl) (cx.w 10 rfl) (cx.w 212 rfl) (W4.nf (cx.w 211 rfl)) (by decide) E_x (ct_sub cx W4.old x tx cs (ixV cs) (fi cs) (ix_pos hx).1 (ix_pos hx).2 hl S_x) all0 (by decide) (Wd := 0) (by decide) (k' := 2) (n' := 7) rfl rfl (by decide) (by decide) (by rw [hml]; rfl) (a := x) (argsL := [(.int (0 : Int32)), (.int (ixV cs))]) (rest := []) rfl (lenOf pd21 rfl) rfl (Nat.le_of_eq rfl) (hb hby d20_20) ?_
    intro v5 vm5 T5 h5 L5 W5 q5
    obtain ⟨y, ty, rfl, K1, S_y⟩ := q5
    replace E_c := E_c.keep K1
    replace F_remaining_c := F_remaining_c.keep K1 nin0
    replace F_current_c := F_current_c.keep K1 nin0
    replace S_x := S_x.keep K1 nin0 nin0
    replace E_x := E_x.keep K1
    replace F_coder_x := F_coder_x.keep K1 nin0
    replace F_value_x := F_value_x.keep K1 nin0
    replace V_tx := V_tx.keep K1 nin0
    replace K0 := K0.trans K1 all0
    show Go p_ e_ bl_ _ (T5.setTop (mkF m_ 23 #[.val (.ref c), .val (.int (ixV cs))] [(.ref y)]))
    refine Go.st (fun _ => XS.goto W5.here W5.ex rfl (pc0 := 23) (pc' := 30) rfl (hb hby d20_23) (by decide) (by decide)) ?_
    show Go p_ e_ bl_ _ (T5.setTop (mkF m_ 30 #[.val (.ref c), .val (.int (ixV cs))] [(.ref y)]))
    exact W5.retA hret rfl rfl (hb hby d20_30) (by decide) (by decide) fun _ _ => ⟨y, ty, rfl, K0, S_y⟩
set_option maxRecDepth 65536 in
set_option maxHeartbeats 40000000 in
theorem law_p {l : Launch} {Z : State} {a0 : Array Value} {n0 : Nat} {g1 : Int32} {gf : Value} {ea : Addr} {kea : ClassId} (cx : Ctx Z a0 n0 g1 gf ea kea) {p_ : Program} {e_ : Env} {s_ : State} {m_ : MethodId} {ar_ : Array Value} {bl_ : List Frame} {mt_ : Method} {c_ : Code} {vm0 : Vm} {T0 : State} {h : Heap} {L0 : List Loc} (i0 i1 i2 i3 i4 c0 c1 c2 c3 ln ct : Int32) (a ta : Addr) (cs : List Int32) (k : Nat) (W0 : Wk p_ l e_ room_1 s_ m_ ar_ bl_ mt_ c_ Z a0 consts_1 n0 "com/example/dovetail_fields/dovetailfields/CommandLineArgumentsOptionNamePinLaw" vm0 T0 h L0 6 12 []) (hby : c_.code = code) (hml : c_.maxLocals = 16) (hret : mt_.sig.returnType = (some .boolean)) (hnm : mt_.name = "law") (r0 : ¬ c0 < 0 ∧ ¬ (255 : Int32) < c0) (r1 : ¬ c1 < 0 ∧ ¬ (255 : Int32) < c1) (r2 : ¬ c2 < 0 ∧ ¬ (255 : Int32) < c2) (r3 : ¬ c3 < 0 ∧ ¬ (255 : Int32) < c3) (S_a : StrAt Z h a ta cs) (hl : cs.length ≤ 4) (ec : ct = Int32.ofNat k) (hk : k < 5) (hcut : ([c0, c1, c2, c3] : List Int32).take k = cs.take (fi cs)) :
    Go p_ e_ bl_ (Pst Z consts_1 n0 s_ room_1.cells room_1.slots (fun v _ _ => v = some (.int 1))) (T0.setTop (mkF m_ 115 #[.val (.int i0), .val (.int i1), .val (.int i2), .val (.int i3), .val (.int i4), .val (.int c0), .val (.int c1), .val (.int c2), .val (.int c3), .val (.int ln), .val (.ref a), .val (.int ct), .unset, .unset, .unset, .unset] [])) := by
  show Go p_ e_ bl_ _ (T0.setTop (mkF m_ 115 #[.val (.int i0), .val (.int i1), .val (.int i2), .val (.int i3), .val (.int i4), .val (.int c0), .val (.int c1), .val (.int c2), .val (.int c3), .val (.int ln), .val (.ref a), .val (.int ct), .unset, .unset, .unset, .unset] []))
  refine Go.st (fun _ => XS.iload W0.here W0.ex rfl (hb hby at_115) rfl) ?_
  show Go p_ e_ bl_ _ (T0.setTop (mkF m_ 117 #[.val (.int i0), .val (.int i1), .val (.int i2), .val (.int i3), .val (.int i4), .val (.int c0), .val (.int c1), .val (.int c2), .val (.int c3), .val (.int ln), .val (.ref a), .val (.int ct), .unset, .unset, .unset, .unset] [(.int ct)]))
  refine Go.st (fun _ => XS.iload W0.here W0.ex rfl (hb hby at_117) rfl) ?_
  show Go p_ e_ bl_ _ (T0.setTop (mkF m_ 119 #[.val (.int i0), .val (.int i1), .val (.int i2), .val (.int i3), .val (.int i4), .val (.int c0), .val (.int c1), .val (.int c2), .val (.int c3), .val (.int ln), .val (.ref a), .val (.int ct), .unset, .unset, .unset, .unset] [(.int c0), (.int ct)]))
  refine Go.st (fun _ => XS.iload W0.here W0.ex rfl (hb hby at_119) rfl) ?_
  show Go p_ e_ bl_ _ (T0.setTop (mkF m_ 121 #[.val (.int i0), .val (.int i1), .val (.int i2), .val (.int i3), .val (.int i4), .val (.int c0), .val (.int c1), .val (.int c2), .val (.int c3), .val (.int ln), .val (.ref a), .val (.int ct), .unset, .unset, .unset, .unset] [(.int c1), (.int c0), (.int ct)]))
  refine Go.st (fun _ => XS.iload W0.here W0.ex rfl (hb hby at_121) rfl) ?_
  show Go p_ e_ bl_ _ (T0.setTop (mkF m_ 123 #[.val (.int i0), .val (.int i1), .val (.int i2), .val (.int i3), .val (.int i4), .val (.int c0), .val (.int c1), .val (.int c2), .val (.int c3), .val (.int ln), .val (.ref a), .val (.int ct), .unset, .unset, .unset, .unset] [(.int c2), (.int c1), (.int c0), (.int ct)]))
  refine Go.st (fun _ => XS.iload W0.here W0.ex rfl (hb hby at_123) rfl) ?_
  show Go p_ e_ bl_ _ (T0.setTop (mkF m_ 125 #[.val (.int i0), .val (.int i1), .val (.int i2), .val (.int i3), .val (.int i4), .val (.int c0), .val (.int c1), .val (.int c2), .val (.int c3), .val (.int ln), .val (.ref a), .val (.int ct), .unset, .unset, .unset, .unset] [(.int c3), (.int c2), (.int c1), (.int c0), (.int ct)]))
  refine W0.callS (y := (⟨"com/example/dovetail_fields/dovetailfields/CommandLineArgumentsOptionNamePinLaw", "mk", "(ICCCC)Ljava/lang/String;"⟩ : MethodName)) (cx.w 5 rfl) (cx.w 6 rfl) (cx.w 2 rfl) (cx.w 7 rfl) (by decide) (ct_mkG cx W0.old ct k c0 c1 c2 c3 ec hk r0 r1 r2 r3) all0 (by decide) (Wd := 0) (by decide) (k' := 12) (n' := 24) rfl rfl (by decide) (by decide) (by rw [hml]; rfl) (argsL := [(.int ct), (.int c0), (.int c1), (.int c2), (.int c3)]) (rest := []) rfl (lenOf pd22 rfl) rfl (Nat.le_of_eq rfl) (hb hby at_125) ?_
  intro v1 vm1 T1 h1 L1 W1 q1
  obtain ⟨ex, te, rfl, hz_ex, g_ex, K1, S_ex⟩ := q1
  have ne_a_ex : a ≠ ex := Nat.ne_of_lt (Nat.lt_of_lt_of_le S_a.lt hz_ex)
  have ne_ta_ex : ta ≠ ex := Nat.ne_of_lt (Nat.lt_of_lt_of_le S_a.ltt hz_ex)
  replace S_a := S_a.keep K1 nin0 nin0
  show Go p_ e_ bl_ _ (T1.setTop (mkF m_ 128 #[.val (.int i0), .val (.int i1), .val (.int i2), .val (.int i3), .val (.int i4), .val (.int c0), .val (.int c1), .val (.int c2), .val (.int c3), .val (.int ln), .val (.ref a), .val (.int ct), .unset, .unset, .unset, .unset] [(.ref ex)]))
  refine Go.st (fun _ => XS.astore W1.here W1.ex rfl (hb hby at_128) rfl rfl (l' := #[.val (.int i0), .val (.int i1), .val (.int i2), .val (.int i3), .val (.int i4), .val (.int c0), .val (.int c1), .val (.int c2), .val (.int c3), .val (.int ln), .val (.ref a), .val (.int ct), .val (.ref ex), .unset, .unset, .unset]) rfl) ?_
  show Go p_ e_ bl_ _ (T1.setTop (mkF m_ 130 #[.val (.int i0), .val (.int i1), .val (.int i2), .val (.int i3), .val (.int i4), .val (.int c0), .val (.int c1), .val (.int c2), .val (.int c3), .val (.int ln), .val (.ref a), .val (.int ct), .val (.ref ex), .unset, .unset, .unset] []))
  refine W1.newO (cx.w 30 rfl) (cx.w 31 rfl) (cx.w 32 rfl) (hb hby at_130) (k' := 13) (n' := 27) rfl rfl (by decide) (by decide) ?_
  intro T2 h2 b2 hb2 g_b2 W2 E2 E_b2 D2
  have ne_a_b2 : a ≠ b2 := Nat.ne_of_lt (Nat.lt_of_lt_of_le S_a.lt (Nat.le_of_eq hb2.symm))
  have ne_ta_b2 : ta ≠ b2 := Nat.ne_of_lt (Nat.lt_of_lt_of_le S_a.ltt (Nat.le_of_eq hb2.symm))
  have ne_ex_b2 : ex ≠ b2 := Nat.ne_of_lt (Nat.lt_of_lt_of_le S_ex.lt (Nat.le_of_eq hb2.symm))
  have ne_te_b2 : te ≠ b2 := Nat.ne_of_lt (Nat.lt_of_lt_of_le S_ex.ltt (Nat.le_of_eq hb2.symm))
  replace S_a := S_a.ext E2
  replace S_ex := S_ex.ext E2
  have F_modCount_b2 : Fld Z h2 b2 "java/util/AbstractList" "modCount" "I" (.int (0 : Int32)) := D2 (Or.inl (cx.w 50 rfl)) (ty := .int) (by decide)
  have F_elementData_b2 : Fld Z h2 b2 "java/util/ArrayList" "elementData" "[Ljava/lang/Object;" .null := D2 (Or.inl (cx.w 53 rfl)) (ty := (.array (.object "java/lang/Object"))) (by decide)
  have F_size_b2 : Fld Z h2 b2 "java/util/ArrayList" "size" "I" (.int (0 : Int32)) := D2 (Or.inl (cx.w 62 rfl)) (ty := .int) (by decide)
  show Go p_ e_ bl_ _ (T2.setTop (mkF m_ 133 #[.val (.int i0), .val (.int i1), .val (.int i2), .val (.int i3), .val (.int i4), .val (.int c0), .val (.int c1), .val (.int c2), .val (.int c3), .val (.int ln), .val (.ref a), .val (.int ct), .val (.ref ex), .unset, .unset, .unset] [(.ref b2)]))
  refine Go.st (fun _ => XS.dup W2.here W2.ex rfl (hb hby at_133) rfl rfl) ?_
  show Go p_ e_ bl_ _ (T2.setTop (mkF m_ 134 #[.val (.int i0), .val (.int i1), .val (.int i2), .val (.int i3), .val (.int i4), .val (.int c0), .val (.int c1), .val (.int c2), .val (.int c3), .val (.int ln), .val (.ref a), .val (.int ct), .val (.ref ex), .unset, .unset, .unset] [(.ref b2), (.ref b2)]))
  refine W2.callI (y := (⟨"java/util/ArrayList", "<init>", "()V"⟩ : MethodName)) rfl (cx.w 33 rfl) (cx.w 34 rfl) (cx.w 32 rfl) (cx.w 35 rfl) (by decide) (ct_al cx W2.old b2 E_b2 F_elementData_b2 F_size_b2 F_modCount_b2 g_b2) (allS (List.mem_of_getElem? (i := 0) rfl) all0) (by decide) (Wd := 1) (by decide) (k' := 13) (n' := 27) rfl rfl (by decide) (by decide) (by rw [hml]; rfl) (a := b2) (argsL := []) (rest := [(.ref b2)]) rfl (lenOf pd2 rfl) rfl (Nat.le_of_eq rfl) (hb hby at_134) ?_
  intro v3 vm3 T3 h3 L3 W3 q3
  obtain ⟨rfl, K2, E_n2, F_elementData_n, F_size_n, F_modCount_n⟩ := q3
  replace S_a := S_a.keep K2 (ninS ne_a_b2 nin0) (ninS ne_ta_b2 nin0)
  replace S_ex := S_ex.keep K2 (ninS ne_ex_b2 nin0) (ninS ne_te_b2 nin0)
  replace E_b2 := E_b2.keep K2
  show Go p_ e_ bl_ _ (T3.setTop (mkF m_ 137 #[.val (.int i0), .val (.int i1), .val (.int i2), .val (.int i3), .val (.int i4), .val (.int c0), .val (.int c1), .val (.int c2), .val (.int c3), .val (.int ln), .val (.ref a), .val (.int ct), .val (.ref ex), .unset, .unset, .unset] [(.ref b2)]))
  refine Go.st (fun _ => XS.astore W3.here W3.ex rfl (hb hby at_137) rfl rfl (l' := #[.val (.int i0), .val (.int i1), .val (.int i2), .val (.int i3), .val (.int i4), .val (.int c0), .val (.int c1), .val (.int c2), .val (.int c3), .val (.int ln), .val (.ref a), .val (.int ct), .val (.ref ex), .val (.ref b2), .unset, .unset]) rfl) ?_
  show Go p_ e_ bl_ _ (T3.setTop (mkF m_ 139 #[.val (.int i0), .val (.int i1), .val (.int i2), .val (.int i3), .val (.int i4), .val (.int c0), .val (.int c1), .val (.int c2), .val (.int c3), .val (.int ln), .val (.ref a), .val (.int ct), .val (.ref ex), .val (.ref b2), .unset, .unset] []))
  refine Go.st (fun _ => XS.aload W3.here W3.ex rfl (hb hby at_139) rfl rfl) ?_
  show Go p_ e_ bl_ _ (T3.setTop (mkF m_ 141 #[.val (.int i0), .val (.int i1), .val (.int i2), .val (.int i3), .val (.int i4), .val (.int c0), .val (.int c1), .val (.int c2), .val (.int c3), .val (.int ln), .val (.ref a), .val (.int ct), .val (.ref ex), .val (.ref b2), .unset, .unset] [(.ref b2)]))
  refine Go.st (fun _ => XS.aload W3.here W3.ex rfl (hb hby at_141) rfl rfl) ?_
  show Go p_ e_ bl_ _ (T3.setTop (mkF m_ 143 #[.val (.int i0), .val (.int i1), .val (.int i2), .val (.int i3), .val (.int i4), .val (.int c0), .val (.int c1), .val (.int c2), .val (.int c3), .val (.int ln), .val (.ref a), .val (.int ct), .val (.ref ex), .val (.ref b2), .unset, .unset] [(.ref a), (.ref b2)]))
  refine W3.callV (y := (⟨"java/util/ArrayList", "add", "(Ljava/lang/Object;)Z"⟩ : MethodName)) (z := (⟨"java/util/ArrayList", "add", "(Ljava/lang/Object;)Z"⟩ : MethodName)) (cx.w 54 rfl) (cx.w 55 rfl) (cx.w 57 rfl) (cx.w 56 rfl) (cx.w 32 rfl) (cx.w 58 rfl) (W3.nf (cx.w 57 rfl)) (by decide) E_b2 (ct_add cx W3.old b2 a ta cs E_b2 F_elementData_n F_size_n F_modCount_n g_b2 S_a ne_a_b2) (allS (List.mem_of_getElem? (i := 0) rfl) all0) (by decide) (Wd := 0) (by decide) (k' := 14) (n' := 37) rfl rfl (by decide) (by decide) (by rw [hml]; rfl) (a := b2) (argsL := [(.ref a)]) (rest := []) rfl (lenOf pd23 rfl) rfl (Nat.le_of_eq rfl) (hb hby at_143) ?_
  intro v4 vm4 T4 h4 L4 W4 q4
  obtain ⟨rfl, ba, kb, hz_ba, g_ba, K3, V_ba, E_n3, F_elementData_m, F_size_m, F_modCount_m⟩ := q4
  have ne_a_ba : a ≠ ba := Nat.ne_of_lt (Nat.lt_of_lt_of_le S_a.lt hz_ba)
  have ne_ta_ba : ta ≠ ba := Nat.ne_of_lt (Nat.lt_of_lt_of_le S_a.ltt hz_ba)
  have ne_ex_ba : ex ≠ ba := Nat.ne_of_lt (Nat.lt_of_lt_of_le S_ex.lt hz_ba)
  have ne_te_ba : te ≠ ba := Nat.ne_of_lt (Nat.lt_of_lt_of_le S_ex.ltt hz_ba)
  have ne_b2_ba : b2 ≠ ba := Nat.ne_of_lt (Nat.lt_of_lt_of_le E_b2.lt hz_ba)
  replace S_a := S_a.keep K3 (ninS ne_a_b2 nin0) (ninS ne_ta_b2 nin0)
  replace S_ex := S_ex.keep K3 (ninS ne_ex_b2 nin0) (ninS ne_te_b2 nin0)
  replace E_b2 := E_b2.keep K3
  show Go p_ e_ bl_ _ (T4.setTop (mkF m_ 146 #[.val (.int i0), .val (.int i1), .val (.int i2), .val (.int i3), .val (.int i4), .val (.int c0), .val (.int c1), .val (.int c2), .val (.int c3), .val (.int ln), .val (.ref a), .val (.int ct), .val (.ref ex), .val (.ref b2), .unset, .unset] [(.int (1 : Int32))]))
  refine Go.st (fun _ => XS.pop W4.here W4.ex rfl (hb hby at_146) rfl rfl) ?_
  show Go p_ e_ bl_ _ (T4.setTop (mkF m_ 147 #[.val (.int i0), .val (.int i1), .val (.int i2), .val (.int i3), .val (.int i4), .val (.int c0), .val (.int c1), .val (.int c2), .val (.int c3), .val (.int ln), .val (.ref a), .val (.int ct), .val (.ref ex), .val (.ref b2), .unset, .unset] []))
  refine W4.newO (cx.w 85 rfl) (cx.w 86 rfl) (cx.w 87 rfl) (hb hby at_147) (k' := 15) (n' := 39) rfl rfl (by decide) (by decide) ?_
  intro T5 h5 b5 hb5 g_b5 W5 E5 E_b5 D5
  have ne_a_b5 : a ≠ b5 := Nat.ne_of_lt (Nat.lt_of_lt_of_le S_a.lt (Nat.le_of_eq hb5.symm))
  have ne_ta_b5 : ta ≠ b5 := Nat.ne_of_lt (Nat.lt_of_lt_of_le S_a.ltt (Nat.le_of_eq hb5.symm))
  have ne_ex_b5 : ex ≠ b5 := Nat.ne_of_lt (Nat.lt_of_lt_of_le S_ex.lt (Nat.le_of_eq hb5.symm))
  have ne_te_b5 : te ≠ b5 := Nat.ne_of_lt (Nat.lt_of_lt_of_le S_ex.ltt (Nat.le_of_eq hb5.symm))
  have ne_b2_b5 : b2 ≠ b5 := Nat.ne_of_lt (Nat.lt_of_lt_of_le E_b2.lt (Nat.le_of_eq hb5.symm))
  have ne_ba_b5 : ba ≠ b5 := Nat.ne_of_lt (Nat.lt_of_lt_of_le V_ba.lt (Nat.le_of_eq hb5.symm))
  replace S_a := S_a.ext E5
  replace S_ex := S_ex.ext E5
  replace E_b2 := E_b2.ext E5
  replace F_elementData_m := F_elementData_m.ext E5
  replace F_size_m := F_size_m.ext E5
  replace F_modCount_m := F_modCount_m.ext E5
  replace V_ba := V_ba.ext E5
  have F_remaining_b5 : Fld Z h5 b5 "com/example/dovetail_fields/dovetailfields/CommandLineArguments" "remaining" "Ljava/util/Iterator;" .null := D5 (Or.inr (cx.w 117 rfl)) (ty := (.object "java/util/Iterator")) (by decide)
  have F_current_b5 : Fld Z h5 b5 "com/example/dovetail_fields/dovetailfields/CommandLineArguments" "current" "Ljava/lang/String;" .null := D5 (Or.inl (cx.w 143 rfl)) (ty := (.object "java/lang/String")) (by decide)
  show Go p_ e_ bl_ _ (T5.setTop (mkF m_ 150 #[.val (.int i0), .val (.int i1), .val (.int i2), .val (.int i3), .val (.int i4), .val (.int c0), .val (.int c1), .val (.int c2), .val (.int c3), .val (.int ln), .val (.ref a), .val (.int ct), .val (.ref ex), .val (.ref b2), .unset, .unset] [(.ref b5)]))
  refine Go.st (fun _ => XS.dup W5.here W5.ex rfl (hb hby at_150) rfl rfl) ?_
  show Go p_ e_ bl_ _ (T5.setTop (mkF m_ 151 #[.val (.int i0), .val (.int i1), .val (.int i2), .val (.int i3), .val (.int i4), .val (.int c0), .val (.int c1), .val (.int c2), .val (.int c3), .val (.int ln), .val (.ref a), .val (.int ct), .val (.ref ex), .val (.ref b2), .unset, .unset] [(.ref b5), (.ref b5)]))
  refine Go.st (fun _ => XS.aload W5.here W5.ex rfl (hb hby at_151) rfl rfl) ?_
  show Go p_ e_ bl_ _ (T5.setTop (mkF m_ 153 #[.val (.int i0), .val (.int i1), .val (.int i2), .val (.int i3), .val (.int i4), .val (.int c0), .val (.int c1), .val (.int c2), .val (.int c3), .val (.int ln), .val (.ref a), .val (.int ct), .val (.ref ex), .val (.ref b2), .unset, .unset] [(.ref b2), (.ref b5), (.ref b5)]))
  refine W5.callI (y := (⟨"com/example/dovetail_fields/dovetailfields/CommandLineArguments", "<init>", "(Ljava/util/List;)V"⟩ : MethodName)) rfl (cx.w 88 rfl) (cx.w 89 rfl) (cx.w 87 rfl) (cx.w 90 rfl) (by decide) (ct_ca cx W5.old b5 b2 ba E_b5 F_remaining_b5 F_current_b5 g_b5 E_b2 F_elementData_m F_size_m F_modCount_m) (allS (List.mem_of_getElem? (i := 0) rfl) all0) (by decide) (Wd := 1) (by decide) (k' := 16) (n' := 43) rfl rfl (by decide) (by decide) (by rw [hml]; rfl) (a := b5) (argsL := [(.ref b2)]) (rest := [(.ref b5)]) rfl (lenOf pd24 rfl) rfl (Nat.le_of_eq rfl) (hb hby at_153) ?_
  intro v6 vm6 T6 h6 L6 W6 q6
  obtain ⟨rfl, i, hz_i, g_i, K4, E_n4, F_remaining_q, F_current_q, E_i, G1, G2, G3, G4⟩ := q6
  have ne_a_i : a ≠ i := Nat.ne_of_lt (Nat.lt_of_lt_of_le S_a.lt hz_i)
  have ne_ta_i : ta ≠ i := Nat.ne_of_lt (Nat.lt_of_lt_of_le S_a.ltt hz_i)
  have ne_ex_i : ex ≠ i := Nat.ne_of_lt (Nat.lt_of_lt_of_le S_ex.lt hz_i)
  have ne_te_i : te ≠ i := Nat.ne_of_lt (Nat.lt_of_lt_of_le S_ex.ltt hz_i)
  have ne_b2_i : b2 ≠ i := Nat.ne_of_lt (Nat.lt_of_lt_of_le E_b2.lt hz_i)
  have ne_ba_i : ba ≠ i := Nat.ne_of_lt (Nat.lt_of_lt_of_le V_ba.lt hz_i)
  have ne_b5_i : b5 ≠ i := Nat.ne_of_lt (Nat.lt_of_lt_of_le E_b5.lt hz_i)
  replace S_a := S_a.keep K4 (ninS ne_a_b5 nin0) (ninS ne_ta_b5 nin0)
  replace S_ex := S_ex.keep K4 (ninS ne_ex_b5 nin0) (ninS ne_te_b5 nin0)
  replace E_b2 := E_b2.keep K4
  replace F_elementData_m := F_elementData_m.keep K4 (ninS ne_b2_b5 nin0)
  replace F_size_m := F_size_m.keep K4 (ninS ne_b2_b5 nin0)
  replace F_modCount_m := F_modCount_m.keep K4 (ninS ne_b2_b5 nin0)
  replace V_ba := V_ba.keep K4 (ninS ne_ba_b5 nin0)
  replace E_b5 := E_b5.keep K4
  show Go p_ e_ bl_ _ (T6.setTop (mkF m_ 156 #[.val (.int i0), .val (.int i1), .val (.int i2), .val (.int i3), .val (.int i4), .val (.int c0), .val (.int c1), .val (.int c2), .val (.int c3), .val (.int ln), .val (.ref a), .val (.int ct), .val (.ref ex), .val (.ref b2), .unset, .unset] [(.ref b5)]))
  have W7 := W6.consE E_i (by decide) (by decide)
  refine Go.st (fun _ => XS.astore W7.here W7.ex rfl (hb hby at_156) rfl rfl (l' := #[.val (.int i0), .val (.int i1), .val (.int i2), .val (.int i3), .val (.int i4), .val (.int c0), .val (.int c1), .val (.int c2), .val (.int c3), .val (.int ln), .val (.ref a), .val (.int ct), .val (.ref ex), .val (.ref b2), .val (.ref b5), .unset]) rfl) ?_
  show Go p_ e_ bl_ _ (T6.setTop (mkF m_ 158 #[.val (.int i0), .val (.int i1), .val (.int i2), .val (.int i3), .val (.int i4), .val (.int c0), .val (.int c1), .val (.int c2), .val (.int c3), .val (.int ln), .val (.ref a), .val (.int ct), .val (.ref ex), .val (.ref b2), .val (.ref b5), .unset] []))
  refine Go.st (fun _ => XS.aload W7.here W7.ex rfl (hb hby at_158) rfl rfl) ?_
  show Go p_ e_ bl_ _ (T6.setTop (mkF m_ 160 #[.val (.int i0), .val (.int i1), .val (.int i2), .val (.int i3), .val (.int i4), .val (.int c0), .val (.int c1), .val (.int c2), .val (.int c3), .val (.int ln), .val (.ref a), .val (.int ct), .val (.ref ex), .val (.ref b2), .val (.ref b5), .unset] [(.ref b5)]))
  refine W7.callV (y := (⟨"com/example/dovetail_fields/dovetailfields/CommandLineArguments", "next", "()Ljava/lang/String;"⟩ : MethodName)) (z := (⟨"com/example/dovetail_fields/dovetailfields/CommandLineArguments", "next", "()Ljava/lang/String;"⟩ : MethodName)) (cx.w 118 rfl) (cx.w 119 rfl) (cx.w 121 rfl) (cx.w 120 rfl) (cx.w 87 rfl) (cx.w 122 rfl) (W7.nf (cx.w 121 rfl)) (by decide) E_b5 (ct_caN cx W7.old b5 i b2 ba a ta kb cs E_b5 F_remaining_q F_current_q g_b5 E_i G1 G2 G3 G4 g_i E_b2 F_elementData_m F_size_m F_modCount_m V_ba S_a) (allS (List.mem_of_getElem? (i := 1) rfl) (allS (List.mem_of_getElem? (i := 0) rfl) all0)) (by decide) (Wd := 0) (by decide) (k' := 16) (n' := 43) rfl rfl (by decide) (by decide) (by rw [hml]; rfl) (a := b5) (argsL := []) (rest := []) rfl (lenOf pd25 rfl) rfl (Nat.le_of_eq rfl) (hb hby at_160) ?_
  intro v8 vm8 T8 h8 L8 W8 q8
  obtain ⟨rfl, K5, E_n5, F_remaining_r, F_current_r⟩ := q8
  replace S_a := S_a.keep K5 (ninS ne_a_b5 (ninS ne_a_i nin0)) (ninS ne_ta_b5 (ninS ne_ta_i nin0))
  replace S_ex := S_ex.keep K5 (ninS ne_ex_b5 (ninS ne_ex_i nin0)) (ninS ne_te_b5 (ninS ne_te_i nin0))
  replace E_b2 := E_b2.keep K5
  replace F_elementData_m := F_elementData_m.keep K5 (ninS ne_b2_b5 (ninS ne_b2_i nin0))
  replace F_size_m := F_size_m.keep K5 (ninS ne_b2_b5 (ninS ne_b2_i nin0))
  replace F_modCount_m := F_modCount_m.keep K5 (ninS ne_b2_b5 (ninS ne_b2_i nin0))
  replace V_ba := V_ba.keep K5 (ninS ne_ba_b5 (ninS ne_ba_i nin0))
  replace E_b5 := E_b5.keep K5
  replace E_i := E_i.keep K5
  show Go p_ e_ bl_ _ (T8.setTop (mkF m_ 163 #[.val (.int i0), .val (.int i1), .val (.int i2), .val (.int i3), .val (.int i4), .val (.int c0), .val (.int c1), .val (.int c2), .val (.int c3), .val (.int ln), .val (.ref a), .val (.int ct), .val (.ref ex), .val (.ref b2), .val (.ref b5), .unset] [(.ref a)]))
  refine Go.st (fun _ => XS.pop W8.here W8.ex rfl (hb hby at_163) rfl rfl) ?_
  show Go p_ e_ bl_ _ (T8.setTop (mkF m_ 164 #[.val (.int i0), .val (.int i1), .val (.int i2), .val (.int i3), .val (.int i4), .val (.int c0), .val (.int c1), .val (.int c2), .val (.int c3), .val (.int ln), .val (.ref a), .val (.int ct), .val (.ref ex), .val (.ref b2), .val (.ref b5), .unset] []))
  refine Go.st (fun _ => XS.aload W8.here W8.ex rfl (hb hby at_164) rfl rfl) ?_
  show Go p_ e_ bl_ _ (T8.setTop (mkF m_ 166 #[.val (.int i0), .val (.int i1), .val (.int i2), .val (.int i3), .val (.int i4), .val (.int c0), .val (.int c1), .val (.int c2), .val (.int c3), .val (.int ln), .val (.ref a), .val (.int ct), .val (.ref ex), .val (.ref b2), .val (.ref b5), .unset] [(.ref b5)]))
  refine W8.callV (y := (⟨"com/example/dovetail_fields/dovetailfields/CommandLineArguments", "optionName", "()Ljava/lang/String;"⟩ : MethodName)) (z := (⟨"com/example/dovetail_fields/dovetailfields/CommandLineArguments", "optionName", "()Ljava/lang/String;"⟩ : MethodName)) (cx.w 144 rfl) (cx.w 145 rfl) (cx.w 147 rfl) (cx.w 146 rfl) (cx.w 87 rfl) (cx.w 148 rfl) (W8.nf (cx.w 147 rfl)) (by decide) E_b5 (ct_on cx W8.old b5 i a ta cs E_b5 F_remaining_r F_current_r S_a hl) all0 (by decide) (Wd := 0) (by decide) (k' := 18) (n' := 50) rfl rfl (by decide) (by decide) (by rw [hml]; rfl) (a := b5) (argsL := []) (rest := []) rfl (lenOf pd25 rfl) rfl (Nat.le_of_eq rfl) (hb hby at_166) ?_
  intro v9 vm9 T9 h9 L9 W9 q9
  obtain ⟨rr, tr, rfl, K6, S_rr⟩ := q9
  replace S_a := S_a.keep K6 nin0 nin0
  replace S_ex := S_ex.keep K6 nin0 nin0
  replace E_b2 := E_b2.keep K6
  replace F_elementData_m := F_elementData_m.keep K6 nin0
  replace F_size_m := F_size_m.keep K6 nin0
  replace F_modCount_m := F_modCount_m.keep K6 nin0
  replace V_ba := V_ba.keep K6 nin0
  replace E_b5 := E_b5.keep K6
  replace E_i := E_i.keep K6
  replace F_remaining_r := F_remaining_r.keep K6 nin0
  replace F_current_r := F_current_r.keep K6 nin0
  show Go p_ e_ bl_ _ (T9.setTop (mkF m_ 169 #[.val (.int i0), .val (.int i1), .val (.int i2), .val (.int i3), .val (.int i4), .val (.int c0), .val (.int c1), .val (.int c2), .val (.int c3), .val (.int ln), .val (.ref a), .val (.int ct), .val (.ref ex), .val (.ref b2), .val (.ref b5), .unset] [(.ref rr)]))
  refine Go.st (fun _ => XS.astore W9.here W9.ex rfl (hb hby at_169) rfl rfl (l' := #[.val (.int i0), .val (.int i1), .val (.int i2), .val (.int i3), .val (.int i4), .val (.int c0), .val (.int c1), .val (.int c2), .val (.int c3), .val (.int ln), .val (.ref a), .val (.int ct), .val (.ref ex), .val (.ref b2), .val (.ref b5), .val (.ref rr)]) rfl) ?_
  show Go p_ e_ bl_ _ (T9.setTop (mkF m_ 171 #[.val (.int i0), .val (.int i1), .val (.int i2), .val (.int i3), .val (.int i4), .val (.int c0), .val (.int c1), .val (.int c2), .val (.int c3), .val (.int ln), .val (.ref a), .val (.int ct), .val (.ref ex), .val (.ref b2), .val (.ref b5), .val (.ref rr)] []))
  refine Go.st (fun _ => XS.aload W9.here W9.ex rfl (hb hby at_171) rfl rfl) ?_
  show Go p_ e_ bl_ _ (T9.setTop (mkF m_ 173 #[.val (.int i0), .val (.int i1), .val (.int i2), .val (.int i3), .val (.int i4), .val (.int c0), .val (.int c1), .val (.int c2), .val (.int c3), .val (.int ln), .val (.ref a), .val (.int ct), .val (.ref ex), .val (.ref b2), .val (.ref b5), .val (.ref rr)] [(.ref rr)]))
  refine Go.st (fun _ => XS.aload W9.here W9.ex rfl (hb hby at_173) rfl rfl) ?_
  show Go p_ e_ bl_ _ (T9.setTop (mkF m_ 175 #[.val (.int i0), .val (.int i1), .val (.int i2), .val (.int i3), .val (.int i4), .val (.int c0), .val (.int c1), .val (.int c2), .val (.int c3), .val (.int ln), .val (.ref a), .val (.int ct), .val (.ref ex), .val (.ref b2), .val (.ref b5), .val (.ref rr)] [(.ref ex), (.ref rr)]))
  obtain ⟨k1_10, V1_10⟩ := S_rr.kb
  obtain ⟨k2_10, V2_10⟩ := S_ex.kb
  have E1_10 := S_rr.E
  refine W9.libV (y := (⟨"java/lang/String", "equals", "(Ljava/lang/Object;)Z"⟩ : MethodName)) (z := (⟨"java/lang/String", "equals", "(Ljava/lang/Object;)Z"⟩ : MethodName)) (cx.w 186 rfl) (cx.w 187 rfl) (cx.w 189 rfl) (cx.w 188 rfl) (W9.nf (cx.w 189 rfl)) (by decide) E1_10 (Q := fun v h' L' => ((v = some (.int 1) ∧ (cs.take (fi cs)) = (([c0, c1, c2, c3] : List Int32).take k)) ∨ (v = some (.int 0) ∧ ¬ (cs.take (fi cs)) = (([c0, c1, c2, c3] : List Int32).take k))) ∧ L' = [] ∧ h' = h9) (ws := []) (Wd := 0) (ck := 0) (cn := 0) (StrChars.Road.eqW (W := 0) W9.hZ cx.qw (kI := 4) (cx.w 9 rfl) (cs := (cs.take (fi cs))) S_rr.1 S_rr.2.2.1 S_rr.2.1 V1_10 (StrChars.Road.codOf rfl fun c hc => (S_rr.ch c hc).2) S_rr.ch.up S_rr.le (ds := (([c0, c1, c2, c3] : List Int32).take k)) S_ex.1 S_ex.2.2.1 S_ex.2.1 V2_10 (StrChars.Road.codOf rfl fun c hc => (S_ex.ch c hc).2) S_ex.ch.up S_ex.le (cx.cmp.ext W9.e0) cx.g1 (by decide) (by decide)) (fun v h' L' q => ⟨by rw [q.2.1]; exact Fr.nil _, by rw [q.2.2]; exact Keep.refl _ _⟩) all0 all0 (k' := 18) (n' := 50) rfl rfl (by decide) (by decide) (by rw [hml]; rfl) (a := rr) (argsL := [(.ref ex)]) (rest := []) rfl (lenOf pd23 rfl) rfl (Nat.le_of_eq rfl) (hb hby at_175) ?_
  intro v11 T11 h11 M11 L11 W11 q11
  rcases q11 with ⟨⟨rfl, he⟩ | ⟨rfl, he⟩, -, eh_⟩
  · subst h11
    show Go p_ e_ bl_ _ (T11.setTop (mkF m_ 178 #[.val (.int i0), .val (.int i1), .val (.int i2), .val (.int i3), .val (.int i4), .val (.int c0), .val (.int c1), .val (.int c2), .val (.int c3), .val (.int ln), .val (.ref a), .val (.int ct), .val (.ref ex), .val (.ref b2), .val (.ref b5), .val (.ref rr)] [(.int (1 : Int32))]))
    exact W11.retN hret (by simp) (hb hby at_178) (by decide) (by decide) fun _ _ => rfl
  · subst h11
    show Go p_ e_ bl_ _ (T11.setTop (mkF m_ 178 #[.val (.int i0), .val (.int i1), .val (.int i2), .val (.int i3), .val (.int i4), .val (.int c0), .val (.int c1), .val (.int c2), .val (.int c3), .val (.int ln), .val (.ref a), .val (.int ct), .val (.ref ex), .val (.ref b2), .val (.ref b5), .val (.ref rr)] [(.int (0 : Int32))]))
    exact absurd hcut.symm he
set_option maxRecDepth 65536 in
set_option maxHeartbeats 40000000 in
theorem ct_law {l : Launch} {Z : State} {a0 : Array Value} {n0 : Nat} {g1 : Int32} {gf : Value} {ea : Addr} {kea : ClassId} (cx : Ctx Z a0 n0 g1 gf ea kea) {h : Heap} (O : Old Z n0 h) (i0 i1 i2 i3 i4 : Int32)  :
    Ct l Z consts_1 n0 tables_1 x code maxLocals ret room_1 #[(.int i0), (.int i1), (.int i2), (.int i3), (.int i4)] [] h (fun v _ _ => v = some (.int 1)) := by
  refine Ct.intro (plainFor_of_name pn1) O cx.ew ?_
  intro p_ e_ s_ m_ bl_ mt_ c_ T0 W0 hby hml hret hnm
  refine Go.st (fun t_ k_ => castTop (g' := mkF m_ 0 #[.val (.int i0), .val (.int i1), .val (.int i2), .val (.int i3), .val (.int i4), .unset, .unset, .unset, .unset, .unset, .unset, .unset, .unset, .unset, .unset, .unset] []) (by first | (simp [entryFrame, mkF, argsToLocals, Value.category, maxLocals]; done) | rfl) k_) ?_
  show Go p_ e_ bl_ _ (T0.setTop (mkF m_ 0 #[.val (.int i0), .val (.int i1), .val (.int i2), .val (.int i3), .val (.int i4), .unset, .unset, .unset, .unset, .unset, .unset, .unset, .unset, .unset, .unset, .unset] []))
  refine Go.st (fun _ => XS.iloadN W0.here W0.ex rfl (hb hby at_0) rfl) ?_
  show Go p_ e_ bl_ _ (T0.setTop (mkF m_ 1 #[.val (.int i0), .val (.int i1), .val (.int i2), .val (.int i3), .val (.int i4), .unset, .unset, .unset, .unset, .unset, .unset, .unset, .unset, .unset, .unset, .unset] [(.int i0)]))
  refine W0.callS (y := (⟨"com/example/dovetail_fields/dovetailfields/CommandLineArgumentsOptionNamePinLaw", "ch", "(I)C"⟩ : MethodName)) (cx.w 0 rfl) (cx.w 1 rfl) (cx.w 2 rfl) (cx.w 3 rfl) (by decide) (ct_ch cx W0.old i0) all0 (by decide) (Wd := 0) (by decide) (k' := 0) (n' := 0) rfl rfl (by decide) (by decide) (by rw [hml]; rfl) (argsL := [(.int i0)]) (rest := []) rfl (lenOf pd26 rfl) rfl (Nat.le_of_eq rfl) (hb hby at_1) ?_
  intro v1 vm1 T1 h1 L1 W1 q1
  obtain ⟨rfl, eh_⟩ := q1
  subst h1
  show Go p_ e_ bl_ _ (T1.setTop (mkF m_ 4 #[.val (.int i0), .val (.int i1), .val (.int i2), .val (.int i3), .val (.int i4), .unset, .unset, .unset, .unset, .unset, .unset, .unset, .unset, .unset, .unset, .unset] [(.int (chV i0))]))
  have r0 := chV_rng i0
  generalize chV i0 = c0 at r0 ⊢
  show Go p_ e_ bl_ _ (T1.setTop (mkF m_ 4 #[.val (.int i0), .val (.int i1), .val (.int i2), .val (.int i3), .val (.int i4), .unset, .unset, .unset, .unset, .unset, .unset, .unset, .unset, .unset, .unset, .unset] [(.int c0)]))
  refine Go.st (fun _ => XS.istore W1.here W1.ex rfl (hb hby at_4) rfl (l' := #[.val (.int i0), .val (.int i1), .val (.int i2), .val (.int i3), .val (.int i4), .val (.int c0), .unset, .unset, .unset, .unset, .unset, .unset, .unset, .unset, .unset, .unset]) rfl) ?_
  show Go p_ e_ bl_ _ (T1.setTop (mkF m_ 6 #[.val (.int i0), .val (.int i1), .val (.int i2), .val (.int i3), .val (.int i4), .val (.int c0), .unset, .unset, .unset, .unset, .unset, .unset, .unset, .unset, .unset, .unset] []))
  refine Go.st (fun _ => XS.iloadN W1.here W1.ex rfl (hb hby at_6) rfl) ?_
  show Go p_ e_ bl_ _ (T1.setTop (mkF m_ 7 #[.val (.int i0), .val (.int i1), .val (.int i2), .val (.int i3), .val (.int i4), .val (.int c0), .unset, .unset, .unset, .unset, .unset, .unset, .unset, .unset, .unset, .unset] [(.int i1)]))
  refine W1.callS (y := (⟨"com/example/dovetail_fields/dovetailfields/CommandLineArgumentsOptionNamePinLaw", "ch", "(I)C"⟩ : MethodName)) (cx.w 0 rfl) (cx.w 1 rfl) (cx.w 2 rfl) (cx.w 3 rfl) (by decide) (ct_ch cx W1.old i1) all0 (by decide) (Wd := 0) (by decide) (k' := 0) (n' := 0) rfl rfl (by decide) (by decide) (by rw [hml]; rfl) (argsL := [(.int i1)]) (rest := []) rfl (lenOf pd26 rfl) rfl (Nat.le_of_eq rfl) (hb hby at_7) ?_
  intro v2 vm2 T2 h2 L2 W2 q2
  obtain ⟨rfl, eh_⟩ := q2
  subst h2
  show Go p_ e_ bl_ _ (T2.setTop (mkF m_ 10 #[.val (.int i0), .val (.int i1), .val (.int i2), .val (.int i3), .val (.int i4), .val (.int c0), .unset, .unset, .unset, .unset, .unset, .unset, .unset, .unset, .unset, .unset] [(.int (chV i1))]))
  have r1 := chV_rng i1
  generalize chV i1 = c1 at r1 ⊢
  show Go p_ e_ bl_ _ (T2.setTop (mkF m_ 10 #[.val (.int i0), .val (.int i1), .val (.int i2), .val (.int i3), .val (.int i4), .val (.int c0), .unset, .unset, .unset, .unset, .unset, .unset, .unset, .unset, .unset, .unset] [(.int c1)]))
  refine Go.st (fun _ => XS.istore W2.here W2.ex rfl (hb hby at_10) rfl (l' := #[.val (.int i0), .val (.int i1), .val (.int i2), .val (.int i3), .val (.int i4), .val (.int c0), .val (.int c1), .unset, .unset, .unset, .unset, .unset, .unset, .unset, .unset, .unset]) rfl) ?_
  show Go p_ e_ bl_ _ (T2.setTop (mkF m_ 12 #[.val (.int i0), .val (.int i1), .val (.int i2), .val (.int i3), .val (.int i4), .val (.int c0), .val (.int c1), .unset, .unset, .unset, .unset, .unset, .unset, .unset, .unset, .unset] []))
  refine Go.st (fun _ => XS.iloadN W2.here W2.ex rfl (hb hby at_12) rfl) ?_
  show Go p_ e_ bl_ _ (T2.setTop (mkF m_ 13 #[.val (.int i0), .val (.int i1), .val (.int i2), .val (.int i3), .val (.int i4), .val (.int c0), .val (.int c1), .unset, .unset, .unset, .unset, .unset, .unset, .unset, .unset, .unset] [(.int i2)]))
  refine W2.callS (y := (⟨"com/example/dovetail_fields/dovetailfields/CommandLineArgumentsOptionNamePinLaw", "ch", "(I)C"⟩ : MethodName)) (cx.w 0 rfl) (cx.w 1 rfl) (cx.w 2 rfl) (cx.w 3 rfl) (by decide) (ct_ch cx W2.old i2) all0 (by decide) (Wd := 0) (by decide) (k' := 0) (n' := 0) rfl rfl (by decide) (by decide) (by rw [hml]; rfl) (argsL := [(.int i2)]) (rest := []) rfl (lenOf pd26 rfl) rfl (Nat.le_of_eq rfl) (hb hby at_13) ?_
  intro v3 vm3 T3 h3 L3 W3 q3
  obtain ⟨rfl, eh_⟩ := q3
  subst h3
  show Go p_ e_ bl_ _ (T3.setTop (mkF m_ 16 #[.val (.int i0), .val (.int i1), .val (.int i2), .val (.int i3), .val (.int i4), .val (.int c0), .val (.int c1), .unset, .unset, .unset, .unset, .unset, .unset, .unset, .unset, .unset] [(.int (chV i2))]))
  have r2 := chV_rng i2
  generalize chV i2 = c2 at r2 ⊢
  show Go p_ e_ bl_ _ (T3.setTop (mkF m_ 16 #[.val (.int i0), .val (.int i1), .val (.int i2), .val (.int i3), .val (.int i4), .val (.int c0), .val (.int c1), .unset, .unset, .unset, .unset, .unset, .unset, .unset, .unset, .unset] [(.int c2)]))
  refine Go.st (fun _ => XS.istore W3.here W3.ex rfl (hb hby at_16) rfl (l' := #[.val (.int i0), .val (.int i1), .val (.int i2), .val (.int i3), .val (.int i4), .val (.int c0), .val (.int c1), .val (.int c2), .unset, .unset, .unset, .unset, .unset, .unset, .unset, .unset]) rfl) ?_
  show Go p_ e_ bl_ _ (T3.setTop (mkF m_ 18 #[.val (.int i0), .val (.int i1), .val (.int i2), .val (.int i3), .val (.int i4), .val (.int c0), .val (.int c1), .val (.int c2), .unset, .unset, .unset, .unset, .unset, .unset, .unset, .unset] []))
  refine Go.st (fun _ => XS.iloadN W3.here W3.ex rfl (hb hby at_18) rfl) ?_
  show Go p_ e_ bl_ _ (T3.setTop (mkF m_ 19 #[.val (.int i0), .val (.int i1), .val (.int i2), .val (.int i3), .val (.int i4), .val (.int c0), .val (.int c1), .val (.int c2), .unset, .unset, .unset, .unset, .unset, .unset, .unset, .unset] [(.int i3)]))
  refine W3.callS (y := (⟨"com/example/dovetail_fields/dovetailfields/CommandLineArgumentsOptionNamePinLaw", "ch", "(I)C"⟩ : MethodName)) (cx.w 0 rfl) (cx.w 1 rfl) (cx.w 2 rfl) (cx.w 3 rfl) (by decide) (ct_ch cx W3.old i3) all0 (by decide) (Wd := 0) (by decide) (k' := 0) (n' := 0) rfl rfl (by decide) (by decide) (by rw [hml]; rfl) (argsL := [(.int i3)]) (rest := []) rfl (lenOf pd26 rfl) rfl (Nat.le_of_eq rfl) (hb hby at_19) ?_
  intro v4 vm4 T4 h4 L4 W4 q4
  obtain ⟨rfl, eh_⟩ := q4
  subst h4
  show Go p_ e_ bl_ _ (T4.setTop (mkF m_ 22 #[.val (.int i0), .val (.int i1), .val (.int i2), .val (.int i3), .val (.int i4), .val (.int c0), .val (.int c1), .val (.int c2), .unset, .unset, .unset, .unset, .unset, .unset, .unset, .unset] [(.int (chV i3))]))
  have r3 := chV_rng i3
  generalize chV i3 = c3 at r3 ⊢
  show Go p_ e_ bl_ _ (T4.setTop (mkF m_ 22 #[.val (.int i0), .val (.int i1), .val (.int i2), .val (.int i3), .val (.int i4), .val (.int c0), .val (.int c1), .val (.int c2), .unset, .unset, .unset, .unset, .unset, .unset, .unset, .unset] [(.int c3)]))
  refine Go.st (fun _ => XS.istore W4.here W4.ex rfl (hb hby at_22) rfl (l' := #[.val (.int i0), .val (.int i1), .val (.int i2), .val (.int i3), .val (.int i4), .val (.int c0), .val (.int c1), .val (.int c2), .val (.int c3), .unset, .unset, .unset, .unset, .unset, .unset, .unset]) rfl) ?_
  show Go p_ e_ bl_ _ (T4.setTop (mkF m_ 24 #[.val (.int i0), .val (.int i1), .val (.int i2), .val (.int i3), .val (.int i4), .val (.int c0), .val (.int c1), .val (.int c2), .val (.int c3), .unset, .unset, .unset, .unset, .unset, .unset, .unset] []))
  refine Go.st (fun _ => XS.iload W4.here W4.ex rfl (hb hby at_24) rfl) ?_
  show Go p_ e_ bl_ _ (T4.setTop (mkF m_ 26 #[.val (.int i0), .val (.int i1), .val (.int i2), .val (.int i3), .val (.int i4), .val (.int c0), .val (.int c1), .val (.int c2), .val (.int c3), .unset, .unset, .unset, .unset, .unset, .unset, .unset] [(.int i4)]))
  refine Go.st (fun _ => W4.X.ldcInt W4.ex W4.ho (mvT W4.hZ (cx.w 4 rfl)) (g := (mkF m_ 26 #[.val (.int i0), .val (.int i1), .val (.int i2), .val (.int i3), .val (.int i4), .val (.int c0), .val (.int c1), .val (.int c2), .val (.int c3), .unset, .unset, .unset, .unset, .unset, .unset, .unset] [(.int i4)])) rfl (hb hby at_26) _) ?_
  show Go p_ e_ bl_ _ (T4.setTop (mkF m_ 28 #[.val (.int i0), .val (.int i1), .val (.int i2), .val (.int i3), .val (.int i4), .val (.int c0), .val (.int c1), .val (.int c2), .val (.int c3), .unset, .unset, .unset, .unset, .unset, .unset, .unset] [(.int (2147483647 : Int32)), (.int i4)]))
  refine Go.st (fun _ => XS.iand W4.here W4.ex rfl (hb hby at_28) rfl) ?_
  show Go p_ e_ bl_ _ (T4.setTop (mkF m_ 29 #[.val (.int i0), .val (.int i1), .val (.int i2), .val (.int i3), .val (.int i4), .val (.int c0), .val (.int c1), .val (.int c2), .val (.int c3), .unset, .unset, .unset, .unset, .unset, .unset, .unset] [(.int (i4 &&& (2147483647 : Int32)))]))
  refine Go.st (fun _ => XS.iconst W4.here W4.ex rfl (hb hby at_29)) ?_
  show Go p_ e_ bl_ _ (T4.setTop (mkF m_ 30 #[.val (.int i0), .val (.int i1), .val (.int i2), .val (.int i3), .val (.int i4), .val (.int c0), .val (.int c1), .val (.int c2), .val (.int c3), .unset, .unset, .unset, .unset, .unset, .unset, .unset] [(.int (5 : Int32)), (.int (i4 &&& (2147483647 : Int32)))]))
  refine Go.st (fun _ => iremM W4.X W4.ex rfl (hb hby at_30) rfl (by decide)) ?_
  show Go p_ e_ bl_ _ (T4.setTop (mkF m_ 31 #[.val (.int i0), .val (.int i1), .val (.int i2), .val (.int i3), .val (.int i4), .val (.int c0), .val (.int c1), .val (.int c2), .val (.int c3), .unset, .unset, .unset, .unset, .unset, .unset, .unset] [(.int ((i4 &&& (2147483647 : Int32)) % (5 : Int32)))]))
  obtain ⟨i, hi, ei⟩ := below_lit (d := 5) rfl (idxn i4 5 5 rfl (by decide))
  rw [ei]
  rcases lt5 hi with rfl | rfl | rfl | rfl | rfl
  · show Go p_ e_ bl_ _ (T4.setTop (mkF m_ 31 #[.val (.int i0), .val (.int i1), .val (.int i2), .val (.int i3), .val (.int i4), .val (.int c0), .val (.int c1), .val (.int c2), .val (.int c3), .unset, .unset, .unset, .unset, .unset, .unset, .unset] [(.int (0 : Int32))]))
    refine Go.st (fun _ => XS.istore W4.here W4.ex rfl (hb hby at_31) rfl (l' := #[.val (.int i0), .val (.int i1), .val (.int i2), .val (.int i3), .val (.int i4), .val (.int c0), .val (.int c1), .val (.int c2), .val (.int c3), .val (.int (0 : Int32)), .unset, .unset, .unset, .unset, .unset, .unset]) rfl) ?_
    show Go p_ e_ bl_ _ (T4.setTop (mkF m_ 33 #[.val (.int i0), .val (.int i1), .val (.int i2), .val (.int i3), .val (.int i4), .val (.int c0), .val (.int c1), .val (.int c2), .val (.int c3), .val (.int (0 : Int32)), .unset, .unset, .unset, .unset, .unset, .unset] []))
    refine Go.st (fun _ => XS.iload W4.here W4.ex rfl (hb hby at_33) rfl) ?_
    show Go p_ e_ bl_ _ (T4.setTop (mkF m_ 35 #[.val (.int i0), .val (.int i1), .val (.int i2), .val (.int i3), .val (.int i4), .val (.int c0), .val (.int c1), .val (.int c2), .val (.int c3), .val (.int (0 : Int32)), .unset, .unset, .unset, .unset, .unset, .unset] [(.int (0 : Int32))]))
    refine Go.st (fun _ => XS.iload W4.here W4.ex rfl (hb hby at_35) rfl) ?_
    show Go p_ e_ bl_ _ (T4.setTop (mkF m_ 37 #[.val (.int i0), .val (.int i1), .val (.int i2), .val (.int i3), .val (.int i4), .val (.int c0), .val (.int c1), .val (.int c2), .val (.int c3), .val (.int (0 : Int32)), .unset, .unset, .unset, .unset, .unset, .unset] [(.int c0), (.int (0 : Int32))]))
    refine Go.st (fun _ => XS.iload W4.here W4.ex rfl (hb hby at_37) rfl) ?_
    show Go p_ e_ bl_ _ (T4.setTop (mkF m_ 39 #[.val (.int i0), .val (.int i1), .val (.int i2), .val (.int i3), .val (.int i4), .val (.int c0), .val (.int c1), .val (.int c2), .val (.int c3), .val (.int (0 : Int32)), .unset, .unset, .unset, .unset, .unset, .unset] [(.int c1), (.int c0), (.int (0 : Int32))]))
    refine Go.st (fun _ => XS.iload W4.here W4.ex rfl (hb hby at_39) rfl) ?_
    show Go p_ e_ bl_ _ (T4.setTop (mkF m_ 41 #[.val (.int i0), .val (.int i1), .val (.int i2), .val (.int i3), .val (.int i4), .val (.int c0), .val (.int c1), .val (.int c2), .val (.int c3), .val (.int (0 : Int32)), .unset, .unset, .unset, .unset, .unset, .unset] [(.int c2), (.int c1), (.int c0), (.int (0 : Int32))]))
    refine Go.st (fun _ => XS.iload W4.here W4.ex rfl (hb hby at_41) rfl) ?_
    show Go p_ e_ bl_ _ (T4.setTop (mkF m_ 43 #[.val (.int i0), .val (.int i1), .val (.int i2), .val (.int i3), .val (.int i4), .val (.int c0), .val (.int c1), .val (.int c2), .val (.int c3), .val (.int (0 : Int32)), .unset, .unset, .unset, .unset, .unset, .unset] [(.int c3), (.int c2), (.int c1), (.int c0), (.int (0 : Int32))]))
    refine W4.callS (y := (⟨"com/example/dovetail_fields/dovetailfields/CommandLineArgumentsOptionNamePinLaw", "mk", "(ICCCC)Ljava/lang/String;"⟩ : MethodName)) (cx.w 5 rfl) (cx.w 6 rfl) (cx.w 2 rfl) (cx.w 7 rfl) (by decide) (ct_mk0 cx W4.old c0 c1 c2 c3 r0 r1 r2 r3) all0 (by decide) (Wd := 0) (by decide) (k' := 6) (n' := 12) rfl rfl (by decide) (by decide) (by rw [hml]; rfl) (argsL := [(.int (0 : Int32)), (.int c0), (.int c1), (.int c2), (.int c3)]) (rest := []) rfl (lenOf pd22 rfl) rfl (Nat.le_of_eq rfl) (hb hby at_43) ?_
    intro v5 vm5 T5 h5 L5 W5 q5
    obtain ⟨a, ta, rfl, hz_a, g_a, K1, S_a⟩ := q5
    show Go p_ e_ bl_ _ (T5.setTop (mkF m_ 46 #[.val (.int i0), .val (.int i1), .val (.int i2), .val (.int i3), .val (.int i4), .val (.int c0), .val (.int c1), .val (.int c2), .val (.int c3), .val (.int (0 : Int32)), .unset, .unset, .unset, .unset, .unset, .unset] [(.ref a)]))
    refine Go.st (fun _ => XS.astore W5.here W5.ex rfl (hb hby at_46) rfl rfl (l' := #[.val (.int i0), .val (.int i1), .val (.int i2), .val (.int i3), .val (.int i4), .val (.int c0), .val (.int c1), .val (.int c2), .val (.int c3), .val (.int (0 : Int32)), .val (.ref a), .unset, .unset, .unset, .unset, .unset]) rfl) ?_
    show Go p_ e_ bl_ _ (T5.setTop (mkF m_ 48 #[.val (.int i0), .val (.int i1), .val (.int i2), .val (.int i3), .val (.int i4), .val (.int c0), .val (.int c1), .val (.int c2), .val (.int c3), .val (.int (0 : Int32)), .val (.ref a), .unset, .unset, .unset, .unset, .unset] []))
    refine Go.st (fun _ => XS.iload W5.here W5.ex rfl (hb hby at_48) rfl) ?_
    show Go p_ e_ bl_ _ (T5.setTop (mkF m_ 50 #[.val (.int i0), .val (.int i1), .val (.int i2), .val (.int i3), .val (.int i4), .val (.int c0), .val (.int c1), .val (.int c2), .val (.int c3), .val (.int (0 : Int32)), .val (.ref a), .unset, .unset, .unset, .unset, .unset] [(.int (0 : Int32))]))
    refine Go.st (fun _ => XS.istore W5.here W5.ex rfl (hb hby at_50) rfl (l' := #[.val (.int i0), .val (.int i1), .val (.int i2), .val (.int i3), .val (.int i4), .val (.int c0), .val (.int c1), .val (.int c2), .val (.int c3), .val (.int (0 : Int32)), .val (.ref a), .val (.int (0 : Int32)), .unset, .unset, .unset, .unset]) rfl) ?_
    show Go p_ e_ bl_ _ (T5.setTop (mkF m_ 52 #[.val (.int i0), .val (.int i1), .val (.int i2), .val (.int i3), .val (.int i4), .val (.int c0), .val (.int c1), .val (.int c2), .val (.int c3), .val (.int (0 : Int32)), .val (.ref a), .val (.int (0 : Int32)), .unset, .unset, .unset, .unset] []))
    refine Go.st (fun _ => XS.iload W5.here W5.ex rfl (hb hby at_52) rfl) ?_
    show Go p_ e_ bl_ _ (T5.setTop (mkF m_ 54 #[.val (.int i0), .val (.int i1), .val (.int i2), .val (.int i3), .val (.int i4), .val (.int c0), .val (.int c1), .val (.int c2), .val (.int c3), .val (.int (0 : Int32)), .val (.ref a), .val (.int (0 : Int32)), .unset, .unset, .unset, .unset] [(.int (0 : Int32))]))
    refine Go.st (fun _ => XS.iconst W5.here W5.ex rfl (hb hby at_54)) ?_
    show Go p_ e_ bl_ _ (T5.setTop (mkF m_ 55 #[.val (.int i0), .val (.int i1), .val (.int i2), .val (.int i3), .val (.int i4), .val (.int c0), .val (.int c1), .val (.int c2), .val (.int c3), .val (.int (0 : Int32)), .val (.ref a), .val (.int (0 : Int32)), .unset, .unset, .unset, .unset] [(.int (3 : Int32)), (.int (0 : Int32))]))
    refine Go.st (fun _ => XS.icmpYes W5.here W5.ex rfl (pc0 := 55) (pc' := 68) rfl (hb hby at_55) rfl (flt ((by decide) : ¬ ((3 : Int32) < (0 : Int32)))).2.2.2 (by decide) (by decide)) ?_
    show Go p_ e_ bl_ _ (T5.setTop (mkF m_ 68 #[.val (.int i0), .val (.int i1), .val (.int i2), .val (.int i3), .val (.int i4), .val (.int c0), .val (.int c1), .val (.int c2), .val (.int c3), .val (.int (0 : Int32)), .val (.ref a), .val (.int (0 : Int32)), .unset, .unset, .unset, .unset] []))
    refine Go.st (fun _ => XS.iload W5.here W5.ex rfl (hb hby at_68) rfl) ?_
    show Go p_ e_ bl_ _ (T5.setTop (mkF m_ 70 #[.val (.int i0), .val (.int i1), .val (.int i2), .val (.int i3), .val (.int i4), .val (.int c0), .val (.int c1), .val (.int c2), .val (.int c3), .val (.int (0 : Int32)), .val (.ref a), .val (.int (0 : Int32)), .unset, .unset, .unset, .unset] [(.int (0 : Int32))]))
    refine Go.st (fun _ => XS.iconst W5.here W5.ex rfl (hb hby at_70)) ?_
    show Go p_ e_ bl_ _ (T5.setTop (mkF m_ 71 #[.val (.int i0), .val (.int i1), .val (.int i2), .val (.int i3), .val (.int i4), .val (.int c0), .val (.int c1), .val (.int c2), .val (.int c3), .val (.int (0 : Int32)), .val (.ref a), .val (.int (0 : Int32)), .unset, .unset, .unset, .unset] [(.int (2 : Int32)), (.int (0 : Int32))]))
    refine Go.st (fun _ => XS.icmpYes W5.here W5.ex rfl (pc0 := 71) (pc' := 84) rfl (hb hby at_71) rfl (flt ((by decide) : ¬ ((2 : Int32) < (0 : Int32)))).2.2.2 (by decide) (by decide)) ?_
    show Go p_ e_ bl_ _ (T5.setTop (mkF m_ 84 #[.val (.int i0), .val (.int i1), .val (.int i2), .val (.int i3), .val (.int i4), .val (.int c0), .val (.int c1), .val (.int c2), .val (.int c3), .val (.int (0 : Int32)), .val (.ref a), .val (.int (0 : Int32)), .unset, .unset, .unset, .unset] []))
    refine Go.st (fun _ => XS.iload W5.here W5.ex rfl (hb hby at_84) rfl) ?_
    show Go p_ e_ bl_ _ (T5.setTop (mkF m_ 86 #[.val (.int i0), .val (.int i1), .val (.int i2), .val (.int i3), .val (.int i4), .val (.int c0), .val (.int c1), .val (.int c2), .val (.int c3), .val (.int (0 : Int32)), .val (.ref a), .val (.int (0 : Int32)), .unset, .unset, .unset, .unset] [(.int (0 : Int32))]))
    refine Go.st (fun _ => XS.iconst W5.here W5.ex rfl (hb hby at_86)) ?_
    show Go p_ e_ bl_ _ (T5.setTop (mkF m_ 87 #[.val (.int i0), .val (.int i1), .val (.int i2), .val (.int i3), .val (.int i4), .val (.int c0), .val (.int c1), .val (.int c2), .val (.int c3), .val (.int (0 : Int32)), .val (.ref a), .val (.int (0 : Int32)), .unset, .unset, .unset, .unset] [(.int (1 : Int32)), (.int (0 : Int32))]))
    refine Go.st (fun _ => XS.icmpYes W5.here W5.ex rfl (pc0 := 87) (pc' := 100) rfl (hb hby at_87) rfl (flt ((by decide) : ¬ ((1 : Int32) < (0 : Int32)))).2.2.2 (by decide) (by decide)) ?_
    show Go p_ e_ bl_ _ (T5.setTop (mkF m_ 100 #[.val (.int i0), .val (.int i1), .val (.int i2), .val (.int i3), .val (.int i4), .val (.int c0), .val (.int c1), .val (.int c2), .val (.int c3), .val (.int (0 : Int32)), .val (.ref a), .val (.int (0 : Int32)), .unset, .unset, .unset, .unset] []))
    refine Go.st (fun _ => XS.iload W5.here W5.ex rfl (hb hby at_100) rfl) ?_
    show Go p_ e_ bl_ _ (T5.setTop (mkF m_ 102 #[.val (.int i0), .val (.int i1), .val (.int i2), .val (.int i3), .val (.int i4), .val (.int c0), .val (.int c1), .val (.int c2), .val (.int c3), .val (.int (0 : Int32)), .val (.ref a), .val (.int (0 : Int32)), .unset, .unset, .unset, .unset] [(.int (0 : Int32))]))
    refine Go.st (fun _ => XS.ifYes W5.here W5.ex rfl (pc0 := 102) (pc' := 115) rfl (hb hby at_102) rfl ((if0 _ _).trans (flt ((by decide) : ¬ ((0 : Int32) < (0 : Int32)))).2.2.2) (by decide) (by decide)) ?_
    show Go p_ e_ bl_ _ (T5.setTop (mkF m_ 115 #[.val (.int i0), .val (.int i1), .val (.int i2), .val (.int i3), .val (.int i4), .val (.int c0), .val (.int c1), .val (.int c2), .val (.int c3), .val (.int (0 : Int32)), .val (.ref a), .val (.int (0 : Int32)), .unset, .unset, .unset, .unset] []))
    exact law_p cx i0 i1 i2 i3 i4 c0 c1 c2 c3 (0 : Int32) (0 : Int32) a ta (([c0, c1, c2, c3] : List Int32).take 0) 0 (W5.meet (by decide) (by decide)) hby hml hret hnm r0 r1 r2 r3 S_a (by simp) rfl (by decide) (by simp [fi])
  · show Go p_ e_ bl_ _ (T4.setTop (mkF m_ 31 #[.val (.int i0), .val (.int i1), .val (.int i2), .val (.int i3), .val (.int i4), .val (.int c0), .val (.int c1), .val (.int c2), .val (.int c3), .unset, .unset, .unset, .unset, .unset, .unset, .unset] [(.int (1 : Int32))]))
    refine Go.st (fun _ => XS.istore W4.here W4.ex rfl (hb hby at_31) rfl (l' := #[.val (.int i0), .val (.int i1), .val (.int i2), .val (.int i3), .val (.int i4), .val (.int c0), .val (.int c1), .val (.int c2), .val (.int c3), .val (.int (1 : Int32)), .unset, .unset, .unset, .unset, .unset, .unset]) rfl) ?_
    show Go p_ e_ bl_ _ (T4.setTop (mkF m_ 33 #[.val (.int i0), .val (.int i1), .val (.int i2), .val (.int i3), .val (.int i4), .val (.int c0), .val (.int c1), .val (.int c2), .val (.int c3), .val (.int (1 : Int32)), .unset, .unset, .unset, .unset, .unset, .unset] []))
    refine Go.st (fun _ => XS.iload W4.here W4.ex rfl (hb hby at_33) rfl) ?_
    show Go p_ e_ bl_ _ (T4.setTop (mkF m_ 35 #[.val (.int i0), .val (.int i1), .val (.int i2), .val (.int i3), .val (.int i4), .val (.int c0), .val (.int c1), .val (.int c2), .val (.int c3), .val (.int (1 : Int32)), .unset, .unset, .unset, .unset, .unset, .unset] [(.int (1 : Int32))]))
    refine Go.st (fun _ => XS.iload W4.here W4.ex rfl (hb hby at_35) rfl) ?_
    show Go p_ e_ bl_ _ (T4.setTop (mkF m_ 37 #[.val (.int i0), .val (.int i1), .val (.int i2), .val (.int i3), .val (.int i4), .val (.int c0), .val (.int c1), .val (.int c2), .val (.int c3), .val (.int (1 : Int32)), .unset, .unset, .unset, .unset, .unset, .unset] [(.int c0), (.int (1 : Int32))]))
    refine Go.st (fun _ => XS.iload W4.here W4.ex rfl (hb hby at_37) rfl) ?_
    show Go p_ e_ bl_ _ (T4.setTop (mkF m_ 39 #[.val (.int i0), .val (.int i1), .val (.int i2), .val (.int i3), .val (.int i4), .val (.int c0), .val (.int c1), .val (.int c2), .val (.int c3), .val (.int (1 : Int32)), .unset, .unset, .unset, .unset, .unset, .unset] [(.int c1), (.int c0), (.int (1 : Int32))]))
    refine Go.st (fun _ => XS.iload W4.here W4.ex rfl (hb hby at_39) rfl) ?_
    show Go p_ e_ bl_ _ (T4.setTop (mkF m_ 41 #[.val (.int i0), .val (.int i1), .val (.int i2), .val (.int i3), .val (.int i4), .val (.int c0), .val (.int c1), .val (.int c2), .val (.int c3), .val (.int (1 : Int32)), .unset, .unset, .unset, .unset, .unset, .unset] [(.int c2), (.int c1), (.int c0), (.int (1 : Int32))]))
    refine Go.st (fun _ => XS.iload W4.here W4.ex rfl (hb hby at_41) rfl) ?_
    show Go p_ e_ bl_ _ (T4.setTop (mkF m_ 43 #[.val (.int i0), .val (.int i1), .val (.int i2), .val (.int i3), .val (.int i4), .val (.int c0), .val (.int c1), .val (.int c2), .val (.int c3), .val (.int (1 : Int32)), .unset, .unset, .unset, .unset, .unset, .unset] [(.int c3), (.int c2), (.int c1), (.int c0), (.int (1 : Int32))]))
    refine W4.callS (y := (⟨"com/example/dovetail_fields/dovetailfields/CommandLineArgumentsOptionNamePinLaw", "mk", "(ICCCC)Ljava/lang/String;"⟩ : MethodName)) (cx.w 5 rfl) (cx.w 6 rfl) (cx.w 2 rfl) (cx.w 7 rfl) (by decide) (ct_mk1 cx W4.old c0 c1 c2 c3 r0 r1 r2 r3) all0 (by decide) (Wd := 0) (by decide) (k' := 6) (n' := 12) rfl rfl (by decide) (by decide) (by rw [hml]; rfl) (argsL := [(.int (1 : Int32)), (.int c0), (.int c1), (.int c2), (.int c3)]) (rest := []) rfl (lenOf pd22 rfl) rfl (Nat.le_of_eq rfl) (hb hby at_43) ?_
    intro v6 vm6 T6 h6 L6 W6 q6
    obtain ⟨a, ta, rfl, hz_a, g_a, K1, S_a⟩ := q6
    show Go p_ e_ bl_ _ (T6.setTop (mkF m_ 46 #[.val (.int i0), .val (.int i1), .val (.int i2), .val (.int i3), .val (.int i4), .val (.int c0), .val (.int c1), .val (.int c2), .val (.int c3), .val (.int (1 : Int32)), .unset, .unset, .unset, .unset, .unset, .unset] [(.ref a)]))
    refine Go.st (fun _ => XS.astore W6.here W6.ex rfl (hb hby at_46) rfl rfl (l' := #[.val (.int i0), .val (.int i1), .val (.int i2), .val (.int i3), .val (.int i4), .val (.int c0), .val (.int c1), .val (.int c2), .val (.int c3), .val (.int (1 : Int32)), .val (.ref a), .unset, .unset, .unset, .unset, .unset]) rfl) ?_
    show Go p_ e_ bl_ _ (T6.setTop (mkF m_ 48 #[.val (.int i0), .val (.int i1), .val (.int i2), .val (.int i3), .val (.int i4), .val (.int c0), .val (.int c1), .val (.int c2), .val (.int c3), .val (.int (1 : Int32)), .val (.ref a), .unset, .unset, .unset, .unset, .unset] []))
    refine Go.st (fun _ => XS.iload W6.here W6.ex rfl (hb hby at_48) rfl) ?_
    show Go p_ e_ bl_ _ (T6.setTop (mkF m_ 50 #[.val (.int i0), .val (.int i1), .val (.int i2), .val (.int i3), .val (.int i4), .val (.int c0), .val (.int c1), .val (.int c2), .val (.int c3), .val (.int (1 : Int32)), .val (.ref a), .unset, .unset, .unset, .unset, .unset] [(.int (1 : Int32))]))
    refine Go.st (fun _ => XS.istore W6.here W6.ex rfl (hb hby at_50) rfl (l' := #[.val (.int i0), .val (.int i1), .val (.int i2), .val (.int i3), .val (.int i4), .val (.int c0), .val (.int c1), .val (.int c2), .val (.int c3), .val (.int (1 : Int32)), .val (.ref a), .val (.int (1 : Int32)), .unset, .unset, .unset, .unset]) rfl) ?_
    show Go p_ e_ bl_ _ (T6.setTop (mkF m_ 52 #[.val (.int i0), .val (.int i1), .val (.int i2), .val (.int i3), .val (.int i4), .val (.int c0), .val (.int c1), .val (.int c2), .val (.int c3), .val (.int (1 : Int32)), .val (.ref a), .val (.int (1 : Int32)), .unset, .unset, .unset, .unset] []))
    refine Go.st (fun _ => XS.iload W6.here W6.ex rfl (hb hby at_52) rfl) ?_
    show Go p_ e_ bl_ _ (T6.setTop (mkF m_ 54 #[.val (.int i0), .val (.int i1), .val (.int i2), .val (.int i3), .val (.int i4), .val (.int c0), .val (.int c1), .val (.int c2), .val (.int c3), .val (.int (1 : Int32)), .val (.ref a), .val (.int (1 : Int32)), .unset, .unset, .unset, .unset] [(.int (1 : Int32))]))
    refine Go.st (fun _ => XS.iconst W6.here W6.ex rfl (hb hby at_54)) ?_
    show Go p_ e_ bl_ _ (T6.setTop (mkF m_ 55 #[.val (.int i0), .val (.int i1), .val (.int i2), .val (.int i3), .val (.int i4), .val (.int c0), .val (.int c1), .val (.int c2), .val (.int c3), .val (.int (1 : Int32)), .val (.ref a), .val (.int (1 : Int32)), .unset, .unset, .unset, .unset] [(.int (3 : Int32)), (.int (1 : Int32))]))
    refine Go.st (fun _ => XS.icmpYes W6.here W6.ex rfl (pc0 := 55) (pc' := 68) rfl (hb hby at_55) rfl (flt ((by decide) : ¬ ((3 : Int32) < (1 : Int32)))).2.2.2 (by decide) (by decide)) ?_
    show Go p_ e_ bl_ _ (T6.setTop (mkF m_ 68 #[.val (.int i0), .val (.int i1), .val (.int i2), .val (.int i3), .val (.int i4), .val (.int c0), .val (.int c1), .val (.int c2), .val (.int c3), .val (.int (1 : Int32)), .val (.ref a), .val (.int (1 : Int32)), .unset, .unset, .unset, .unset] []))
    refine Go.st (fun _ => XS.iload W6.here W6.ex rfl (hb hby at_68) rfl) ?_
    show Go p_ e_ bl_ _ (T6.setTop (mkF m_ 70 #[.val (.int i0), .val (.int i1), .val (.int i2), .val (.int i3), .val (.int i4), .val (.int c0), .val (.int c1), .val (.int c2), .val (.int c3), .val (.int (1 : Int32)), .val (.ref a), .val (.int (1 : Int32)), .unset, .unset, .unset, .unset] [(.int (1 : Int32))]))
    refine Go.st (fun _ => XS.iconst W6.here W6.ex rfl (hb hby at_70)) ?_
    show Go p_ e_ bl_ _ (T6.setTop (mkF m_ 71 #[.val (.int i0), .val (.int i1), .val (.int i2), .val (.int i3), .val (.int i4), .val (.int c0), .val (.int c1), .val (.int c2), .val (.int c3), .val (.int (1 : Int32)), .val (.ref a), .val (.int (1 : Int32)), .unset, .unset, .unset, .unset] [(.int (2 : Int32)), (.int (1 : Int32))]))
    refine Go.st (fun _ => XS.icmpYes W6.here W6.ex rfl (pc0 := 71) (pc' := 84) rfl (hb hby at_71) rfl (flt ((by decide) : ¬ ((2 : Int32) < (1 : Int32)))).2.2.2 (by decide) (by decide)) ?_
    show Go p_ e_ bl_ _ (T6.setTop (mkF m_ 84 #[.val (.int i0), .val (.int i1), .val (.int i2), .val (.int i3), .val (.int i4), .val (.int c0), .val (.int c1), .val (.int c2), .val (.int c3), .val (.int (1 : Int32)), .val (.ref a), .val (.int (1 : Int32)), .unset, .unset, .unset, .unset] []))
    refine Go.st (fun _ => XS.iload W6.here W6.ex rfl (hb hby at_84) rfl) ?_
    show Go p_ e_ bl_ _ (T6.setTop (mkF m_ 86 #[.val (.int i0), .val (.int i1), .val (.int i2), .val (.int i3), .val (.int i4), .val (.int c0), .val (.int c1), .val (.int c2), .val (.int c3), .val (.int (1 : Int32)), .val (.ref a), .val (.int (1 : Int32)), .unset, .unset, .unset, .unset] [(.int (1 : Int32))]))
    refine Go.st (fun _ => XS.iconst W6.here W6.ex rfl (hb hby at_86)) ?_
    show Go p_ e_ bl_ _ (T6.setTop (mkF m_ 87 #[.val (.int i0), .val (.int i1), .val (.int i2), .val (.int i3), .val (.int i4), .val (.int c0), .val (.int c1), .val (.int c2), .val (.int c3), .val (.int (1 : Int32)), .val (.ref a), .val (.int (1 : Int32)), .unset, .unset, .unset, .unset] [(.int (1 : Int32)), (.int (1 : Int32))]))
    refine Go.st (fun _ => XS.icmpYes W6.here W6.ex rfl (pc0 := 87) (pc' := 100) rfl (hb hby at_87) rfl (flt ((by decide) : ¬ ((1 : Int32) < (1 : Int32)))).2.2.2 (by decide) (by decide)) ?_
    show Go p_ e_ bl_ _ (T6.setTop (mkF m_ 100 #[.val (.int i0), .val (.int i1), .val (.int i2), .val (.int i3), .val (.int i4), .val (.int c0), .val (.int c1), .val (.int c2), .val (.int c3), .val (.int (1 : Int32)), .val (.ref a), .val (.int (1 : Int32)), .unset, .unset, .unset, .unset] []))
    refine Go.st (fun _ => XS.iload W6.here W6.ex rfl (hb hby at_100) rfl) ?_
    show Go p_ e_ bl_ _ (T6.setTop (mkF m_ 102 #[.val (.int i0), .val (.int i1), .val (.int i2), .val (.int i3), .val (.int i4), .val (.int c0), .val (.int c1), .val (.int c2), .val (.int c3), .val (.int (1 : Int32)), .val (.ref a), .val (.int (1 : Int32)), .unset, .unset, .unset, .unset] [(.int (1 : Int32))]))
    refine Go.st (fun _ => XS.ifNo W6.here W6.ex rfl (hb hby at_102) rfl ((if0 _ _).trans (tlt ((by decide) : (0 : Int32) < (1 : Int32))).2.2.2)) ?_
    show Go p_ e_ bl_ _ (T6.setTop (mkF m_ 105 #[.val (.int i0), .val (.int i1), .val (.int i2), .val (.int i3), .val (.int i4), .val (.int c0), .val (.int c1), .val (.int c2), .val (.int c3), .val (.int (1 : Int32)), .val (.ref a), .val (.int (1 : Int32)), .unset, .unset, .unset, .unset] []))
    refine Go.st (fun _ => XS.iload W6.here W6.ex rfl (hb hby at_105) rfl) ?_
    show Go p_ e_ bl_ _ (T6.setTop (mkF m_ 107 #[.val (.int i0), .val (.int i1), .val (.int i2), .val (.int i3), .val (.int i4), .val (.int c0), .val (.int c1), .val (.int c2), .val (.int c3), .val (.int (1 : Int32)), .val (.ref a), .val (.int (1 : Int32)), .unset, .unset, .unset, .unset] [(.int c0)]))
    refine Go.st (fun _ => XS.bipush W6.here W6.ex rfl (hb hby at_107)) ?_
    show Go p_ e_ bl_ _ (T6.setTop (mkF m_ 109 #[.val (.int i0), .val (.int i1), .val (.int i2), .val (.int i3), .val (.int i4), .val (.int c0), .val (.int c1), .val (.int c2), .val (.int c3), .val (.int (1 : Int32)), .val (.ref a), .val (.int (1 : Int32)), .unset, .unset, .unset, .unset] [(.int (61 : Int32)), (.int c0)]))
    by_cases y0 : c0 = (61 : Int32)
    · refine Go.st (fun _ => XS.icmpNo W6.here W6.ex rfl (hb hby at_109) rfl (teq (y0 : c0 = (61 : Int32))).2) ?_
      show Go p_ e_ bl_ _ (T6.setTop (mkF m_ 112 #[.val (.int i0), .val (.int i1), .val (.int i2), .val (.int i3), .val (.int i4), .val (.int c0), .val (.int c1), .val (.int c2), .val (.int c3), .val (.int (1 : Int32)), .val (.ref a), .val (.int (1 : Int32)), .unset, .unset, .unset, .unset] []))
      refine Go.st (fun _ => XS.iconst W6.here W6.ex rfl (hb hby at_112)) ?_
      show Go p_ e_ bl_ _ (T6.setTop (mkF m_ 113 #[.val (.int i0), .val (.int i1), .val (.int i2), .val (.int i3), .val (.int i4), .val (.int c0), .val (.int c1), .val (.int c2), .val (.int c3), .val (.int (1 : Int32)), .val (.ref a), .val (.int (1 : Int32)), .unset, .unset, .unset, .unset] [(.int (0 : Int32))]))
      refine Go.st (fun _ => XS.istore W6.here W6.ex rfl (hb hby at_113) rfl (l' := #[.val (.int i0), .val (.int i1), .val (.int i2), .val (.int i3), .val (.int i4), .val (.int c0), .val (.int c1), .val (.int c2), .val (.int c3), .val (.int (1 : Int32)), .val (.ref a), .val (.int (0 : Int32)), .unset, .unset, .unset, .unset]) rfl) ?_
      show Go p_ e_ bl_ _ (T6.setTop (mkF m_ 115 #[.val (.int i0), .val (.int i1), .val (.int i2), .val (.int i3), .val (.int i4), .val (.int c0), .val (.int c1), .val (.int c2), .val (.int c3), .val (.int (1 : Int32)), .val (.ref a), .val (.int (0 : Int32)), .unset, .unset, .unset, .unset] []))
      exact law_p cx i0 i1 i2 i3 i4 c0 c1 c2 c3 (1 : Int32) (0 : Int32) a ta (([c0, c1, c2, c3] : List Int32).take 1) 0 (W6.meet (by decide) (by decide)) hby hml hret hnm r0 r1 r2 r3 S_a (by simp) rfl (by decide) (by simp [fi, y0])
    · refine Go.st (fun _ => XS.icmpYes W6.here W6.ex rfl (pc0 := 109) (pc' := 115) rfl (hb hby at_109) rfl (feq (y0 : ¬ (c0 = (61 : Int32)))).2 (by decide) (by decide)) ?_
      show Go p_ e_ bl_ _ (T6.setTop (mkF m_ 115 #[.val (.int i0), .val (.int i1), .val (.int i2), .val (.int i3), .val (.int i4), .val (.int c0), .val (.int c1), .val (.int c2), .val (.int c3), .val (.int (1 : Int32)), .val (.ref a), .val (.int (1 : Int32)), .unset, .unset, .unset, .unset] []))
      exact law_p cx i0 i1 i2 i3 i4 c0 c1 c2 c3 (1 : Int32) (1 : Int32) a ta (([c0, c1, c2, c3] : List Int32).take 1) 1 (W6.meet (by decide) (by decide)) hby hml hret hnm r0 r1 r2 r3 S_a (by simp) rfl (by decide) (by simp [fi, y0])
  · show Go p_ e_ bl_ _ (T4.setTop (mkF m_ 31 #[.val (.int i0), .val (.int i1), .val (.int i2), .val (.int i3), .val (.int i4), .val (.int c0), .val (.int c1), .val (.int c2), .val (.int c3), .unset, .unset, .unset, .unset, .unset, .unset, .unset] [(.int (2 : Int32))]))
    refine Go.st (fun _ => XS.istore W4.here W4.ex rfl (hb hby at_31) rfl (l' := #[.val (.int i0), .val (.int i1), .val (.int i2), .val (.int i3), .val (.int i4), .val (.int c0), .val (.int c1), .val (.int c2), .val (.int c3), .val (.int (2 : Int32)), .unset, .unset, .unset, .unset, .unset, .unset]) rfl) ?_
    show Go p_ e_ bl_ _ (T4.setTop (mkF m_ 33 #[.val (.int i0), .val (.int i1), .val (.int i2), .val (.int i3), .val (.int i4), .val (.int c0), .val (.int c1), .val (.int c2), .val (.int c3), .val (.int (2 : Int32)), .unset, .unset, .unset, .unset, .unset, .unset] []))
    refine Go.st (fun _ => XS.iload W4.here W4.ex rfl (hb hby at_33) rfl) ?_
    show Go p_ e_ bl_ _ (T4.setTop (mkF m_ 35 #[.val (.int i0), .val (.int i1), .val (.int i2), .val (.int i3), .val (.int i4), .val (.int c0), .val (.int c1), .val (.int c2), .val (.int c3), .val (.int (2 : Int32)), .unset, .unset, .unset, .unset, .unset, .unset] [(.int (2 : Int32))]))
    refine Go.st (fun _ => XS.iload W4.here W4.ex rfl (hb hby at_35) rfl) ?_
    show Go p_ e_ bl_ _ (T4.setTop (mkF m_ 37 #[.val (.int i0), .val (.int i1), .val (.int i2), .val (.int i3), .val (.int i4), .val (.int c0), .val (.int c1), .val (.int c2), .val (.int c3), .val (.int (2 : Int32)), .unset, .unset, .unset, .unset, .unset, .unset] [(.int c0), (.int (2 : Int32))]))
    refine Go.st (fun _ => XS.iload W4.here W4.ex rfl (hb hby at_37) rfl) ?_
    show Go p_ e_ bl_ _ (T4.setTop (mkF m_ 39 #[.val (.int i0), .val (.int i1), .val (.int i2), .val (.int i3), .val (.int i4), .val (.int c0), .val (.int c1), .val (.int c2), .val (.int c3), .val (.int (2 : Int32)), .unset, .unset, .unset, .unset, .unset, .unset] [(.int c1), (.int c0), (.int (2 : Int32))]))
    refine Go.st (fun _ => XS.iload W4.here W4.ex rfl (hb hby at_39) rfl) ?_
    show Go p_ e_ bl_ _ (T4.setTop (mkF m_ 41 #[.val (.int i0), .val (.int i1), .val (.int i2), .val (.int i3), .val (.int i4), .val (.int c0), .val (.int c1), .val (.int c2), .val (.int c3), .val (.int (2 : Int32)), .unset, .unset, .unset, .unset, .unset, .unset] [(.int c2), (.int c1), (.int c0), (.int (2 : Int32))]))
    refine Go.st (fun _ => XS.iload W4.here W4.ex rfl (hb hby at_41) rfl) ?_
    show Go p_ e_ bl_ _ (T4.setTop (mkF m_ 43 #[.val (.int i0), .val (.int i1), .val (.int i2), .val (.int i3), .val (.int i4), .val (.int c0), .val (.int c1), .val (.int c2), .val (.int c3), .val (.int (2 : Int32)), .unset, .unset, .unset, .unset, .unset, .unset] [(.int c3), (.int c2), (.int c1), (.int c0), (.int (2 : Int32))]))
    refine W4.callS (y := (⟨"com/example/dovetail_fields/dovetailfields/CommandLineArgumentsOptionNamePinLaw", "mk", "(ICCCC)Ljava/lang/String;"⟩ : MethodName)) (cx.w 5 rfl) (cx.w 6 rfl) (cx.w 2 rfl) (cx.w 7 rfl) (by decide) (ct_mk2 cx W4.old c0 c1 c2 c3 r0 r1 r2 r3) all0 (by decide) (Wd := 0) (by decide) (k' := 6) (n' := 12) rfl rfl (by decide) (by decide) (by rw [hml]; rfl) (argsL := [(.int (2 : Int32)), (.int c0), (.int c1), (.int c2), (.int c3)]) (rest := []) rfl (lenOf pd22 rfl) rfl (Nat.le_of_eq rfl) (hb hby at_43) ?_
    intro v7 vm7 T7 h7 L7 W7 q7
    obtain ⟨a, ta, rfl, hz_a, g_a, K1, S_a⟩ := q7
    show Go p_ e_ bl_ _ (T7.setTop (mkF m_ 46 #[.val (.int i0), .val (.int i1), .val (.int i2), .val (.int i3), .val (.int i4), .val (.int c0), .val (.int c1), .val (.int c2), .val (.int c3), .val (.int (2 : Int32)), .unset, .unset, .unset, .unset, .unset, .unset] [(.ref a)]))
    refine Go.st (fun _ => XS.astore W7.here W7.ex rfl (hb hby at_46) rfl rfl (l' := #[.val (.int i0), .val (.int i1), .val (.int i2), .val (.int i3), .val (.int i4), .val (.int c0), .val (.int c1), .val (.int c2), .val (.int c3), .val (.int (2 : Int32)), .val (.ref a), .unset, .unset, .unset, .unset, .unset]) rfl) ?_
    show Go p_ e_ bl_ _ (T7.setTop (mkF m_ 48 #[.val (.int i0), .val (.int i1), .val (.int i2), .val (.int i3), .val (.int i4), .val (.int c0), .val (.int c1), .val (.int c2), .val (.int c3), .val (.int (2 : Int32)), .val (.ref a), .unset, .unset, .unset, .unset, .unset] []))
    refine Go.st (fun _ => XS.iload W7.here W7.ex rfl (hb hby at_48) rfl) ?_
    show Go p_ e_ bl_ _ (T7.setTop (mkF m_ 50 #[.val (.int i0), .val (.int i1), .val (.int i2), .val (.int i3), .val (.int i4), .val (.int c0), .val (.int c1), .val (.int c2), .val (.int c3), .val (.int (2 : Int32)), .val (.ref a), .unset, .unset, .unset, .unset, .unset] [(.int (2 : Int32))]))
    refine Go.st (fun _ => XS.istore W7.here W7.ex rfl (hb hby at_50) rfl (l' := #[.val (.int i0), .val (.int i1), .val (.int i2), .val (.int i3), .val (.int i4), .val (.int c0), .val (.int c1), .val (.int c2), .val (.int c3), .val (.int (2 : Int32)), .val (.ref a), .val (.int (2 : Int32)), .unset, .unset, .unset, .unset]) rfl) ?_
    show Go p_ e_ bl_ _ (T7.setTop (mkF m_ 52 #[.val (.int i0), .val (.int i1), .val (.int i2), .val (.int i3), .val (.int i4), .val (.int c0), .val (.int c1), .val (.int c2), .val (.int c3), .val (.int (2 : Int32)), .val (.ref a), .val (.int (2 : Int32)), .unset, .unset, .unset, .unset] []))
    refine Go.st (fun _ => XS.iload W7.here W7.ex rfl (hb hby at_52) rfl) ?_
    show Go p_ e_ bl_ _ (T7.setTop (mkF m_ 54 #[.val (.int i0), .val (.int i1), .val (.int i2), .val (.int i3), .val (.int i4), .val (.int c0), .val (.int c1), .val (.int c2), .val (.int c3), .val (.int (2 : Int32)), .val (.ref a), .val (.int (2 : Int32)), .unset, .unset, .unset, .unset] [(.int (2 : Int32))]))
    refine Go.st (fun _ => XS.iconst W7.here W7.ex rfl (hb hby at_54)) ?_
    show Go p_ e_ bl_ _ (T7.setTop (mkF m_ 55 #[.val (.int i0), .val (.int i1), .val (.int i2), .val (.int i3), .val (.int i4), .val (.int c0), .val (.int c1), .val (.int c2), .val (.int c3), .val (.int (2 : Int32)), .val (.ref a), .val (.int (2 : Int32)), .unset, .unset, .unset, .unset] [(.int (3 : Int32)), (.int (2 : Int32))]))
    refine Go.st (fun _ => XS.icmpYes W7.here W7.ex rfl (pc0 := 55) (pc' := 68) rfl (hb hby at_55) rfl (flt ((by decide) : ¬ ((3 : Int32) < (2 : Int32)))).2.2.2 (by decide) (by decide)) ?_
    show Go p_ e_ bl_ _ (T7.setTop (mkF m_ 68 #[.val (.int i0), .val (.int i1), .val (.int i2), .val (.int i3), .val (.int i4), .val (.int c0), .val (.int c1), .val (.int c2), .val (.int c3), .val (.int (2 : Int32)), .val (.ref a), .val (.int (2 : Int32)), .unset, .unset, .unset, .unset] []))
    refine Go.st (fun _ => XS.iload W7.here W7.ex rfl (hb hby at_68) rfl) ?_
    show Go p_ e_ bl_ _ (T7.setTop (mkF m_ 70 #[.val (.int i0), .val (.int i1), .val (.int i2), .val (.int i3), .val (.int i4), .val (.int c0), .val (.int c1), .val (.int c2), .val (.int c3), .val (.int (2 : Int32)), .val (.ref a), .val (.int (2 : Int32)), .unset, .unset, .unset, .unset] [(.int (2 : Int32))]))
    refine Go.st (fun _ => XS.iconst W7.here W7.ex rfl (hb hby at_70)) ?_
    show Go p_ e_ bl_ _ (T7.setTop (mkF m_ 71 #[.val (.int i0), .val (.int i1), .val (.int i2), .val (.int i3), .val (.int i4), .val (.int c0), .val (.int c1), .val (.int c2), .val (.int c3), .val (.int (2 : Int32)), .val (.ref a), .val (.int (2 : Int32)), .unset, .unset, .unset, .unset] [(.int (2 : Int32)), (.int (2 : Int32))]))
    refine Go.st (fun _ => XS.icmpYes W7.here W7.ex rfl (pc0 := 71) (pc' := 84) rfl (hb hby at_71) rfl (flt ((by decide) : ¬ ((2 : Int32) < (2 : Int32)))).2.2.2 (by decide) (by decide)) ?_
    show Go p_ e_ bl_ _ (T7.setTop (mkF m_ 84 #[.val (.int i0), .val (.int i1), .val (.int i2), .val (.int i3), .val (.int i4), .val (.int c0), .val (.int c1), .val (.int c2), .val (.int c3), .val (.int (2 : Int32)), .val (.ref a), .val (.int (2 : Int32)), .unset, .unset, .unset, .unset] []))
    refine Go.st (fun _ => XS.iload W7.here W7.ex rfl (hb hby at_84) rfl) ?_
    show Go p_ e_ bl_ _ (T7.setTop (mkF m_ 86 #[.val (.int i0), .val (.int i1), .val (.int i2), .val (.int i3), .val (.int i4), .val (.int c0), .val (.int c1), .val (.int c2), .val (.int c3), .val (.int (2 : Int32)), .val (.ref a), .val (.int (2 : Int32)), .unset, .unset, .unset, .unset] [(.int (2 : Int32))]))
    refine Go.st (fun _ => XS.iconst W7.here W7.ex rfl (hb hby at_86)) ?_
    show Go p_ e_ bl_ _ (T7.setTop (mkF m_ 87 #[.val (.int i0), .val (.int i1), .val (.int i2), .val (.int i3), .val (.int i4), .val (.int c0), .val (.int c1), .val (.int c2), .val (.int c3), .val (.int (2 : Int32)), .val (.ref a), .val (.int (2 : Int32)), .unset, .unset, .unset, .unset] [(.int (1 : Int32)), (.int (2 : Int32))]))
    refine Go.st (fun _ => XS.icmpNo W7.here W7.ex rfl (hb hby at_87) rfl (tlt ((by decide) : (1 : Int32) < (2 : Int32))).2.2.2) ?_
    show Go p_ e_ bl_ _ (T7.setTop (mkF m_ 90 #[.val (.int i0), .val (.int i1), .val (.int i2), .val (.int i3), .val (.int i4), .val (.int c0), .val (.int c1), .val (.int c2), .val (.int c3), .val (.int (2 : Int32)), .val (.ref a), .val (.int (2 : Int32)), .unset, .unset, .unset, .unset] []))
    refine Go.st (fun _ => XS.iload W7.here W7.ex rfl (hb hby at_90) rfl) ?_
    show Go p_ e_ bl_ _ (T7.setTop (mkF m_ 92 #[.val (.int i0), .val (.int i1), .val (.int i2), .val (.int i3), .val (.int i4), .val (.int c0), .val (.int c1), .val (.int c2), .val (.int c3), .val (.int (2 : Int32)), .val (.ref a), .val (.int (2 : Int32)), .unset, .unset, .unset, .unset] [(.int c1)]))
    refine Go.st (fun _ => XS.bipush W7.here W7.ex rfl (hb hby at_92)) ?_
    show Go p_ e_ bl_ _ (T7.setTop (mkF m_ 94 #[.val (.int i0), .val (.int i1), .val (.int i2), .val (.int i3), .val (.int i4), .val (.int c0), .val (.int c1), .val (.int c2), .val (.int c3), .val (.int (2 : Int32)), .val (.ref a), .val (.int (2 : Int32)), .unset, .unset, .unset, .unset] [(.int (61 : Int32)), (.int c1)]))
    by_cases y1 : c1 = (61 : Int32)
    · refine Go.st (fun _ => XS.icmpNo W7.here W7.ex rfl (hb hby at_94) rfl (teq (y1 : c1 = (61 : Int32))).2) ?_
      show Go p_ e_ bl_ _ (T7.setTop (mkF m_ 97 #[.val (.int i0), .val (.int i1), .val (.int i2), .val (.int i3), .val (.int i4), .val (.int c0), .val (.int c1), .val (.int c2), .val (.int c3), .val (.int (2 : Int32)), .val (.ref a), .val (.int (2 : Int32)), .unset, .unset, .unset, .unset] []))
      refine Go.st (fun _ => XS.iconst W7.here W7.ex rfl (hb hby at_97)) ?_
      show Go p_ e_ bl_ _ (T7.setTop (mkF m_ 98 #[.val (.int i0), .val (.int i1), .val (.int i2), .val (.int i3), .val (.int i4), .val (.int c0), .val (.int c1), .val (.int c2), .val (.int c3), .val (.int (2 : Int32)), .val (.ref a), .val (.int (2 : Int32)), .unset, .unset, .unset, .unset] [(.int (1 : Int32))]))
      refine Go.st (fun _ => XS.istore W7.here W7.ex rfl (hb hby at_98) rfl (l' := #[.val (.int i0), .val (.int i1), .val (.int i2), .val (.int i3), .val (.int i4), .val (.int c0), .val (.int c1), .val (.int c2), .val (.int c3), .val (.int (2 : Int32)), .val (.ref a), .val (.int (1 : Int32)), .unset, .unset, .unset, .unset]) rfl) ?_
      show Go p_ e_ bl_ _ (T7.setTop (mkF m_ 100 #[.val (.int i0), .val (.int i1), .val (.int i2), .val (.int i3), .val (.int i4), .val (.int c0), .val (.int c1), .val (.int c2), .val (.int c3), .val (.int (2 : Int32)), .val (.ref a), .val (.int (1 : Int32)), .unset, .unset, .unset, .unset] []))
      refine Go.st (fun _ => XS.iload W7.here W7.ex rfl (hb hby at_100) rfl) ?_
      show Go p_ e_ bl_ _ (T7.setTop (mkF m_ 102 #[.val (.int i0), .val (.int i1), .val (.int i2), .val (.int i3), .val (.int i4), .val (.int c0), .val (.int c1), .val (.int c2), .val (.int c3), .val (.int (2 : Int32)), .val (.ref a), .val (.int (1 : Int32)), .unset, .unset, .unset, .unset] [(.int (2 : Int32))]))
      refine Go.st (fun _ => XS.ifNo W7.here W7.ex rfl (hb hby at_102) rfl ((if0 _ _).trans (tlt ((by decide) : (0 : Int32) < (2 : Int32))).2.2.2)) ?_
      show Go p_ e_ bl_ _ (T7.setTop (mkF m_ 105 #[.val (.int i0), .val (.int i1), .val (.int i2), .val (.int i3), .val (.int i4), .val (.int c0), .val (.int c1), .val (.int c2), .val (.int c3), .val (.int (2 : Int32)), .val (.ref a), .val (.int (1 : Int32)), .unset, .unset, .unset, .unset] []))
      refine Go.st (fun _ => XS.iload W7.here W7.ex rfl (hb hby at_105) rfl) ?_
      show Go p_ e_ bl_ _ (T7.setTop (mkF m_ 107 #[.val (.int i0), .val (.int i1), .val (.int i2), .val (.int i3), .val (.int i4), .val (.int c0), .val (.int c1), .val (.int c2), .val (.int c3), .val (.int (2 : Int32)), .val (.ref a), .val (.int (1 : Int32)), .unset, .unset, .unset, .unset] [(.int c0)]))
      refine Go.st (fun _ => XS.bipush W7.here W7.ex rfl (hb hby at_107)) ?_
      show Go p_ e_ bl_ _ (T7.setTop (mkF m_ 109 #[.val (.int i0), .val (.int i1), .val (.int i2), .val (.int i3), .val (.int i4), .val (.int c0), .val (.int c1), .val (.int c2), .val (.int c3), .val (.int (2 : Int32)), .val (.ref a), .val (.int (1 : Int32)), .unset, .unset, .unset, .unset] [(.int (61 : Int32)), (.int c0)]))
      by_cases y0 : c0 = (61 : Int32)
      · refine Go.st (fun _ => XS.icmpNo W7.here W7.ex rfl (hb hby at_109) rfl (teq (y0 : c0 = (61 : Int32))).2) ?_
        show Go p_ e_ bl_ _ (T7.setTop (mkF m_ 112 #[.val (.int i0), .val (.int i1), .val (.int i2), .val (.int i3), .val (.int i4), .val (.int c0), .val (.int c1), .val (.int c2), .val (.int c3), .val (.int (2 : Int32)), .val (.ref a), .val (.int (1 : Int32)), .unset, .unset, .unset, .unset] []))
        refine Go.st (fun _ => XS.iconst W7.here W7.ex rfl (hb hby at_112)) ?_
        show Go p_ e_ bl_ _ (T7.setTop (mkF m_ 113 #[.val (.int i0), .val (.int i1), .val (.int i2), .val (.int i3), .val (.int i4), .val (.int c0), .val (.int c1), .val (.int c2), .val (.int c3), .val (.int (2 : Int32)), .val (.ref a), .val (.int (1 : Int32)), .unset, .unset, .unset, .unset] [(.int (0 : Int32))]))
        refine Go.st (fun _ => XS.istore W7.here W7.ex rfl (hb hby at_113) rfl (l' := #[.val (.int i0), .val (.int i1), .val (.int i2), .val (.int i3), .val (.int i4), .val (.int c0), .val (.int c1), .val (.int c2), .val (.int c3), .val (.int (2 : Int32)), .val (.ref a), .val (.int (0 : Int32)), .unset, .unset, .unset, .unset]) rfl) ?_
        show Go p_ e_ bl_ _ (T7.setTop (mkF m_ 115 #[.val (.int i0), .val (.int i1), .val (.int i2), .val (.int i3), .val (.int i4), .val (.int c0), .val (.int c1), .val (.int c2), .val (.int c3), .val (.int (2 : Int32)), .val (.ref a), .val (.int (0 : Int32)), .unset, .unset, .unset, .unset] []))
        exact law_p cx i0 i1 i2 i3 i4 c0 c1 c2 c3 (2 : Int32) (0 : Int32) a ta (([c0, c1, c2, c3] : List Int32).take 2) 0 (W7.meet (by decide) (by decide)) hby hml hret hnm r0 r1 r2 r3 S_a (by simp) rfl (by decide) (by simp [fi, y0, y1])
      · refine Go.st (fun _ => XS.icmpYes W7.here W7.ex rfl (pc0 := 109) (pc' := 115) rfl (hb hby at_109) rfl (feq (y0 : ¬ (c0 = (61 : Int32)))).2 (by decide) (by decide)) ?_
        show Go p_ e_ bl_ _ (T7.setTop (mkF m_ 115 #[.val (.int i0), .val (.int i1), .val (.int i2), .val (.int i3), .val (.int i4), .val (.int c0), .val (.int c1), .val (.int c2), .val (.int c3), .val (.int (2 : Int32)), .val (.ref a), .val (.int (1 : Int32)), .unset, .unset, .unset, .unset] []))
        exact law_p cx i0 i1 i2 i3 i4 c0 c1 c2 c3 (2 : Int32) (1 : Int32) a ta (([c0, c1, c2, c3] : List Int32).take 2) 1 (W7.meet (by decide) (by decide)) hby hml hret hnm r0 r1 r2 r3 S_a (by simp) rfl (by decide) (by simp [fi, y0, y1])
    · refine Go.st (fun _ => XS.icmpYes W7.here W7.ex rfl (pc0 := 94) (pc' := 100) rfl (hb hby at_94) rfl (feq (y1 : ¬ (c1 = (61 : Int32)))).2 (by decide) (by decide)) ?_
      show Go p_ e_ bl_ _ (T7.setTop (mkF m_ 100 #[.val (.int i0), .val (.int i1), .val (.int i2), .val (.int i3), .val (.int i4), .val (.int c0), .val (.int c1), .val (.int c2), .val (.int c3), .val (.int (2 : Int32)), .val (.ref a), .val (.int (2 : Int32)), .unset, .unset, .unset, .unset] []))
      refine Go.st (fun _ => XS.iload W7.here W7.ex rfl (hb hby at_100) rfl) ?_
      show Go p_ e_ bl_ _ (T7.setTop (mkF m_ 102 #[.val (.int i0), .val (.int i1), .val (.int i2), .val (.int i3), .val (.int i4), .val (.int c0), .val (.int c1), .val (.int c2), .val (.int c3), .val (.int (2 : Int32)), .val (.ref a), .val (.int (2 : Int32)), .unset, .unset, .unset, .unset] [(.int (2 : Int32))]))
      refine Go.st (fun _ => XS.ifNo W7.here W7.ex rfl (hb hby at_102) rfl ((if0 _ _).trans (tlt ((by decide) : (0 : Int32) < (2 : Int32))).2.2.2)) ?_
      show Go p_ e_ bl_ _ (T7.setTop (mkF m_ 105 #[.val (.int i0), .val (.int i1), .val (.int i2), .val (.int i3), .val (.int i4), .val (.int c0), .val (.int c1), .val (.int c2), .val (.int c3), .val (.int (2 : Int32)), .val (.ref a), .val (.int (2 : Int32)), .unset, .unset, .unset, .unset] []))
      refine Go.st (fun _ => XS.iload W7.here W7.ex rfl (hb hby at_105) rfl) ?_
      show Go p_ e_ bl_ _ (T7.setTop (mkF m_ 107 #[.val (.int i0), .val (.int i1), .val (.int i2), .val (.int i3), .val (.int i4), .val (.int c0), .val (.int c1), .val (.int c2), .val (.int c3), .val (.int (2 : Int32)), .val (.ref a), .val (.int (2 : Int32)), .unset, .unset, .unset, .unset] [(.int c0)]))
      refine Go.st (fun _ => XS.bipush W7.here W7.ex rfl (hb hby at_107)) ?_
      show Go p_ e_ bl_ _ (T7.setTop (mkF m_ 109 #[.val (.int i0), .val (.int i1), .val (.int i2), .val (.int i3), .val (.int i4), .val (.int c0), .val (.int c1), .val (.int c2), .val (.int c3), .val (.int (2 : Int32)), .val (.ref a), .val (.int (2 : Int32)), .unset, .unset, .unset, .unset] [(.int (61 : Int32)), (.int c0)]))
      by_cases y0 : c0 = (61 : Int32)
      · refine Go.st (fun _ => XS.icmpNo W7.here W7.ex rfl (hb hby at_109) rfl (teq (y0 : c0 = (61 : Int32))).2) ?_
        show Go p_ e_ bl_ _ (T7.setTop (mkF m_ 112 #[.val (.int i0), .val (.int i1), .val (.int i2), .val (.int i3), .val (.int i4), .val (.int c0), .val (.int c1), .val (.int c2), .val (.int c3), .val (.int (2 : Int32)), .val (.ref a), .val (.int (2 : Int32)), .unset, .unset, .unset, .unset] []))
        refine Go.st (fun _ => XS.iconst W7.here W7.ex rfl (hb hby at_112)) ?_
        show Go p_ e_ bl_ _ (T7.setTop (mkF m_ 113 #[.val (.int i0), .val (.int i1), .val (.int i2), .val (.int i3), .val (.int i4), .val (.int c0), .val (.int c1), .val (.int c2), .val (.int c3), .val (.int (2 : Int32)), .val (.ref a), .val (.int (2 : Int32)), .unset, .unset, .unset, .unset] [(.int (0 : Int32))]))
        refine Go.st (fun _ => XS.istore W7.here W7.ex rfl (hb hby at_113) rfl (l' := #[.val (.int i0), .val (.int i1), .val (.int i2), .val (.int i3), .val (.int i4), .val (.int c0), .val (.int c1), .val (.int c2), .val (.int c3), .val (.int (2 : Int32)), .val (.ref a), .val (.int (0 : Int32)), .unset, .unset, .unset, .unset]) rfl) ?_
        show Go p_ e_ bl_ _ (T7.setTop (mkF m_ 115 #[.val (.int i0), .val (.int i1), .val (.int i2), .val (.int i3), .val (.int i4), .val (.int c0), .val (.int c1), .val (.int c2), .val (.int c3), .val (.int (2 : Int32)), .val (.ref a), .val (.int (0 : Int32)), .unset, .unset, .unset, .unset] []))
        exact law_p cx i0 i1 i2 i3 i4 c0 c1 c2 c3 (2 : Int32) (0 : Int32) a ta (([c0, c1, c2, c3] : List Int32).take 2) 0 (W7.meet (by decide) (by decide)) hby hml hret hnm r0 r1 r2 r3 S_a (by simp) rfl (by decide) (by simp [fi, y0, y1])
      · refine Go.st (fun _ => XS.icmpYes W7.here W7.ex rfl (pc0 := 109) (pc' := 115) rfl (hb hby at_109) rfl (feq (y0 : ¬ (c0 = (61 : Int32)))).2 (by decide) (by decide)) ?_
        show Go p_ e_ bl_ _ (T7.setTop (mkF m_ 115 #[.val (.int i0), .val (.int i1), .val (.int i2), .val (.int i3), .val (.int i4), .val (.int c0), .val (.int c1), .val (.int c2), .val (.int c3), .val (.int (2 : Int32)), .val (.ref a), .val (.int (2 : Int32)), .unset, .unset, .unset, .unset] []))
        exact law_p cx i0 i1 i2 i3 i4 c0 c1 c2 c3 (2 : Int32) (2 : Int32) a ta (([c0, c1, c2, c3] : List Int32).take 2) 2 (W7.meet (by decide) (by decide)) hby hml hret hnm r0 r1 r2 r3 S_a (by simp) rfl (by decide) (by simp [fi, y0, y1])
  · show Go p_ e_ bl_ _ (T4.setTop (mkF m_ 31 #[.val (.int i0), .val (.int i1), .val (.int i2), .val (.int i3), .val (.int i4), .val (.int c0), .val (.int c1), .val (.int c2), .val (.int c3), .unset, .unset, .unset, .unset, .unset, .unset, .unset] [(.int (3 : Int32))]))
    refine Go.st (fun _ => XS.istore W4.here W4.ex rfl (hb hby at_31) rfl (l' := #[.val (.int i0), .val (.int i1), .val (.int i2), .val (.int i3), .val (.int i4), .val (.int c0), .val (.int c1), .val (.int c2), .val (.int c3), .val (.int (3 : Int32)), .unset, .unset, .unset, .unset, .unset, .unset]) rfl) ?_
    show Go p_ e_ bl_ _ (T4.setTop (mkF m_ 33 #[.val (.int i0), .val (.int i1), .val (.int i2), .val (.int i3), .val (.int i4), .val (.int c0), .val (.int c1), .val (.int c2), .val (.int c3), .val (.int (3 : Int32)), .unset, .unset, .unset, .unset, .unset, .unset] []))
    refine Go.st (fun _ => XS.iload W4.here W4.ex rfl (hb hby at_33) rfl) ?_
    show Go p_ e_ bl_ _ (T4.setTop (mkF m_ 35 #[.val (.int i0), .val (.int i1), .val (.int i2), .val (.int i3), .val (.int i4), .val (.int c0), .val (.int c1), .val (.int c2), .val (.int c3), .val (.int (3 : Int32)), .unset, .unset, .unset, .unset, .unset, .unset] [(.int (3 : Int32))]))
    refine Go.st (fun _ => XS.iload W4.here W4.ex rfl (hb hby at_35) rfl) ?_
    show Go p_ e_ bl_ _ (T4.setTop (mkF m_ 37 #[.val (.int i0), .val (.int i1), .val (.int i2), .val (.int i3), .val (.int i4), .val (.int c0), .val (.int c1), .val (.int c2), .val (.int c3), .val (.int (3 : Int32)), .unset, .unset, .unset, .unset, .unset, .unset] [(.int c0), (.int (3 : Int32))]))
    refine Go.st (fun _ => XS.iload W4.here W4.ex rfl (hb hby at_37) rfl) ?_
    show Go p_ e_ bl_ _ (T4.setTop (mkF m_ 39 #[.val (.int i0), .val (.int i1), .val (.int i2), .val (.int i3), .val (.int i4), .val (.int c0), .val (.int c1), .val (.int c2), .val (.int c3), .val (.int (3 : Int32)), .unset, .unset, .unset, .unset, .unset, .unset] [(.int c1), (.int c0), (.int (3 : Int32))]))
    refine Go.st (fun _ => XS.iload W4.here W4.ex rfl (hb hby at_39) rfl) ?_
    show Go p_ e_ bl_ _ (T4.setTop (mkF m_ 41 #[.val (.int i0), .val (.int i1), .val (.int i2), .val (.int i3), .val (.int i4), .val (.int c0), .val (.int c1), .val (.int c2), .val (.int c3), .val (.int (3 : Int32)), .unset, .unset, .unset, .unset, .unset, .unset] [(.int c2), (.int c1), (.int c0), (.int (3 : Int32))]))
    refine Go.st (fun _ => XS.iload W4.here W4.ex rfl (hb hby at_41) rfl) ?_
    show Go p_ e_ bl_ _ (T4.setTop (mkF m_ 43 #[.val (.int i0), .val (.int i1), .val (.int i2), .val (.int i3), .val (.int i4), .val (.int c0), .val (.int c1), .val (.int c2), .val (.int c3), .val (.int (3 : Int32)), .unset, .unset, .unset, .unset, .unset, .unset] [(.int c3), (.int c2), (.int c1), (.int c0), (.int (3 : Int32))]))
    refine W4.callS (y := (⟨"com/example/dovetail_fields/dovetailfields/CommandLineArgumentsOptionNamePinLaw", "mk", "(ICCCC)Ljava/lang/String;"⟩ : MethodName)) (cx.w 5 rfl) (cx.w 6 rfl) (cx.w 2 rfl) (cx.w 7 rfl) (by decide) (ct_mk3 cx W4.old c0 c1 c2 c3 r0 r1 r2 r3) all0 (by decide) (Wd := 0) (by decide) (k' := 6) (n' := 12) rfl rfl (by decide) (by decide) (by rw [hml]; rfl) (argsL := [(.int (3 : Int32)), (.int c0), (.int c1), (.int c2), (.int c3)]) (rest := []) rfl (lenOf pd22 rfl) rfl (Nat.le_of_eq rfl) (hb hby at_43) ?_
    intro v8 vm8 T8 h8 L8 W8 q8
    obtain ⟨a, ta, rfl, hz_a, g_a, K1, S_a⟩ := q8
    show Go p_ e_ bl_ _ (T8.setTop (mkF m_ 46 #[.val (.int i0), .val (.int i1), .val (.int i2), .val (.int i3), .val (.int i4), .val (.int c0), .val (.int c1), .val (.int c2), .val (.int c3), .val (.int (3 : Int32)), .unset, .unset, .unset, .unset, .unset, .unset] [(.ref a)]))
    refine Go.st (fun _ => XS.astore W8.here W8.ex rfl (hb hby at_46) rfl rfl (l' := #[.val (.int i0), .val (.int i1), .val (.int i2), .val (.int i3), .val (.int i4), .val (.int c0), .val (.int c1), .val (.int c2), .val (.int c3), .val (.int (3 : Int32)), .val (.ref a), .unset, .unset, .unset, .unset, .unset]) rfl) ?_
    show Go p_ e_ bl_ _ (T8.setTop (mkF m_ 48 #[.val (.int i0), .val (.int i1), .val (.int i2), .val (.int i3), .val (.int i4), .val (.int c0), .val (.int c1), .val (.int c2), .val (.int c3), .val (.int (3 : Int32)), .val (.ref a), .unset, .unset, .unset, .unset, .unset] []))
    refine Go.st (fun _ => XS.iload W8.here W8.ex rfl (hb hby at_48) rfl) ?_
    show Go p_ e_ bl_ _ (T8.setTop (mkF m_ 50 #[.val (.int i0), .val (.int i1), .val (.int i2), .val (.int i3), .val (.int i4), .val (.int c0), .val (.int c1), .val (.int c2), .val (.int c3), .val (.int (3 : Int32)), .val (.ref a), .unset, .unset, .unset, .unset, .unset] [(.int (3 : Int32))]))
    refine Go.st (fun _ => XS.istore W8.here W8.ex rfl (hb hby at_50) rfl (l' := #[.val (.int i0), .val (.int i1), .val (.int i2), .val (.int i3), .val (.int i4), .val (.int c0), .val (.int c1), .val (.int c2), .val (.int c3), .val (.int (3 : Int32)), .val (.ref a), .val (.int (3 : Int32)), .unset, .unset, .unset, .unset]) rfl) ?_
    show Go p_ e_ bl_ _ (T8.setTop (mkF m_ 52 #[.val (.int i0), .val (.int i1), .val (.int i2), .val (.int i3), .val (.int i4), .val (.int c0), .val (.int c1), .val (.int c2), .val (.int c3), .val (.int (3 : Int32)), .val (.ref a), .val (.int (3 : Int32)), .unset, .unset, .unset, .unset] []))
    refine Go.st (fun _ => XS.iload W8.here W8.ex rfl (hb hby at_52) rfl) ?_
    show Go p_ e_ bl_ _ (T8.setTop (mkF m_ 54 #[.val (.int i0), .val (.int i1), .val (.int i2), .val (.int i3), .val (.int i4), .val (.int c0), .val (.int c1), .val (.int c2), .val (.int c3), .val (.int (3 : Int32)), .val (.ref a), .val (.int (3 : Int32)), .unset, .unset, .unset, .unset] [(.int (3 : Int32))]))
    refine Go.st (fun _ => XS.iconst W8.here W8.ex rfl (hb hby at_54)) ?_
    show Go p_ e_ bl_ _ (T8.setTop (mkF m_ 55 #[.val (.int i0), .val (.int i1), .val (.int i2), .val (.int i3), .val (.int i4), .val (.int c0), .val (.int c1), .val (.int c2), .val (.int c3), .val (.int (3 : Int32)), .val (.ref a), .val (.int (3 : Int32)), .unset, .unset, .unset, .unset] [(.int (3 : Int32)), (.int (3 : Int32))]))
    refine Go.st (fun _ => XS.icmpYes W8.here W8.ex rfl (pc0 := 55) (pc' := 68) rfl (hb hby at_55) rfl (flt ((by decide) : ¬ ((3 : Int32) < (3 : Int32)))).2.2.2 (by decide) (by decide)) ?_
    show Go p_ e_ bl_ _ (T8.setTop (mkF m_ 68 #[.val (.int i0), .val (.int i1), .val (.int i2), .val (.int i3), .val (.int i4), .val (.int c0), .val (.int c1), .val (.int c2), .val (.int c3), .val (.int (3 : Int32)), .val (.ref a), .val (.int (3 : Int32)), .unset, .unset, .unset, .unset] []))
    refine Go.st (fun _ => XS.iload W8.here W8.ex rfl (hb hby at_68) rfl) ?_
    show Go p_ e_ bl_ _ (T8.setTop (mkF m_ 70 #[.val (.int i0), .val (.int i1), .val (.int i2), .val (.int i3), .val (.int i4), .val (.int c0), .val (.int c1), .val (.int c2), .val (.int c3), .val (.int (3 : Int32)), .val (.ref a), .val (.int (3 : Int32)), .unset, .unset, .unset, .unset] [(.int (3 : Int32))]))
    refine Go.st (fun _ => XS.iconst W8.here W8.ex rfl (hb hby at_70)) ?_
    show Go p_ e_ bl_ _ (T8.setTop (mkF m_ 71 #[.val (.int i0), .val (.int i1), .val (.int i2), .val (.int i3), .val (.int i4), .val (.int c0), .val (.int c1), .val (.int c2), .val (.int c3), .val (.int (3 : Int32)), .val (.ref a), .val (.int (3 : Int32)), .unset, .unset, .unset, .unset] [(.int (2 : Int32)), (.int (3 : Int32))]))
    refine Go.st (fun _ => XS.icmpNo W8.here W8.ex rfl (hb hby at_71) rfl (tlt ((by decide) : (2 : Int32) < (3 : Int32))).2.2.2) ?_
    show Go p_ e_ bl_ _ (T8.setTop (mkF m_ 74 #[.val (.int i0), .val (.int i1), .val (.int i2), .val (.int i3), .val (.int i4), .val (.int c0), .val (.int c1), .val (.int c2), .val (.int c3), .val (.int (3 : Int32)), .val (.ref a), .val (.int (3 : Int32)), .unset, .unset, .unset, .unset] []))
    refine Go.st (fun _ => XS.iload W8.here W8.ex rfl (hb hby at_74) rfl) ?_
    show Go p_ e_ bl_ _ (T8.setTop (mkF m_ 76 #[.val (.int i0), .val (.int i1), .val (.int i2), .val (.int i3), .val (.int i4), .val (.int c0), .val (.int c1), .val (.int c2), .val (.int c3), .val (.int (3 : Int32)), .val (.ref a), .val (.int (3 : Int32)), .unset, .unset, .unset, .unset] [(.int c2)]))
    refine Go.st (fun _ => XS.bipush W8.here W8.ex rfl (hb hby at_76)) ?_
    show Go p_ e_ bl_ _ (T8.setTop (mkF m_ 78 #[.val (.int i0), .val (.int i1), .val (.int i2), .val (.int i3), .val (.int i4), .val (.int c0), .val (.int c1), .val (.int c2), .val (.int c3), .val (.int (3 : Int32)), .val (.ref a), .val (.int (3 : Int32)), .unset, .unset, .unset, .unset] [(.int (61 : Int32)), (.int c2)]))
    by_cases y2 : c2 = (61 : Int32)
    · refine Go.st (fun _ => XS.icmpNo W8.here W8.ex rfl (hb hby at_78) rfl (teq (y2 : c2 = (61 : Int32))).2) ?_
      show Go p_ e_ bl_ _ (T8.setTop (mkF m_ 81 #[.val (.int i0), .val (.int i1), .val (.int i2), .val (.int i3), .val (.int i4), .val (.int c0), .val (.int c1), .val (.int c2), .val (.int c3), .val (.int (3 : Int32)), .val (.ref a), .val (.int (3 : Int32)), .unset, .unset, .unset, .unset] []))
      refine Go.st (fun _ => XS.iconst W8.here W8.ex rfl (hb hby at_81)) ?_
      show Go p_ e_ bl_ _ (T8.setTop (mkF m_ 82 #[.val (.int i0), .val (.int i1), .val (.int i2), .val (.int i3), .val (.int i4), .val (.int c0), .val (.int c1), .val (.int c2), .val (.int c3), .val (.int (3 : Int32)), .val (.ref a), .val (.int (3 : Int32)), .unset, .unset, .unset, .unset] [(.int (2 : Int32))]))
      refine Go.st (fun _ => XS.istore W8.here W8.ex rfl (hb hby at_82) rfl (l' := #[.val (.int i0), .val (.int i1), .val (.int i2), .val (.int i3), .val (.int i4), .val (.int c0), .val (.int c1), .val (.int c2), .val (.int c3), .val (.int (3 : Int32)), .val (.ref a), .val (.int (2 : Int32)), .unset, .unset, .unset, .unset]) rfl) ?_
      show Go p_ e_ bl_ _ (T8.setTop (mkF m_ 84 #[.val (.int i0), .val (.int i1), .val (.int i2), .val (.int i3), .val (.int i4), .val (.int c0), .val (.int c1), .val (.int c2), .val (.int c3), .val (.int (3 : Int32)), .val (.ref a), .val (.int (2 : Int32)), .unset, .unset, .unset, .unset] []))
      refine Go.st (fun _ => XS.iload W8.here W8.ex rfl (hb hby at_84) rfl) ?_
      show Go p_ e_ bl_ _ (T8.setTop (mkF m_ 86 #[.val (.int i0), .val (.int i1), .val (.int i2), .val (.int i3), .val (.int i4), .val (.int c0), .val (.int c1), .val (.int c2), .val (.int c3), .val (.int (3 : Int32)), .val (.ref a), .val (.int (2 : Int32)), .unset, .unset, .unset, .unset] [(.int (3 : Int32))]))
      refine Go.st (fun _ => XS.iconst W8.here W8.ex rfl (hb hby at_86)) ?_
      show Go p_ e_ bl_ _ (T8.setTop (mkF m_ 87 #[.val (.int i0), .val (.int i1), .val (.int i2), .val (.int i3), .val (.int i4), .val (.int c0), .val (.int c1), .val (.int c2), .val (.int c3), .val (.int (3 : Int32)), .val (.ref a), .val (.int (2 : Int32)), .unset, .unset, .unset, .unset] [(.int (1 : Int32)), (.int (3 : Int32))]))
      refine Go.st (fun _ => XS.icmpNo W8.here W8.ex rfl (hb hby at_87) rfl (tlt ((by decide) : (1 : Int32) < (3 : Int32))).2.2.2) ?_
      show Go p_ e_ bl_ _ (T8.setTop (mkF m_ 90 #[.val (.int i0), .val (.int i1), .val (.int i2), .val (.int i3), .val (.int i4), .val (.int c0), .val (.int c1), .val (.int c2), .val (.int c3), .val (.int (3 : Int32)), .val (.ref a), .val (.int (2 : Int32)), .unset, .unset, .unset, .unset] []))
      refine Go.st (fun _ => XS.iload W8.here W8.ex rfl (hb hby at_90) rfl) ?_
      show Go p_ e_ bl_ _ (T8.setTop (mkF m_ 92 #[.val (.int i0), .val (.int i1), .val (.int i2), .val (.int i3), .val (.int i4), .val (.int c0), .val (.int c1), .val (.int c2), .val (.int c3), .val (.int (3 : Int32)), .val (.ref a), .val (.int (2 : Int32)), .unset, .unset, .unset, .unset] [(.int c1)]))
      refine Go.st (fun _ => XS.bipush W8.here W8.ex rfl (hb hby at_92)) ?_
      show Go p_ e_ bl_ _ (T8.setTop (mkF m_ 94 #[.val (.int i0), .val (.int i1), .val (.int i2), .val (.int i3), .val (.int i4), .val (.int c0), .val (.int c1), .val (.int c2), .val (.int c3), .val (.int (3 : Int32)), .val (.ref a), .val (.int (2 : Int32)), .unset, .unset, .unset, .unset] [(.int (61 : Int32)), (.int c1)]))
      by_cases y1 : c1 = (61 : Int32)
      · refine Go.st (fun _ => XS.icmpNo W8.here W8.ex rfl (hb hby at_94) rfl (teq (y1 : c1 = (61 : Int32))).2) ?_
        show Go p_ e_ bl_ _ (T8.setTop (mkF m_ 97 #[.val (.int i0), .val (.int i1), .val (.int i2), .val (.int i3), .val (.int i4), .val (.int c0), .val (.int c1), .val (.int c2), .val (.int c3), .val (.int (3 : Int32)), .val (.ref a), .val (.int (2 : Int32)), .unset, .unset, .unset, .unset] []))
        refine Go.st (fun _ => XS.iconst W8.here W8.ex rfl (hb hby at_97)) ?_
        show Go p_ e_ bl_ _ (T8.setTop (mkF m_ 98 #[.val (.int i0), .val (.int i1), .val (.int i2), .val (.int i3), .val (.int i4), .val (.int c0), .val (.int c1), .val (.int c2), .val (.int c3), .val (.int (3 : Int32)), .val (.ref a), .val (.int (2 : Int32)), .unset, .unset, .unset, .unset] [(.int (1 : Int32))]))
        refine Go.st (fun _ => XS.istore W8.here W8.ex rfl (hb hby at_98) rfl (l' := #[.val (.int i0), .val (.int i1), .val (.int i2), .val (.int i3), .val (.int i4), .val (.int c0), .val (.int c1), .val (.int c2), .val (.int c3), .val (.int (3 : Int32)), .val (.ref a), .val (.int (1 : Int32)), .unset, .unset, .unset, .unset]) rfl) ?_
        show Go p_ e_ bl_ _ (T8.setTop (mkF m_ 100 #[.val (.int i0), .val (.int i1), .val (.int i2), .val (.int i3), .val (.int i4), .val (.int c0), .val (.int c1), .val (.int c2), .val (.int c3), .val (.int (3 : Int32)), .val (.ref a), .val (.int (1 : Int32)), .unset, .unset, .unset, .unset] []))
        refine Go.st (fun _ => XS.iload W8.here W8.ex rfl (hb hby at_100) rfl) ?_
        show Go p_ e_ bl_ _ (T8.setTop (mkF m_ 102 #[.val (.int i0), .val (.int i1), .val (.int i2), .val (.int i3), .val (.int i4), .val (.int c0), .val (.int c1), .val (.int c2), .val (.int c3), .val (.int (3 : Int32)), .val (.ref a), .val (.int (1 : Int32)), .unset, .unset, .unset, .unset] [(.int (3 : Int32))]))
        refine Go.st (fun _ => XS.ifNo W8.here W8.ex rfl (hb hby at_102) rfl ((if0 _ _).trans (tlt ((by decide) : (0 : Int32) < (3 : Int32))).2.2.2)) ?_
        show Go p_ e_ bl_ _ (T8.setTop (mkF m_ 105 #[.val (.int i0), .val (.int i1), .val (.int i2), .val (.int i3), .val (.int i4), .val (.int c0), .val (.int c1), .val (.int c2), .val (.int c3), .val (.int (3 : Int32)), .val (.ref a), .val (.int (1 : Int32)), .unset, .unset, .unset, .unset] []))
        refine Go.st (fun _ => XS.iload W8.here W8.ex rfl (hb hby at_105) rfl) ?_
        show Go p_ e_ bl_ _ (T8.setTop (mkF m_ 107 #[.val (.int i0), .val (.int i1), .val (.int i2), .val (.int i3), .val (.int i4), .val (.int c0), .val (.int c1), .val (.int c2), .val (.int c3), .val (.int (3 : Int32)), .val (.ref a), .val (.int (1 : Int32)), .unset, .unset, .unset, .unset] [(.int c0)]))
        refine Go.st (fun _ => XS.bipush W8.here W8.ex rfl (hb hby at_107)) ?_
        show Go p_ e_ bl_ _ (T8.setTop (mkF m_ 109 #[.val (.int i0), .val (.int i1), .val (.int i2), .val (.int i3), .val (.int i4), .val (.int c0), .val (.int c1), .val (.int c2), .val (.int c3), .val (.int (3 : Int32)), .val (.ref a), .val (.int (1 : Int32)), .unset, .unset, .unset, .unset] [(.int (61 : Int32)), (.int c0)]))
        by_cases y0 : c0 = (61 : Int32)
        · refine Go.st (fun _ => XS.icmpNo W8.here W8.ex rfl (hb hby at_109) rfl (teq (y0 : c0 = (61 : Int32))).2) ?_
          show Go p_ e_ bl_ _ (T8.setTop (mkF m_ 112 #[.val (.int i0), .val (.int i1), .val (.int i2), .val (.int i3), .val (.int i4), .val (.int c0), .val (.int c1), .val (.int c2), .val (.int c3), .val (.int (3 : Int32)), .val (.ref a), .val (.int (1 : Int32)), .unset, .unset, .unset, .unset] []))
          refine Go.st (fun _ => XS.iconst W8.here W8.ex rfl (hb hby at_112)) ?_
          show Go p_ e_ bl_ _ (T8.setTop (mkF m_ 113 #[.val (.int i0), .val (.int i1), .val (.int i2), .val (.int i3), .val (.int i4), .val (.int c0), .val (.int c1), .val (.int c2), .val (.int c3), .val (.int (3 : Int32)), .val (.ref a), .val (.int (1 : Int32)), .unset, .unset, .unset, .unset] [(.int (0 : Int32))]))
          refine Go.st (fun _ => XS.istore W8.here W8.ex rfl (hb hby at_113) rfl (l' := #[.val (.int i0), .val (.int i1), .val (.int i2), .val (.int i3), .val (.int i4), .val (.int c0), .val (.int c1), .val (.int c2), .val (.int c3), .val (.int (3 : Int32)), .val (.ref a), .val (.int (0 : Int32)), .unset, .unset, .unset, .unset]) rfl) ?_
          show Go p_ e_ bl_ _ (T8.setTop (mkF m_ 115 #[.val (.int i0), .val (.int i1), .val (.int i2), .val (.int i3), .val (.int i4), .val (.int c0), .val (.int c1), .val (.int c2), .val (.int c3), .val (.int (3 : Int32)), .val (.ref a), .val (.int (0 : Int32)), .unset, .unset, .unset, .unset] []))
          exact law_p cx i0 i1 i2 i3 i4 c0 c1 c2 c3 (3 : Int32) (0 : Int32) a ta (([c0, c1, c2, c3] : List Int32).take 3) 0 (W8.meet (by decide) (by decide)) hby hml hret hnm r0 r1 r2 r3 S_a (by simp) rfl (by decide) (by simp [fi, y0, y1, y2])
        · refine Go.st (fun _ => XS.icmpYes W8.here W8.ex rfl (pc0 := 109) (pc' := 115) rfl (hb hby at_109) rfl (feq (y0 : ¬ (c0 = (61 : Int32)))).2 (by decide) (by decide)) ?_
          show Go p_ e_ bl_ _ (T8.setTop (mkF m_ 115 #[.val (.int i0), .val (.int i1), .val (.int i2), .val (.int i3), .val (.int i4), .val (.int c0), .val (.int c1), .val (.int c2), .val (.int c3), .val (.int (3 : Int32)), .val (.ref a), .val (.int (1 : Int32)), .unset, .unset, .unset, .unset] []))
          exact law_p cx i0 i1 i2 i3 i4 c0 c1 c2 c3 (3 : Int32) (1 : Int32) a ta (([c0, c1, c2, c3] : List Int32).take 3) 1 (W8.meet (by decide) (by decide)) hby hml hret hnm r0 r1 r2 r3 S_a (by simp) rfl (by decide) (by simp [fi, y0, y1, y2])
      · refine Go.st (fun _ => XS.icmpYes W8.here W8.ex rfl (pc0 := 94) (pc' := 100) rfl (hb hby at_94) rfl (feq (y1 : ¬ (c1 = (61 : Int32)))).2 (by decide) (by decide)) ?_
        show Go p_ e_ bl_ _ (T8.setTop (mkF m_ 100 #[.val (.int i0), .val (.int i1), .val (.int i2), .val (.int i3), .val (.int i4), .val (.int c0), .val (.int c1), .val (.int c2), .val (.int c3), .val (.int (3 : Int32)), .val (.ref a), .val (.int (2 : Int32)), .unset, .unset, .unset, .unset] []))
        refine Go.st (fun _ => XS.iload W8.here W8.ex rfl (hb hby at_100) rfl) ?_
        show Go p_ e_ bl_ _ (T8.setTop (mkF m_ 102 #[.val (.int i0), .val (.int i1), .val (.int i2), .val (.int i3), .val (.int i4), .val (.int c0), .val (.int c1), .val (.int c2), .val (.int c3), .val (.int (3 : Int32)), .val (.ref a), .val (.int (2 : Int32)), .unset, .unset, .unset, .unset] [(.int (3 : Int32))]))
        refine Go.st (fun _ => XS.ifNo W8.here W8.ex rfl (hb hby at_102) rfl ((if0 _ _).trans (tlt ((by decide) : (0 : Int32) < (3 : Int32))).2.2.2)) ?_
        show Go p_ e_ bl_ _ (T8.setTop (mkF m_ 105 #[.val (.int i0), .val (.int i1), .val (.int i2), .val (.int i3), .val (.int i4), .val (.int c0), .val (.int c1), .val (.int c2), .val (.int c3), .val (.int (3 : Int32)), .val (.ref a), .val (.int (2 : Int32)), .unset, .unset, .unset, .unset] []))
        refine Go.st (fun _ => XS.iload W8.here W8.ex rfl (hb hby at_105) rfl) ?_
        show Go p_ e_ bl_ _ (T8.setTop (mkF m_ 107 #[.val (.int i0), .val (.int i1), .val (.int i2), .val (.int i3), .val (.int i4), .val (.int c0), .val (.int c1), .val (.int c2), .val (.int c3), .val (.int (3 : Int32)), .val (.ref a), .val (.int (2 : Int32)), .unset, .unset, .unset, .unset] [(.int c0)]))
        refine Go.st (fun _ => XS.bipush W8.here W8.ex rfl (hb hby at_107)) ?_
        show Go p_ e_ bl_ _ (T8.setTop (mkF m_ 109 #[.val (.int i0), .val (.int i1), .val (.int i2), .val (.int i3), .val (.int i4), .val (.int c0), .val (.int c1), .val (.int c2), .val (.int c3), .val (.int (3 : Int32)), .val (.ref a), .val (.int (2 : Int32)), .unset, .unset, .unset, .unset] [(.int (61 : Int32)), (.int c0)]))
        by_cases y0 : c0 = (61 : Int32)
        · refine Go.st (fun _ => XS.icmpNo W8.here W8.ex rfl (hb hby at_109) rfl (teq (y0 : c0 = (61 : Int32))).2) ?_
          show Go p_ e_ bl_ _ (T8.setTop (mkF m_ 112 #[.val (.int i0), .val (.int i1), .val (.int i2), .val (.int i3), .val (.int i4), .val (.int c0), .val (.int c1), .val (.int c2), .val (.int c3), .val (.int (3 : Int32)), .val (.ref a), .val (.int (2 : Int32)), .unset, .unset, .unset, .unset] []))
          refine Go.st (fun _ => XS.iconst W8.here W8.ex rfl (hb hby at_112)) ?_
          show Go p_ e_ bl_ _ (T8.setTop (mkF m_ 113 #[.val (.int i0), .val (.int i1), .val (.int i2), .val (.int i3), .val (.int i4), .val (.int c0), .val (.int c1), .val (.int c2), .val (.int c3), .val (.int (3 : Int32)), .val (.ref a), .val (.int (2 : Int32)), .unset, .unset, .unset, .unset] [(.int (0 : Int32))]))
          refine Go.st (fun _ => XS.istore W8.here W8.ex rfl (hb hby at_113) rfl (l' := #[.val (.int i0), .val (.int i1), .val (.int i2), .val (.int i3), .val (.int i4), .val (.int c0), .val (.int c1), .val (.int c2), .val (.int c3), .val (.int (3 : Int32)), .val (.ref a), .val (.int (0 : Int32)), .unset, .unset, .unset, .unset]) rfl) ?_
          show Go p_ e_ bl_ _ (T8.setTop (mkF m_ 115 #[.val (.int i0), .val (.int i1), .val (.int i2), .val (.int i3), .val (.int i4), .val (.int c0), .val (.int c1), .val (.int c2), .val (.int c3), .val (.int (3 : Int32)), .val (.ref a), .val (.int (0 : Int32)), .unset, .unset, .unset, .unset] []))
          exact law_p cx i0 i1 i2 i3 i4 c0 c1 c2 c3 (3 : Int32) (0 : Int32) a ta (([c0, c1, c2, c3] : List Int32).take 3) 0 (W8.meet (by decide) (by decide)) hby hml hret hnm r0 r1 r2 r3 S_a (by simp) rfl (by decide) (by simp [fi, y0, y1, y2])
        · refine Go.st (fun _ => XS.icmpYes W8.here W8.ex rfl (pc0 := 109) (pc' := 115) rfl (hb hby at_109) rfl (feq (y0 : ¬ (c0 = (61 : Int32)))).2 (by decide) (by decide)) ?_
          show Go p_ e_ bl_ _ (T8.setTop (mkF m_ 115 #[.val (.int i0), .val (.int i1), .val (.int i2), .val (.int i3), .val (.int i4), .val (.int c0), .val (.int c1), .val (.int c2), .val (.int c3), .val (.int (3 : Int32)), .val (.ref a), .val (.int (2 : Int32)), .unset, .unset, .unset, .unset] []))
          exact law_p cx i0 i1 i2 i3 i4 c0 c1 c2 c3 (3 : Int32) (2 : Int32) a ta (([c0, c1, c2, c3] : List Int32).take 3) 2 (W8.meet (by decide) (by decide)) hby hml hret hnm r0 r1 r2 r3 S_a (by simp) rfl (by decide) (by simp [fi, y0, y1, y2])
    · refine Go.st (fun _ => XS.icmpYes W8.here W8.ex rfl (pc0 := 78) (pc' := 84) rfl (hb hby at_78) rfl (feq (y2 : ¬ (c2 = (61 : Int32)))).2 (by decide) (by decide)) ?_
      show Go p_ e_ bl_ _ (T8.setTop (mkF m_ 84 #[.val (.int i0), .val (.int i1), .val (.int i2), .val (.int i3), .val (.int i4), .val (.int c0), .val (.int c1), .val (.int c2), .val (.int c3), .val (.int (3 : Int32)), .val (.ref a), .val (.int (3 : Int32)), .unset, .unset, .unset, .unset] []))
      refine Go.st (fun _ => XS.iload W8.here W8.ex rfl (hb hby at_84) rfl) ?_
      show Go p_ e_ bl_ _ (T8.setTop (mkF m_ 86 #[.val (.int i0), .val (.int i1), .val (.int i2), .val (.int i3), .val (.int i4), .val (.int c0), .val (.int c1), .val (.int c2), .val (.int c3), .val (.int (3 : Int32)), .val (.ref a), .val (.int (3 : Int32)), .unset, .unset, .unset, .unset] [(.int (3 : Int32))]))
      refine Go.st (fun _ => XS.iconst W8.here W8.ex rfl (hb hby at_86)) ?_
      show Go p_ e_ bl_ _ (T8.setTop (mkF m_ 87 #[.val (.int i0), .val (.int i1), .val (.int i2), .val (.int i3), .val (.int i4), .val (.int c0), .val (.int c1), .val (.int c2), .val (.int c3), .val (.int (3 : Int32)), .val (.ref a), .val (.int (3 : Int32)), .unset, .unset, .unset, .unset] [(.int (1 : Int32)), (.int (3 : Int32))]))
      refine Go.st (fun _ => XS.icmpNo W8.here W8.ex rfl (hb hby at_87) rfl (tlt ((by decide) : (1 : Int32) < (3 : Int32))).2.2.2) ?_
      show Go p_ e_ bl_ _ (T8.setTop (mkF m_ 90 #[.val (.int i0), .val (.int i1), .val (.int i2), .val (.int i3), .val (.int i4), .val (.int c0), .val (.int c1), .val (.int c2), .val (.int c3), .val (.int (3 : Int32)), .val (.ref a), .val (.int (3 : Int32)), .unset, .unset, .unset, .unset] []))
      refine Go.st (fun _ => XS.iload W8.here W8.ex rfl (hb hby at_90) rfl) ?_
      show Go p_ e_ bl_ _ (T8.setTop (mkF m_ 92 #[.val (.int i0), .val (.int i1), .val (.int i2), .val (.int i3), .val (.int i4), .val (.int c0), .val (.int c1), .val (.int c2), .val (.int c3), .val (.int (3 : Int32)), .val (.ref a), .val (.int (3 : Int32)), .unset, .unset, .unset, .unset] [(.int c1)]))
      refine Go.st (fun _ => XS.bipush W8.here W8.ex rfl (hb hby at_92)) ?_
      show Go p_ e_ bl_ _ (T8.setTop (mkF m_ 94 #[.val (.int i0), .val (.int i1), .val (.int i2), .val (.int i3), .val (.int i4), .val (.int c0), .val (.int c1), .val (.int c2), .val (.int c3), .val (.int (3 : Int32)), .val (.ref a), .val (.int (3 : Int32)), .unset, .unset, .unset, .unset] [(.int (61 : Int32)), (.int c1)]))
      by_cases y1 : c1 = (61 : Int32)
      · refine Go.st (fun _ => XS.icmpNo W8.here W8.ex rfl (hb hby at_94) rfl (teq (y1 : c1 = (61 : Int32))).2) ?_
        show Go p_ e_ bl_ _ (T8.setTop (mkF m_ 97 #[.val (.int i0), .val (.int i1), .val (.int i2), .val (.int i3), .val (.int i4), .val (.int c0), .val (.int c1), .val (.int c2), .val (.int c3), .val (.int (3 : Int32)), .val (.ref a), .val (.int (3 : Int32)), .unset, .unset, .unset, .unset] []))
        refine Go.st (fun _ => XS.iconst W8.here W8.ex rfl (hb hby at_97)) ?_
        show Go p_ e_ bl_ _ (T8.setTop (mkF m_ 98 #[.val (.int i0), .val (.int i1), .val (.int i2), .val (.int i3), .val (.int i4), .val (.int c0), .val (.int c1), .val (.int c2), .val (.int c3), .val (.int (3 : Int32)), .val (.ref a), .val (.int (3 : Int32)), .unset, .unset, .unset, .unset] [(.int (1 : Int32))]))
        refine Go.st (fun _ => XS.istore W8.here W8.ex rfl (hb hby at_98) rfl (l' := #[.val (.int i0), .val (.int i1), .val (.int i2), .val (.int i3), .val (.int i4), .val (.int c0), .val (.int c1), .val (.int c2), .val (.int c3), .val (.int (3 : Int32)), .val (.ref a), .val (.int (1 : Int32)), .unset, .unset, .unset, .unset]) rfl) ?_
        show Go p_ e_ bl_ _ (T8.setTop (mkF m_ 100 #[.val (.int i0), .val (.int i1), .val (.int i2), .val (.int i3), .val (.int i4), .val (.int c0), .val (.int c1), .val (.int c2), .val (.int c3), .val (.int (3 : Int32)), .val (.ref a), .val (.int (1 : Int32)), .unset, .unset, .unset, .unset] []))
        refine Go.st (fun _ => XS.iload W8.here W8.ex rfl (hb hby at_100) rfl) ?_
        show Go p_ e_ bl_ _ (T8.setTop (mkF m_ 102 #[.val (.int i0), .val (.int i1), .val (.int i2), .val (.int i3), .val (.int i4), .val (.int c0), .val (.int c1), .val (.int c2), .val (.int c3), .val (.int (3 : Int32)), .val (.ref a), .val (.int (1 : Int32)), .unset, .unset, .unset, .unset] [(.int (3 : Int32))]))
        refine Go.st (fun _ => XS.ifNo W8.here W8.ex rfl (hb hby at_102) rfl ((if0 _ _).trans (tlt ((by decide) : (0 : Int32) < (3 : Int32))).2.2.2)) ?_
        show Go p_ e_ bl_ _ (T8.setTop (mkF m_ 105 #[.val (.int i0), .val (.int i1), .val (.int i2), .val (.int i3), .val (.int i4), .val (.int c0), .val (.int c1), .val (.int c2), .val (.int c3), .val (.int (3 : Int32)), .val (.ref a), .val (.int (1 : Int32)), .unset, .unset, .unset, .unset] []))
        refine Go.st (fun _ => XS.iload W8.here W8.ex rfl (hb hby at_105) rfl) ?_
        show Go p_ e_ bl_ _ (T8.setTop (mkF m_ 107 #[.val (.int i0), .val (.int i1), .val (.int i2), .val (.int i3), .val (.int i4), .val (.int c0), .val (.int c1), .val (.int c2), .val (.int c3), .val (.int (3 : Int32)), .val (.ref a), .val (.int (1 : Int32)), .unset, .unset, .unset, .unset] [(.int c0)]))
        refine Go.st (fun _ => XS.bipush W8.here W8.ex rfl (hb hby at_107)) ?_
        show Go p_ e_ bl_ _ (T8.setTop (mkF m_ 109 #[.val (.int i0), .val (.int i1), .val (.int i2), .val (.int i3), .val (.int i4), .val (.int c0), .val (.int c1), .val (.int c2), .val (.int c3), .val (.int (3 : Int32)), .val (.ref a), .val (.int (1 : Int32)), .unset, .unset, .unset, .unset] [(.int (61 : Int32)), (.int c0)]))
        by_cases y0 : c0 = (61 : Int32)
        · refine Go.st (fun _ => XS.icmpNo W8.here W8.ex rfl (hb hby at_109) rfl (teq (y0 : c0 = (61 : Int32))).2) ?_
          show Go p_ e_ bl_ _ (T8.setTop (mkF m_ 112 #[.val (.int i0), .val (.int i1), .val (.int i2), .val (.int i3), .val (.int i4), .val (.int c0), .val (.int c1), .val (.int c2), .val (.int c3), .val (.int (3 : Int32)), .val (.ref a), .val (.int (1 : Int32)), .unset, .unset, .unset, .unset] []))
          refine Go.st (fun _ => XS.iconst W8.here W8.ex rfl (hb hby at_112)) ?_
          show Go p_ e_ bl_ _ (T8.setTop (mkF m_ 113 #[.val (.int i0), .val (.int i1), .val (.int i2), .val (.int i3), .val (.int i4), .val (.int c0), .val (.int c1), .val (.int c2), .val (.int c3), .val (.int (3 : Int32)), .val (.ref a), .val (.int (1 : Int32)), .unset, .unset, .unset, .unset] [(.int (0 : Int32))]))
          refine Go.st (fun _ => XS.istore W8.here W8.ex rfl (hb hby at_113) rfl (l' := #[.val (.int i0), .val (.int i1), .val (.int i2), .val (.int i3), .val (.int i4), .val (.int c0), .val (.int c1), .val (.int c2), .val (.int c3), .val (.int (3 : Int32)), .val (.ref a), .val (.int (0 : Int32)), .unset, .unset, .unset, .unset]) rfl) ?_
          show Go p_ e_ bl_ _ (T8.setTop (mkF m_ 115 #[.val (.int i0), .val (.int i1), .val (.int i2), .val (.int i3), .val (.int i4), .val (.int c0), .val (.int c1), .val (.int c2), .val (.int c3), .val (.int (3 : Int32)), .val (.ref a), .val (.int (0 : Int32)), .unset, .unset, .unset, .unset] []))
          exact law_p cx i0 i1 i2 i3 i4 c0 c1 c2 c3 (3 : Int32) (0 : Int32) a ta (([c0, c1, c2, c3] : List Int32).take 3) 0 (W8.meet (by decide) (by decide)) hby hml hret hnm r0 r1 r2 r3 S_a (by simp) rfl (by decide) (by simp [fi, y0, y1, y2])
        · refine Go.st (fun _ => XS.icmpYes W8.here W8.ex rfl (pc0 := 109) (pc' := 115) rfl (hb hby at_109) rfl (feq (y0 : ¬ (c0 = (61 : Int32)))).2 (by decide) (by decide)) ?_
          show Go p_ e_ bl_ _ (T8.setTop (mkF m_ 115 #[.val (.int i0), .val (.int i1), .val (.int i2), .val (.int i3), .val (.int i4), .val (.int c0), .val (.int c1), .val (.int c2), .val (.int c3), .val (.int (3 : Int32)), .val (.ref a), .val (.int (1 : Int32)), .unset, .unset, .unset, .unset] []))
          exact law_p cx i0 i1 i2 i3 i4 c0 c1 c2 c3 (3 : Int32) (1 : Int32) a ta (([c0, c1, c2, c3] : List Int32).take 3) 1 (W8.meet (by decide) (by decide)) hby hml hret hnm r0 r1 r2 r3 S_a (by simp) rfl (by decide) (by simp [fi, y0, y1, y2])
      · refine Go.st (fun _ => XS.icmpYes W8.here W8.ex rfl (pc0 := 94) (pc' := 100) rfl (hb hby at_94) rfl (feq (y1 : ¬ (c1 = (61 : Int32)))).2 (by decide) (by decide)) ?_
        show Go p_ e_ bl_ _ (T8.setTop (mkF m_ 100 #[.val (.int i0), .val (.int i1), .val (.int i2), .val (.int i3), .val (.int i4), .val (.int c0), .val (.int c1), .val (.int c2), .val (.int c3), .val (.int (3 : Int32)), .val (.ref a), .val (.int (3 : Int32)), .unset, .unset, .unset, .unset] []))
        refine Go.st (fun _ => XS.iload W8.here W8.ex rfl (hb hby at_100) rfl) ?_
        show Go p_ e_ bl_ _ (T8.setTop (mkF m_ 102 #[.val (.int i0), .val (.int i1), .val (.int i2), .val (.int i3), .val (.int i4), .val (.int c0), .val (.int c1), .val (.int c2), .val (.int c3), .val (.int (3 : Int32)), .val (.ref a), .val (.int (3 : Int32)), .unset, .unset, .unset, .unset] [(.int (3 : Int32))]))
        refine Go.st (fun _ => XS.ifNo W8.here W8.ex rfl (hb hby at_102) rfl ((if0 _ _).trans (tlt ((by decide) : (0 : Int32) < (3 : Int32))).2.2.2)) ?_
        show Go p_ e_ bl_ _ (T8.setTop (mkF m_ 105 #[.val (.int i0), .val (.int i1), .val (.int i2), .val (.int i3), .val (.int i4), .val (.int c0), .val (.int c1), .val (.int c2), .val (.int c3), .val (.int (3 : Int32)), .val (.ref a), .val (.int (3 : Int32)), .unset, .unset, .unset, .unset] []))
        refine Go.st (fun _ => XS.iload W8.here W8.ex rfl (hb hby at_105) rfl) ?_
        show Go p_ e_ bl_ _ (T8.setTop (mkF m_ 107 #[.val (.int i0), .val (.int i1), .val (.int i2), .val (.int i3), .val (.int i4), .val (.int c0), .val (.int c1), .val (.int c2), .val (.int c3), .val (.int (3 : Int32)), .val (.ref a), .val (.int (3 : Int32)), .unset, .unset, .unset, .unset] [(.int c0)]))
        refine Go.st (fun _ => XS.bipush W8.here W8.ex rfl (hb hby at_107)) ?_
        show Go p_ e_ bl_ _ (T8.setTop (mkF m_ 109 #[.val (.int i0), .val (.int i1), .val (.int i2), .val (.int i3), .val (.int i4), .val (.int c0), .val (.int c1), .val (.int c2), .val (.int c3), .val (.int (3 : Int32)), .val (.ref a), .val (.int (3 : Int32)), .unset, .unset, .unset, .unset] [(.int (61 : Int32)), (.int c0)]))
        by_cases y0 : c0 = (61 : Int32)
        · refine Go.st (fun _ => XS.icmpNo W8.here W8.ex rfl (hb hby at_109) rfl (teq (y0 : c0 = (61 : Int32))).2) ?_
          show Go p_ e_ bl_ _ (T8.setTop (mkF m_ 112 #[.val (.int i0), .val (.int i1), .val (.int i2), .val (.int i3), .val (.int i4), .val (.int c0), .val (.int c1), .val (.int c2), .val (.int c3), .val (.int (3 : Int32)), .val (.ref a), .val (.int (3 : Int32)), .unset, .unset, .unset, .unset] []))
          refine Go.st (fun _ => XS.iconst W8.here W8.ex rfl (hb hby at_112)) ?_
          show Go p_ e_ bl_ _ (T8.setTop (mkF m_ 113 #[.val (.int i0), .val (.int i1), .val (.int i2), .val (.int i3), .val (.int i4), .val (.int c0), .val (.int c1), .val (.int c2), .val (.int c3), .val (.int (3 : Int32)), .val (.ref a), .val (.int (3 : Int32)), .unset, .unset, .unset, .unset] [(.int (0 : Int32))]))
          refine Go.st (fun _ => XS.istore W8.here W8.ex rfl (hb hby at_113) rfl (l' := #[.val (.int i0), .val (.int i1), .val (.int i2), .val (.int i3), .val (.int i4), .val (.int c0), .val (.int c1), .val (.int c2), .val (.int c3), .val (.int (3 : Int32)), .val (.ref a), .val (.int (0 : Int32)), .unset, .unset, .unset, .unset]) rfl) ?_
          show Go p_ e_ bl_ _ (T8.setTop (mkF m_ 115 #[.val (.int i0), .val (.int i1), .val (.int i2), .val (.int i3), .val (.int i4), .val (.int c0), .val (.int c1), .val (.int c2), .val (.int c3), .val (.int (3 : Int32)), .val (.ref a), .val (.int (0 : Int32)), .unset, .unset, .unset, .unset] []))
          exact law_p cx i0 i1 i2 i3 i4 c0 c1 c2 c3 (3 : Int32) (0 : Int32) a ta (([c0, c1, c2, c3] : List Int32).take 3) 0 (W8.meet (by decide) (by decide)) hby hml hret hnm r0 r1 r2 r3 S_a (by simp) rfl (by decide) (by simp [fi, y0, y1, y2])
        · refine Go.st (fun _ => XS.icmpYes W8.here W8.ex rfl (pc0 := 109) (pc' := 115) rfl (hb hby at_109) rfl (feq (y0 : ¬ (c0 = (61 : Int32)))).2 (by decide) (by decide)) ?_
          show Go p_ e_ bl_ _ (T8.setTop (mkF m_ 115 #[.val (.int i0), .val (.int i1), .val (.int i2), .val (.int i3), .val (.int i4), .val (.int c0), .val (.int c1), .val (.int c2), .val (.int c3), .val (.int (3 : Int32)), .val (.ref a), .val (.int (3 : Int32)), .unset, .unset, .unset, .unset] []))
          exact law_p cx i0 i1 i2 i3 i4 c0 c1 c2 c3 (3 : Int32) (3 : Int32) a ta (([c0, c1, c2, c3] : List Int32).take 3) 3 (W8.meet (by decide) (by decide)) hby hml hret hnm r0 r1 r2 r3 S_a (by simp) rfl (by decide) (by simp [fi, y0, y1, y2])
  · show Go p_ e_ bl_ _ (T4.setTop (mkF m_ 31 #[.val (.int i0), .val (.int i1), .val (.int i2), .val (.int i3), .val (.int i4), .val (.int c0), .val (.int c1), .val (.int c2), .val (.int c3), .unset, .unset, .unset, .unset, .unset, .unset, .unset] [(.int (4 : Int32))]))
    refine Go.st (fun _ => XS.istore W4.here W4.ex rfl (hb hby at_31) rfl (l' := #[.val (.int i0), .val (.int i1), .val (.int i2), .val (.int i3), .val (.int i4), .val (.int c0), .val (.int c1), .val (.int c2), .val (.int c3), .val (.int (4 : Int32)), .unset, .unset, .unset, .unset, .unset, .unset]) rfl) ?_
    show Go p_ e_ bl_ _ (T4.setTop (mkF m_ 33 #[.val (.int i0), .val (.int i1), .val (.int i2), .val (.int i3), .val (.int i4), .val (.int c0), .val (.int c1), .val (.int c2), .val (.int c3), .val (.int (4 : Int32)), .unset, .unset, .unset, .unset, .unset, .unset] []))
    refine Go.st (fun _ => XS.iload W4.here W4.ex rfl (hb hby at_33) rfl) ?_
    show Go p_ e_ bl_ _ (T4.setTop (mkF m_ 35 #[.val (.int i0), .val (.int i1), .val (.int i2), .val (.int i3), .val (.int i4), .val (.int c0), .val (.int c1), .val (.int c2), .val (.int c3), .val (.int (4 : Int32)), .unset, .unset, .unset, .unset, .unset, .unset] [(.int (4 : Int32))]))
    refine Go.st (fun _ => XS.iload W4.here W4.ex rfl (hb hby at_35) rfl) ?_
    show Go p_ e_ bl_ _ (T4.setTop (mkF m_ 37 #[.val (.int i0), .val (.int i1), .val (.int i2), .val (.int i3), .val (.int i4), .val (.int c0), .val (.int c1), .val (.int c2), .val (.int c3), .val (.int (4 : Int32)), .unset, .unset, .unset, .unset, .unset, .unset] [(.int c0), (.int (4 : Int32))]))
    refine Go.st (fun _ => XS.iload W4.here W4.ex rfl (hb hby at_37) rfl) ?_
    show Go p_ e_ bl_ _ (T4.setTop (mkF m_ 39 #[.val (.int i0), .val (.int i1), .val (.int i2), .val (.int i3), .val (.int i4), .val (.int c0), .val (.int c1), .val (.int c2), .val (.int c3), .val (.int (4 : Int32)), .unset, .unset, .unset, .unset, .unset, .unset] [(.int c1), (.int c0), (.int (4 : Int32))]))
    refine Go.st (fun _ => XS.iload W4.here W4.ex rfl (hb hby at_39) rfl) ?_
    show Go p_ e_ bl_ _ (T4.setTop (mkF m_ 41 #[.val (.int i0), .val (.int i1), .val (.int i2), .val (.int i3), .val (.int i4), .val (.int c0), .val (.int c1), .val (.int c2), .val (.int c3), .val (.int (4 : Int32)), .unset, .unset, .unset, .unset, .unset, .unset] [(.int c2), (.int c1), (.int c0), (.int (4 : Int32))]))
    refine Go.st (fun _ => XS.iload W4.here W4.ex rfl (hb hby at_41) rfl) ?_
    show Go p_ e_ bl_ _ (T4.setTop (mkF m_ 43 #[.val (.int i0), .val (.int i1), .val (.int i2), .val (.int i3), .val (.int i4), .val (.int c0), .val (.int c1), .val (.int c2), .val (.int c3), .val (.int (4 : Int32)), .unset, .unset, .unset, .unset, .unset, .unset] [(.int c3), (.int c2), (.int c1), (.int c0), (.int (4 : Int32))]))
    refine W4.callS (y := (⟨"com/example/dovetail_fields/dovetailfields/CommandLineArgumentsOptionNamePinLaw", "mk", "(ICCCC)Ljava/lang/String;"⟩ : MethodName)) (cx.w 5 rfl) (cx.w 6 rfl) (cx.w 2 rfl) (cx.w 7 rfl) (by decide) (ct_mk4 cx W4.old c0 c1 c2 c3 r0 r1 r2 r3) all0 (by decide) (Wd := 0) (by decide) (k' := 6) (n' := 12) rfl rfl (by decide) (by decide) (by rw [hml]; rfl) (argsL := [(.int (4 : Int32)), (.int c0), (.int c1), (.int c2), (.int c3)]) (rest := []) rfl (lenOf pd22 rfl) rfl (Nat.le_of_eq rfl) (hb hby at_43) ?_
    intro v9 vm9 T9 h9 L9 W9 q9
    obtain ⟨a, ta, rfl, hz_a, g_a, K1, S_a⟩ := q9
    show Go p_ e_ bl_ _ (T9.setTop (mkF m_ 46 #[.val (.int i0), .val (.int i1), .val (.int i2), .val (.int i3), .val (.int i4), .val (.int c0), .val (.int c1), .val (.int c2), .val (.int c3), .val (.int (4 : Int32)), .unset, .unset, .unset, .unset, .unset, .unset] [(.ref a)]))
    refine Go.st (fun _ => XS.astore W9.here W9.ex rfl (hb hby at_46) rfl rfl (l' := #[.val (.int i0), .val (.int i1), .val (.int i2), .val (.int i3), .val (.int i4), .val (.int c0), .val (.int c1), .val (.int c2), .val (.int c3), .val (.int (4 : Int32)), .val (.ref a), .unset, .unset, .unset, .unset, .unset]) rfl) ?_
    show Go p_ e_ bl_ _ (T9.setTop (mkF m_ 48 #[.val (.int i0), .val (.int i1), .val (.int i2), .val (.int i3), .val (.int i4), .val (.int c0), .val (.int c1), .val (.int c2), .val (.int c3), .val (.int (4 : Int32)), .val (.ref a), .unset, .unset, .unset, .unset, .unset] []))
    refine Go.st (fun _ => XS.iload W9.here W9.ex rfl (hb hby at_48) rfl) ?_
    show Go p_ e_ bl_ _ (T9.setTop (mkF m_ 50 #[.val (.int i0), .val (.int i1), .val (.int i2), .val (.int i3), .val (.int i4), .val (.int c0), .val (.int c1), .val (.int c2), .val (.int c3), .val (.int (4 : Int32)), .val (.ref a), .unset, .unset, .unset, .unset, .unset] [(.int (4 : Int32))]))
    refine Go.st (fun _ => XS.istore W9.here W9.ex rfl (hb hby at_50) rfl (l' := #[.val (.int i0), .val (.int i1), .val (.int i2), .val (.int i3), .val (.int i4), .val (.int c0), .val (.int c1), .val (.int c2), .val (.int c3), .val (.int (4 : Int32)), .val (.ref a), .val (.int (4 : Int32)), .unset, .unset, .unset, .unset]) rfl) ?_
    show Go p_ e_ bl_ _ (T9.setTop (mkF m_ 52 #[.val (.int i0), .val (.int i1), .val (.int i2), .val (.int i3), .val (.int i4), .val (.int c0), .val (.int c1), .val (.int c2), .val (.int c3), .val (.int (4 : Int32)), .val (.ref a), .val (.int (4 : Int32)), .unset, .unset, .unset, .unset] []))
    refine Go.st (fun _ => XS.iload W9.here W9.ex rfl (hb hby at_52) rfl) ?_
    show Go p_ e_ bl_ _ (T9.setTop (mkF m_ 54 #[.val (.int i0), .val (.int i1), .val (.int i2), .val (.int i3), .val (.int i4), .val (.int c0), .val (.int c1), .val (.int c2), .val (.int c3), .val (.int (4 : Int32)), .val (.ref a), .val (.int (4 : Int32)), .unset, .unset, .unset, .unset] [(.int (4 : Int32))]))
    refine Go.st (fun _ => XS.iconst W9.here W9.ex rfl (hb hby at_54)) ?_
    show Go p_ e_ bl_ _ (T9.setTop (mkF m_ 55 #[.val (.int i0), .val (.int i1), .val (.int i2), .val (.int i3), .val (.int i4), .val (.int c0), .val (.int c1), .val (.int c2), .val (.int c3), .val (.int (4 : Int32)), .val (.ref a), .val (.int (4 : Int32)), .unset, .unset, .unset, .unset] [(.int (3 : Int32)), (.int (4 : Int32))]))
    refine Go.st (fun _ => XS.icmpNo W9.here W9.ex rfl (hb hby at_55) rfl (tlt ((by decide) : (3 : Int32) < (4 : Int32))).2.2.2) ?_
    show Go p_ e_ bl_ _ (T9.setTop (mkF m_ 58 #[.val (.int i0), .val (.int i1), .val (.int i2), .val (.int i3), .val (.int i4), .val (.int c0), .val (.int c1), .val (.int c2), .val (.int c3), .val (.int (4 : Int32)), .val (.ref a), .val (.int (4 : Int32)), .unset, .unset, .unset, .unset] []))
    refine Go.st (fun _ => XS.iload W9.here W9.ex rfl (hb hby at_58) rfl) ?_
    show Go p_ e_ bl_ _ (T9.setTop (mkF m_ 60 #[.val (.int i0), .val (.int i1), .val (.int i2), .val (.int i3), .val (.int i4), .val (.int c0), .val (.int c1), .val (.int c2), .val (.int c3), .val (.int (4 : Int32)), .val (.ref a), .val (.int (4 : Int32)), .unset, .unset, .unset, .unset] [(.int c3)]))
    refine Go.st (fun _ => XS.bipush W9.here W9.ex rfl (hb hby at_60)) ?_
    show Go p_ e_ bl_ _ (T9.setTop (mkF m_ 62 #[.val (.int i0), .val (.int i1), .val (.int i2), .val (.int i3), .val (.int i4), .val (.int c0), .val (.int c1), .val (.int c2), .val (.int c3), .val (.int (4 : Int32)), .val (.ref a), .val (.int (4 : Int32)), .unset, .unset, .unset, .unset] [(.int (61 : Int32)), (.int c3)]))
    by_cases y3 : c3 = (61 : Int32)
    · refine Go.st (fun _ => XS.icmpNo W9.here W9.ex rfl (hb hby at_62) rfl (teq (y3 : c3 = (61 : Int32))).2) ?_
      show Go p_ e_ bl_ _ (T9.setTop (mkF m_ 65 #[.val (.int i0), .val (.int i1), .val (.int i2), .val (.int i3), .val (.int i4), .val (.int c0), .val (.int c1), .val (.int c2), .val (.int c3), .val (.int (4 : Int32)), .val (.ref a), .val (.int (4 : Int32)), .unset, .unset, .unset, .unset] []))
      refine Go.st (fun _ => XS.iconst W9.here W9.ex rfl (hb hby at_65)) ?_
      show Go p_ e_ bl_ _ (T9.setTop (mkF m_ 66 #[.val (.int i0), .val (.int i1), .val (.int i2), .val (.int i3), .val (.int i4), .val (.int c0), .val (.int c1), .val (.int c2), .val (.int c3), .val (.int (4 : Int32)), .val (.ref a), .val (.int (4 : Int32)), .unset, .unset, .unset, .unset] [(.int (3 : Int32))]))
      refine Go.st (fun _ => XS.istore W9.here W9.ex rfl (hb hby at_66) rfl (l' := #[.val (.int i0), .val (.int i1), .val (.int i2), .val (.int i3), .val (.int i4), .val (.int c0), .val (.int c1), .val (.int c2), .val (.int c3), .val (.int (4 : Int32)), .val (.ref a), .val (.int (3 : Int32)), .unset, .unset, .unset, .unset]) rfl) ?_
      show Go p_ e_ bl_ _ (T9.setTop (mkF m_ 68 #[.val (.int i0), .val (.int i1), .val (.int i2), .val (.int i3), .val (.int i4), .val (.int c0), .val (.int c1), .val (.int c2), .val (.int c3), .val (.int (4 : Int32)), .val (.ref a), .val (.int (3 : Int32)), .unset, .unset, .unset, .unset] []))
      refine Go.st (fun _ => XS.iload W9.here W9.ex rfl (hb hby at_68) rfl) ?_
      show Go p_ e_ bl_ _ (T9.setTop (mkF m_ 70 #[.val (.int i0), .val (.int i1), .val (.int i2), .val (.int i3), .val (.int i4), .val (.int c0), .val (.int c1), .val (.int c2), .val (.int c3), .val (.int (4 : Int32)), .val (.ref a), .val (.int (3 : Int32)), .unset, .unset, .unset, .unset] [(.int (4 : Int32))]))
      refine Go.st (fun _ => XS.iconst W9.here W9.ex rfl (hb hby at_70)) ?_
      show Go p_ e_ bl_ _ (T9.setTop (mkF m_ 71 #[.val (.int i0), .val (.int i1), .val (.int i2), .val (.int i3), .val (.int i4), .val (.int c0), .val (.int c1), .val (.int c2), .val (.int c3), .val (.int (4 : Int32)), .val (.ref a), .val (.int (3 : Int32)), .unset, .unset, .unset, .unset] [(.int (2 : Int32)), (.int (4 : Int32))]))
      refine Go.st (fun _ => XS.icmpNo W9.here W9.ex rfl (hb hby at_71) rfl (tlt ((by decide) : (2 : Int32) < (4 : Int32))).2.2.2) ?_
      show Go p_ e_ bl_ _ (T9.setTop (mkF m_ 74 #[.val (.int i0), .val (.int i1), .val (.int i2), .val (.int i3), .val (.int i4), .val (.int c0), .val (.int c1), .val (.int c2), .val (.int c3), .val (.int (4 : Int32)), .val (.ref a), .val (.int (3 : Int32)), .unset, .unset, .unset, .unset] []))
      refine Go.st (fun _ => XS.iload W9.here W9.ex rfl (hb hby at_74) rfl) ?_
      show Go p_ e_ bl_ _ (T9.setTop (mkF m_ 76 #[.val (.int i0), .val (.int i1), .val (.int i2), .val (.int i3), .val (.int i4), .val (.int c0), .val (.int c1), .val (.int c2), .val (.int c3), .val (.int (4 : Int32)), .val (.ref a), .val (.int (3 : Int32)), .unset, .unset, .unset, .unset] [(.int c2)]))
      refine Go.st (fun _ => XS.bipush W9.here W9.ex rfl (hb hby at_76)) ?_
      show Go p_ e_ bl_ _ (T9.setTop (mkF m_ 78 #[.val (.int i0), .val (.int i1), .val (.int i2), .val (.int i3), .val (.int i4), .val (.int c0), .val (.int c1), .val (.int c2), .val (.int c3), .val (.int (4 : Int32)), .val (.ref a), .val (.int (3 : Int32)), .unset, .unset, .unset, .unset] [(.int (61 : Int32)), (.int c2)]))
      by_cases y2 : c2 = (61 : Int32)
      · refine Go.st (fun _ => XS.icmpNo W9.here W9.ex rfl (hb hby at_78) rfl (teq (y2 : c2 = (61 : Int32))).2) ?_
        show Go p_ e_ bl_ _ (T9.setTop (mkF m_ 81 #[.val (.int i0), .val (.int i1), .val (.int i2), .val (.int i3), .val (.int i4), .val (.int c0), .val (.int c1), .val (.int c2), .val (.int c3), .val (.int (4 : Int32)), .val (.ref a), .val (.int (3 : Int32)), .unset, .unset, .unset, .unset] []))
        refine Go.st (fun _ => XS.iconst W9.here W9.ex rfl (hb hby at_81)) ?_
        show Go p_ e_ bl_ _ (T9.setTop (mkF m_ 82 #[.val (.int i0), .val (.int i1), .val (.int i2), .val (.int i3), .val (.int i4), .val (.int c0), .val (.int c1), .val (.int c2), .val (.int c3), .val (.int (4 : Int32)), .val (.ref a), .val (.int (3 : Int32)), .unset, .unset, .unset, .unset] [(.int (2 : Int32))]))
        refine Go.st (fun _ => XS.istore W9.here W9.ex rfl (hb hby at_82) rfl (l' := #[.val (.int i0), .val (.int i1), .val (.int i2), .val (.int i3), .val (.int i4), .val (.int c0), .val (.int c1), .val (.int c2), .val (.int c3), .val (.int (4 : Int32)), .val (.ref a), .val (.int (2 : Int32)), .unset, .unset, .unset, .unset]) rfl) ?_
        show Go p_ e_ bl_ _ (T9.setTop (mkF m_ 84 #[.val (.int i0), .val (.int i1), .val (.int i2), .val (.int i3), .val (.int i4), .val (.int c0), .val (.int c1), .val (.int c2), .val (.int c3), .val (.int (4 : Int32)), .val (.ref a), .val (.int (2 : Int32)), .unset, .unset, .unset, .unset] []))
        refine Go.st (fun _ => XS.iload W9.here W9.ex rfl (hb hby at_84) rfl) ?_
        show Go p_ e_ bl_ _ (T9.setTop (mkF m_ 86 #[.val (.int i0), .val (.int i1), .val (.int i2), .val (.int i3), .val (.int i4), .val (.int c0), .val (.int c1), .val (.int c2), .val (.int c3), .val (.int (4 : Int32)), .val (.ref a), .val (.int (2 : Int32)), .unset, .unset, .unset, .unset] [(.int (4 : Int32))]))
        refine Go.st (fun _ => XS.iconst W9.here W9.ex rfl (hb hby at_86)) ?_
        show Go p_ e_ bl_ _ (T9.setTop (mkF m_ 87 #[.val (.int i0), .val (.int i1), .val (.int i2), .val (.int i3), .val (.int i4), .val (.int c0), .val (.int c1), .val (.int c2), .val (.int c3), .val (.int (4 : Int32)), .val (.ref a), .val (.int (2 : Int32)), .unset, .unset, .unset, .unset] [(.int (1 : Int32)), (.int (4 : Int32))]))
        refine Go.st (fun _ => XS.icmpNo W9.here W9.ex rfl (hb hby at_87) rfl (tlt ((by decide) : (1 : Int32) < (4 : Int32))).2.2.2) ?_
        show Go p_ e_ bl_ _ (T9.setTop (mkF m_ 90 #[.val (.int i0), .val (.int i1), .val (.int i2), .val (.int i3), .val (.int i4), .val (.int c0), .val (.int c1), .val (.int c2), .val (.int c3), .val (.int (4 : Int32)), .val (.ref a), .val (.int (2 : Int32)), .unset, .unset, .unset, .unset] []))
        refine Go.st (fun _ => XS.iload W9.here W9.ex rfl (hb hby at_90) rfl) ?_
        show Go p_ e_ bl_ _ (T9.setTop (mkF m_ 92 #[.val (.int i0), .val (.int i1), .val (.int i2), .val (.int i3), .val (.int i4), .val (.int c0), .val (.int c1), .val (.int c2), .val (.int c3), .val (.int (4 : Int32)), .val (.ref a), .val (.int (2 : Int32)), .unset, .unset, .unset, .unset] [(.int c1)]))
        refine Go.st (fun _ => XS.bipush W9.here W9.ex rfl (hb hby at_92)) ?_
        show Go p_ e_ bl_ _ (T9.setTop (mkF m_ 94 #[.val (.int i0), .val (.int i1), .val (.int i2), .val (.int i3), .val (.int i4), .val (.int c0), .val (.int c1), .val (.int c2), .val (.int c3), .val (.int (4 : Int32)), .val (.ref a), .val (.int (2 : Int32)), .unset, .unset, .unset, .unset] [(.int (61 : Int32)), (.int c1)]))
        by_cases y1 : c1 = (61 : Int32)
        · refine Go.st (fun _ => XS.icmpNo W9.here W9.ex rfl (hb hby at_94) rfl (teq (y1 : c1 = (61 : Int32))).2) ?_
          show Go p_ e_ bl_ _ (T9.setTop (mkF m_ 97 #[.val (.int i0), .val (.int i1), .val (.int i2), .val (.int i3), .val (.int i4), .val (.int c0), .val (.int c1), .val (.int c2), .val (.int c3), .val (.int (4 : Int32)), .val (.ref a), .val (.int (2 : Int32)), .unset, .unset, .unset, .unset] []))
          refine Go.st (fun _ => XS.iconst W9.here W9.ex rfl (hb hby at_97)) ?_
          show Go p_ e_ bl_ _ (T9.setTop (mkF m_ 98 #[.val (.int i0), .val (.int i1), .val (.int i2), .val (.int i3), .val (.int i4), .val (.int c0), .val (.int c1), .val (.int c2), .val (.int c3), .val (.int (4 : Int32)), .val (.ref a), .val (.int (2 : Int32)), .unset, .unset, .unset, .unset] [(.int (1 : Int32))]))
          refine Go.st (fun _ => XS.istore W9.here W9.ex rfl (hb hby at_98) rfl (l' := #[.val (.int i0), .val (.int i1), .val (.int i2), .val (.int i3), .val (.int i4), .val (.int c0), .val (.int c1), .val (.int c2), .val (.int c3), .val (.int (4 : Int32)), .val (.ref a), .val (.int (1 : Int32)), .unset, .unset, .unset, .unset]) rfl) ?_
          show Go p_ e_ bl_ _ (T9.setTop (mkF m_ 100 #[.val (.int i0), .val (.int i1), .val (.int i2), .val (.int i3), .val (.int i4), .val (.int c0), .val (.int c1), .val (.int c2), .val (.int c3), .val (.int (4 : Int32)), .val (.ref a), .val (.int (1 : Int32)), .unset, .unset, .unset, .unset] []))
          refine Go.st (fun _ => XS.iload W9.here W9.ex rfl (hb hby at_100) rfl) ?_
          show Go p_ e_ bl_ _ (T9.setTop (mkF m_ 102 #[.val (.int i0), .val (.int i1), .val (.int i2), .val (.int i3), .val (.int i4), .val (.int c0), .val (.int c1), .val (.int c2), .val (.int c3), .val (.int (4 : Int32)), .val (.ref a), .val (.int (1 : Int32)), .unset, .unset, .unset, .unset] [(.int (4 : Int32))]))
          refine Go.st (fun _ => XS.ifNo W9.here W9.ex rfl (hb hby at_102) rfl ((if0 _ _).trans (tlt ((by decide) : (0 : Int32) < (4 : Int32))).2.2.2)) ?_
          show Go p_ e_ bl_ _ (T9.setTop (mkF m_ 105 #[.val (.int i0), .val (.int i1), .val (.int i2), .val (.int i3), .val (.int i4), .val (.int c0), .val (.int c1), .val (.int c2), .val (.int c3), .val (.int (4 : Int32)), .val (.ref a), .val (.int (1 : Int32)), .unset, .unset, .unset, .unset] []))
          refine Go.st (fun _ => XS.iload W9.here W9.ex rfl (hb hby at_105) rfl) ?_
          show Go p_ e_ bl_ _ (T9.setTop (mkF m_ 107 #[.val (.int i0), .val (.int i1), .val (.int i2), .val (.int i3), .val (.int i4), .val (.int c0), .val (.int c1), .val (.int c2), .val (.int c3), .val (.int (4 : Int32)), .val (.ref a), .val (.int (1 : Int32)), .unset, .unset, .unset, .unset] [(.int c0)]))
          refine Go.st (fun _ => XS.bipush W9.here W9.ex rfl (hb hby at_107)) ?_
          show Go p_ e_ bl_ _ (T9.setTop (mkF m_ 109 #[.val (.int i0), .val (.int i1), .val (.int i2), .val (.int i3), .val (.int i4), .val (.int c0), .val (.int c1), .val (.int c2), .val (.int c3), .val (.int (4 : Int32)), .val (.ref a), .val (.int (1 : Int32)), .unset, .unset, .unset, .unset] [(.int (61 : Int32)), (.int c0)]))
          by_cases y0 : c0 = (61 : Int32)
          · refine Go.st (fun _ => XS.icmpNo W9.here W9.ex rfl (hb hby at_109) rfl (teq (y0 : c0 = (61 : Int32))).2) ?_
            show Go p_ e_ bl_ _ (T9.setTop (mkF m_ 112 #[.val (.int i0), .val (.int i1), .val (.int i2), .val (.int i3), .val (.int i4), .val (.int c0), .val (.int c1), .val (.int c2), .val (.int c3), .val (.int (4 : Int32)), .val (.ref a), .val (.int (1 : Int32)), .unset, .unset, .unset, .unset] []))
            refine Go.st (fun _ => XS.iconst W9.here W9.ex rfl (hb hby at_112)) ?_
            show Go p_ e_ bl_ _ (T9.setTop (mkF m_ 113 #[.val (.int i0), .val (.int i1), .val (.int i2), .val (.int i3), .val (.int i4), .val (.int c0), .val (.int c1), .val (.int c2), .val (.int c3), .val (.int (4 : Int32)), .val (.ref a), .val (.int (1 : Int32)), .unset, .unset, .unset, .unset] [(.int (0 : Int32))]))
            refine Go.st (fun _ => XS.istore W9.here W9.ex rfl (hb hby at_113) rfl (l' := #[.val (.int i0), .val (.int i1), .val (.int i2), .val (.int i3), .val (.int i4), .val (.int c0), .val (.int c1), .val (.int c2), .val (.int c3), .val (.int (4 : Int32)), .val (.ref a), .val (.int (0 : Int32)), .unset, .unset, .unset, .unset]) rfl) ?_
            show Go p_ e_ bl_ _ (T9.setTop (mkF m_ 115 #[.val (.int i0), .val (.int i1), .val (.int i2), .val (.int i3), .val (.int i4), .val (.int c0), .val (.int c1), .val (.int c2), .val (.int c3), .val (.int (4 : Int32)), .val (.ref a), .val (.int (0 : Int32)), .unset, .unset, .unset, .unset] []))
            exact law_p cx i0 i1 i2 i3 i4 c0 c1 c2 c3 (4 : Int32) (0 : Int32) a ta (([c0, c1, c2, c3] : List Int32).take 4) 0 (W9.meet (by decide) (by decide)) hby hml hret hnm r0 r1 r2 r3 S_a (by simp) rfl (by decide) (by simp [fi, y0, y1, y2, y3])
          · refine Go.st (fun _ => XS.icmpYes W9.here W9.ex rfl (pc0 := 109) (pc' := 115) rfl (hb hby at_109) rfl (feq (y0 : ¬ (c0 = (61 : Int32)))).2 (by decide) (by decide)) ?_
            show Go p_ e_ bl_ _ (T9.setTop (mkF m_ 115 #[.val (.int i0), .val (.int i1), .val (.int i2), .val (.int i3), .val (.int i4), .val (.int c0), .val (.int c1), .val (.int c2), .val (.int c3), .val (.int (4 : Int32)), .val (.ref a), .val (.int (1 : Int32)), .unset, .unset, .unset, .unset] []))
            exact law_p cx i0 i1 i2 i3 i4 c0 c1 c2 c3 (4 : Int32) (1 : Int32) a ta (([c0, c1, c2, c3] : List Int32).take 4) 1 (W9.meet (by decide) (by decide)) hby hml hret hnm r0 r1 r2 r3 S_a (by simp) rfl (by decide) (by simp [fi, y0, y1, y2, y3])
        · refine Go.st (fun _ => XS.icmpYes W9.here W9.ex rfl (pc0 := 94) (pc' := 100) rfl (hb hby at_94) rfl (feq (y1 : ¬ (c1 = (61 : Int32)))).2 (by decide) (by decide)) ?_
          show Go p_ e_ bl_ _ (T9.setTop (mkF m_ 100 #[.val (.int i0), .val (.int i1), .val (.int i2), .val (.int i3), .val (.int i4), .val (.int c0), .val (.int c1), .val (.int c2), .val (.int c3), .val (.int (4 : Int32)), .val (.ref a), .val (.int (2 : Int32)), .unset, .unset, .unset, .unset] []))
          refine Go.st (fun _ => XS.iload W9.here W9.ex rfl (hb hby at_100) rfl) ?_
          show Go p_ e_ bl_ _ (T9.setTop (mkF m_ 102 #[.val (.int i0), .val (.int i1), .val (.int i2), .val (.int i3), .val (.int i4), .val (.int c0), .val (.int c1), .val (.int c2), .val (.int c3), .val (.int (4 : Int32)), .val (.ref a), .val (.int (2 : Int32)), .unset, .unset, .unset, .unset] [(.int (4 : Int32))]))
          refine Go.st (fun _ => XS.ifNo W9.here W9.ex rfl (hb hby at_102) rfl ((if0 _ _).trans (tlt ((by decide) : (0 : Int32) < (4 : Int32))).2.2.2)) ?_
          show Go p_ e_ bl_ _ (T9.setTop (mkF m_ 105 #[.val (.int i0), .val (.int i1), .val (.int i2), .val (.int i3), .val (.int i4), .val (.int c0), .val (.int c1), .val (.int c2), .val (.int c3), .val (.int (4 : Int32)), .val (.ref a), .val (.int (2 : Int32)), .unset, .unset, .unset, .unset] []))
          refine Go.st (fun _ => XS.iload W9.here W9.ex rfl (hb hby at_105) rfl) ?_
          show Go p_ e_ bl_ _ (T9.setTop (mkF m_ 107 #[.val (.int i0), .val (.int i1), .val (.int i2), .val (.int i3), .val (.int i4), .val (.int c0), .val (.int c1), .val (.int c2), .val (.int c3), .val (.int (4 : Int32)), .val (.ref a), .val (.int (2 : Int32)), .unset, .unset, .unset, .unset] [(.int c0)]))
          refine Go.st (fun _ => XS.bipush W9.here W9.ex rfl (hb hby at_107)) ?_
          show Go p_ e_ bl_ _ (T9.setTop (mkF m_ 109 #[.val (.int i0), .val (.int i1), .val (.int i2), .val (.int i3), .val (.int i4), .val (.int c0), .val (.int c1), .val (.int c2), .val (.int c3), .val (.int (4 : Int32)), .val (.ref a), .val (.int (2 : Int32)), .unset, .unset, .unset, .unset] [(.int (61 : Int32)), (.int c0)]))
          by_cases y0 : c0 = (61 : Int32)
          · refine Go.st (fun _ => XS.icmpNo W9.here W9.ex rfl (hb hby at_109) rfl (teq (y0 : c0 = (61 : Int32))).2) ?_
            show Go p_ e_ bl_ _ (T9.setTop (mkF m_ 112 #[.val (.int i0), .val (.int i1), .val (.int i2), .val (.int i3), .val (.int i4), .val (.int c0), .val (.int c1), .val (.int c2), .val (.int c3), .val (.int (4 : Int32)), .val (.ref a), .val (.int (2 : Int32)), .unset, .unset, .unset, .unset] []))
            refine Go.st (fun _ => XS.iconst W9.here W9.ex rfl (hb hby at_112)) ?_
            show Go p_ e_ bl_ _ (T9.setTop (mkF m_ 113 #[.val (.int i0), .val (.int i1), .val (.int i2), .val (.int i3), .val (.int i4), .val (.int c0), .val (.int c1), .val (.int c2), .val (.int c3), .val (.int (4 : Int32)), .val (.ref a), .val (.int (2 : Int32)), .unset, .unset, .unset, .unset] [(.int (0 : Int32))]))
            refine Go.st (fun _ => XS.istore W9.here W9.ex rfl (hb hby at_113) rfl (l' := #[.val (.int i0), .val (.int i1), .val (.int i2), .val (.int i3), .val (.int i4), .val (.int c0), .val (.int c1), .val (.int c2), .val (.int c3), .val (.int (4 : Int32)), .val (.ref a), .val (.int (0 : Int32)), .unset, .unset, .unset, .unset]) rfl) ?_
            show Go p_ e_ bl_ _ (T9.setTop (mkF m_ 115 #[.val (.int i0), .val (.int i1), .val (.int i2), .val (.int i3), .val (.int i4), .val (.int c0), .val (.int c1), .val (.int c2), .val (.int c3), .val (.int (4 : Int32)), .val (.ref a), .val (.int (0 : Int32)), .unset, .unset, .unset, .unset] []))
            exact law_p cx i0 i1 i2 i3 i4 c0 c1 c2 c3 (4 : Int32) (0 : Int32) a ta (([c0, c1, c2, c3] : List Int32).take 4) 0 (W9.meet (by decide) (by decide)) hby hml hret hnm r0 r1 r2 r3 S_a (by simp) rfl (by decide) (by simp [fi, y0, y1, y2, y3])
          · refine Go.st (fun _ => XS.icmpYes W9.here W9.ex rfl (pc0 := 109) (pc' := 115) rfl (hb hby at_109) rfl (feq (y0 : ¬ (c0 = (61 : Int32)))).2 (by decide) (by decide)) ?_
            show Go p_ e_ bl_ _ (T9.setTop (mkF m_ 115 #[.val (.int i0), .val (.int i1), .val (.int i2), .val (.int i3), .val (.int i4), .val (.int c0), .val (.int c1), .val (.int c2), .val (.int c3), .val (.int (4 : Int32)), .val (.ref a), .val (.int (2 : Int32)), .unset, .unset, .unset, .unset] []))
            exact law_p cx i0 i1 i2 i3 i4 c0 c1 c2 c3 (4 : Int32) (2 : Int32) a ta (([c0, c1, c2, c3] : List Int32).take 4) 2 (W9.meet (by decide) (by decide)) hby hml hret hnm r0 r1 r2 r3 S_a (by simp) rfl (by decide) (by simp [fi, y0, y1, y2, y3])
      · refine Go.st (fun _ => XS.icmpYes W9.here W9.ex rfl (pc0 := 78) (pc' := 84) rfl (hb hby at_78) rfl (feq (y2 : ¬ (c2 = (61 : Int32)))).2 (by decide) (by decide)) ?_
        show Go p_ e_ bl_ _ (T9.setTop (mkF m_ 84 #[.val (.int i0), .val (.int i1), .val (.int i2), .val (.int i3), .val (.int i4), .val (.int c0), .val (.int c1), .val (.int c2), .val (.int c3), .val (.int (4 : Int32)), .val (.ref a), .val (.int (3 : Int32)), .unset, .unset, .unset, .unset] []))
        refine Go.st (fun _ => XS.iload W9.here W9.ex rfl (hb hby at_84) rfl) ?_
        show Go p_ e_ bl_ _ (T9.setTop (mkF m_ 86 #[.val (.int i0), .val (.int i1), .val (.int i2), .val (.int i3), .val (.int i4), .val (.int c0), .val (.int c1), .val (.int c2), .val (.int c3), .val (.int (4 : Int32)), .val (.ref a), .val (.int (3 : Int32)), .unset, .unset, .unset, .unset] [(.int (4 : Int32))]))
        refine Go.st (fun _ => XS.iconst W9.here W9.ex rfl (hb hby at_86)) ?_
        show Go p_ e_ bl_ _ (T9.setTop (mkF m_ 87 #[.val (.int i0), .val (.int i1), .val (.int i2), .val (.int i3), .val (.int i4), .val (.int c0), .val (.int c1), .val (.int c2), .val (.int c3), .val (.int (4 : Int32)), .val (.ref a), .val (.int (3 : Int32)), .unset, .unset, .unset, .unset] [(.int (1 : Int32)), (.int (4 : Int32))]))
        refine Go.st (fun _ => XS.icmpNo W9.here W9.ex rfl (hb hby at_87) rfl (tlt ((by decide) : (1 : Int32) < (4 : Int32))).2.2.2) ?_
        show Go p_ e_ bl_ _ (T9.setTop (mkF m_ 90 #[.val (.int i0), .val (.int i1), .val (.int i2), .val (.int i3), .val (.int i4), .val (.int c0), .val (.int c1), .val (.int c2), .val (.int c3), .val (.int (4 : Int32)), .val (.ref a), .val (.int (3 : Int32)), .unset, .unset, .unset, .unset] []))
        refine Go.st (fun _ => XS.iload W9.here W9.ex rfl (hb hby at_90) rfl) ?_
        show Go p_ e_ bl_ _ (T9.setTop (mkF m_ 92 #[.val (.int i0), .val (.int i1), .val (.int i2), .val (.int i3), .val (.int i4), .val (.int c0), .val (.int c1), .val (.int c2), .val (.int c3), .val (.int (4 : Int32)), .val (.ref a), .val (.int (3 : Int32)), .unset, .unset, .unset, .unset] [(.int c1)]))
        refine Go.st (fun _ => XS.bipush W9.here W9.ex rfl (hb hby at_92)) ?_
        show Go p_ e_ bl_ _ (T9.setTop (mkF m_ 94 #[.val (.int i0), .val (.int i1), .val (.int i2), .val (.int i3), .val (.int i4), .val (.int c0), .val (.int c1), .val (.int c2), .val (.int c3), .val (.int (4 : Int32)), .val (.ref a), .val (.int (3 : Int32)), .unset, .unset, .unset, .unset] [(.int (61 : Int32)), (.int c1)]))
        by_cases y1 : c1 = (61 : Int32)
        · refine Go.st (fun _ => XS.icmpNo W9.here W9.ex rfl (hb hby at_94) rfl (teq (y1 : c1 = (61 : Int32))).2) ?_
          show Go p_ e_ bl_ _ (T9.setTop (mkF m_ 97 #[.val (.int i0), .val (.int i1), .val (.int i2), .val (.int i3), .val (.int i4), .val (.int c0), .val (.int c1), .val (.int c2), .val (.int c3), .val (.int (4 : Int32)), .val (.ref a), .val (.int (3 : Int32)), .unset, .unset, .unset, .unset] []))
          refine Go.st (fun _ => XS.iconst W9.here W9.ex rfl (hb hby at_97)) ?_
          show Go p_ e_ bl_ _ (T9.setTop (mkF m_ 98 #[.val (.int i0), .val (.int i1), .val (.int i2), .val (.int i3), .val (.int i4), .val (.int c0), .val (.int c1), .val (.int c2), .val (.int c3), .val (.int (4 : Int32)), .val (.ref a), .val (.int (3 : Int32)), .unset, .unset, .unset, .unset] [(.int (1 : Int32))]))
          refine Go.st (fun _ => XS.istore W9.here W9.ex rfl (hb hby at_98) rfl (l' := #[.val (.int i0), .val (.int i1), .val (.int i2), .val (.int i3), .val (.int i4), .val (.int c0), .val (.int c1), .val (.int c2), .val (.int c3), .val (.int (4 : Int32)), .val (.ref a), .val (.int (1 : Int32)), .unset, .unset, .unset, .unset]) rfl) ?_
          show Go p_ e_ bl_ _ (T9.setTop (mkF m_ 100 #[.val (.int i0), .val (.int i1), .val (.int i2), .val (.int i3), .val (.int i4), .val (.int c0), .val (.int c1), .val (.int c2), .val (.int c3), .val (.int (4 : Int32)), .val (.ref a), .val (.int (1 : Int32)), .unset, .unset, .unset, .unset] []))
          refine Go.st (fun _ => XS.iload W9.here W9.ex rfl (hb hby at_100) rfl) ?_
          show Go p_ e_ bl_ _ (T9.setTop (mkF m_ 102 #[.val (.int i0), .val (.int i1), .val (.int i2), .val (.int i3), .val (.int i4), .val (.int c0), .val (.int c1), .val (.int c2), .val (.int c3), .val (.int (4 : Int32)), .val (.ref a), .val (.int (1 : Int32)), .unset, .unset, .unset, .unset] [(.int (4 : Int32))]))
          refine Go.st (fun _ => XS.ifNo W9.here W9.ex rfl (hb hby at_102) rfl ((if0 _ _).trans (tlt ((by decide) : (0 : Int32) < (4 : Int32))).2.2.2)) ?_
          show Go p_ e_ bl_ _ (T9.setTop (mkF m_ 105 #[.val (.int i0), .val (.int i1), .val (.int i2), .val (.int i3), .val (.int i4), .val (.int c0), .val (.int c1), .val (.int c2), .val (.int c3), .val (.int (4 : Int32)), .val (.ref a), .val (.int (1 : Int32)), .unset, .unset, .unset, .unset] []))
          refine Go.st (fun _ => XS.iload W9.here W9.ex rfl (hb hby at_105) rfl) ?_
          show Go p_ e_ bl_ _ (T9.setTop (mkF m_ 107 #[.val (.int i0), .val (.int i1), .val (.int i2), .val (.int i3), .val (.int i4), .val (.int c0), .val (.int c1), .val (.int c2), .val (.int c3), .val (.int (4 : Int32)), .val (.ref a), .val (.int (1 : Int32)), .unset, .unset, .unset, .unset] [(.int c0)]))
          refine Go.st (fun _ => XS.bipush W9.here W9.ex rfl (hb hby at_107)) ?_
          show Go p_ e_ bl_ _ (T9.setTop (mkF m_ 109 #[.val (.int i0), .val (.int i1), .val (.int i2), .val (.int i3), .val (.int i4), .val (.int c0), .val (.int c1), .val (.int c2), .val (.int c3), .val (.int (4 : Int32)), .val (.ref a), .val (.int (1 : Int32)), .unset, .unset, .unset, .unset] [(.int (61 : Int32)), (.int c0)]))
          by_cases y0 : c0 = (61 : Int32)
          · refine Go.st (fun _ => XS.icmpNo W9.here W9.ex rfl (hb hby at_109) rfl (teq (y0 : c0 = (61 : Int32))).2) ?_
            show Go p_ e_ bl_ _ (T9.setTop (mkF m_ 112 #[.val (.int i0), .val (.int i1), .val (.int i2), .val (.int i3), .val (.int i4), .val (.int c0), .val (.int c1), .val (.int c2), .val (.int c3), .val (.int (4 : Int32)), .val (.ref a), .val (.int (1 : Int32)), .unset, .unset, .unset, .unset] []))
            refine Go.st (fun _ => XS.iconst W9.here W9.ex rfl (hb hby at_112)) ?_
            show Go p_ e_ bl_ _ (T9.setTop (mkF m_ 113 #[.val (.int i0), .val (.int i1), .val (.int i2), .val (.int i3), .val (.int i4), .val (.int c0), .val (.int c1), .val (.int c2), .val (.int c3), .val (.int (4 : Int32)), .val (.ref a), .val (.int (1 : Int32)), .unset, .unset, .unset, .unset] [(.int (0 : Int32))]))
            refine Go.st (fun _ => XS.istore W9.here W9.ex rfl (hb hby at_113) rfl (l' := #[.val (.int i0), .val (.int i1), .val (.int i2), .val (.int i3), .val (.int i4), .val (.int c0), .val (.int c1), .val (.int c2), .val (.int c3), .val (.int (4 : Int32)), .val (.ref a), .val (.int (0 : Int32)), .unset, .unset, .unset, .unset]) rfl) ?_
            show Go p_ e_ bl_ _ (T9.setTop (mkF m_ 115 #[.val (.int i0), .val (.int i1), .val (.int i2), .val (.int i3), .val (.int i4), .val (.int c0), .val (.int c1), .val (.int c2), .val (.int c3), .val (.int (4 : Int32)), .val (.ref a), .val (.int (0 : Int32)), .unset, .unset, .unset, .unset] []))
            exact law_p cx i0 i1 i2 i3 i4 c0 c1 c2 c3 (4 : Int32) (0 : Int32) a ta (([c0, c1, c2, c3] : List Int32).take 4) 0 (W9.meet (by decide) (by decide)) hby hml hret hnm r0 r1 r2 r3 S_a (by simp) rfl (by decide) (by simp [fi, y0, y1, y2, y3])
          · refine Go.st (fun _ => XS.icmpYes W9.here W9.ex rfl (pc0 := 109) (pc' := 115) rfl (hb hby at_109) rfl (feq (y0 : ¬ (c0 = (61 : Int32)))).2 (by decide) (by decide)) ?_
            show Go p_ e_ bl_ _ (T9.setTop (mkF m_ 115 #[.val (.int i0), .val (.int i1), .val (.int i2), .val (.int i3), .val (.int i4), .val (.int c0), .val (.int c1), .val (.int c2), .val (.int c3), .val (.int (4 : Int32)), .val (.ref a), .val (.int (1 : Int32)), .unset, .unset, .unset, .unset] []))
            exact law_p cx i0 i1 i2 i3 i4 c0 c1 c2 c3 (4 : Int32) (1 : Int32) a ta (([c0, c1, c2, c3] : List Int32).take 4) 1 (W9.meet (by decide) (by decide)) hby hml hret hnm r0 r1 r2 r3 S_a (by simp) rfl (by decide) (by simp [fi, y0, y1, y2, y3])
        · refine Go.st (fun _ => XS.icmpYes W9.here W9.ex rfl (pc0 := 94) (pc' := 100) rfl (hb hby at_94) rfl (feq (y1 : ¬ (c1 = (61 : Int32)))).2 (by decide) (by decide)) ?_
          show Go p_ e_ bl_ _ (T9.setTop (mkF m_ 100 #[.val (.int i0), .val (.int i1), .val (.int i2), .val (.int i3), .val (.int i4), .val (.int c0), .val (.int c1), .val (.int c2), .val (.int c3), .val (.int (4 : Int32)), .val (.ref a), .val (.int (3 : Int32)), .unset, .unset, .unset, .unset] []))
          refine Go.st (fun _ => XS.iload W9.here W9.ex rfl (hb hby at_100) rfl) ?_
          show Go p_ e_ bl_ _ (T9.setTop (mkF m_ 102 #[.val (.int i0), .val (.int i1), .val (.int i2), .val (.int i3), .val (.int i4), .val (.int c0), .val (.int c1), .val (.int c2), .val (.int c3), .val (.int (4 : Int32)), .val (.ref a), .val (.int (3 : Int32)), .unset, .unset, .unset, .unset] [(.int (4 : Int32))]))
          refine Go.st (fun _ => XS.ifNo W9.here W9.ex rfl (hb hby at_102) rfl ((if0 _ _).trans (tlt ((by decide) : (0 : Int32) < (4 : Int32))).2.2.2)) ?_
          show Go p_ e_ bl_ _ (T9.setTop (mkF m_ 105 #[.val (.int i0), .val (.int i1), .val (.int i2), .val (.int i3), .val (.int i4), .val (.int c0), .val (.int c1), .val (.int c2), .val (.int c3), .val (.int (4 : Int32)), .val (.ref a), .val (.int (3 : Int32)), .unset, .unset, .unset, .unset] []))
          refine Go.st (fun _ => XS.iload W9.here W9.ex rfl (hb hby at_105) rfl) ?_
          show Go p_ e_ bl_ _ (T9.setTop (mkF m_ 107 #[.val (.int i0), .val (.int i1), .val (.int i2), .val (.int i3), .val (.int i4), .val (.int c0), .val (.int c1), .val (.int c2), .val (.int c3), .val (.int (4 : Int32)), .val (.ref a), .val (.int (3 : Int32)), .unset, .unset, .unset, .unset] [(.int c0)]))
          refine Go.st (fun _ => XS.bipush W9.here W9.ex rfl (hb hby at_107)) ?_
          show Go p_ e_ bl_ _ (T9.setTop (mkF m_ 109 #[.val (.int i0), .val (.int i1), .val (.int i2), .val (.int i3), .val (.int i4), .val (.int c0), .val (.int c1), .val (.int c2), .val (.int c3), .val (.int (4 : Int32)), .val (.ref a), .val (.int (3 : Int32)), .unset, .unset, .unset, .unset] [(.int (61 : Int32)), (.int c0)]))
          by_cases y0 : c0 = (61 : Int32)
          · refine Go.st (fun _ => XS.icmpNo W9.here W9.ex rfl (hb hby at_109) rfl (teq (y0 : c0 = (61 : Int32))).2) ?_
            show Go p_ e_ bl_ _ (T9.setTop (mkF m_ 112 #[.val (.int i0), .val (.int i1), .val (.int i2), .val (.int i3), .val (.int i4), .val (.int c0), .val (.int c1), .val (.int c2), .val (.int c3), .val (.int (4 : Int32)), .val (.ref a), .val (.int (3 : Int32)), .unset, .unset, .unset, .unset] []))
            refine Go.st (fun _ => XS.iconst W9.here W9.ex rfl (hb hby at_112)) ?_
            show Go p_ e_ bl_ _ (T9.setTop (mkF m_ 113 #[.val (.int i0), .val (.int i1), .val (.int i2), .val (.int i3), .val (.int i4), .val (.int c0), .val (.int c1), .val (.int c2), .val (.int c3), .val (.int (4 : Int32)), .val (.ref a), .val (.int (3 : Int32)), .unset, .unset, .unset, .unset] [(.int (0 : Int32))]))
            refine Go.st (fun _ => XS.istore W9.here W9.ex rfl (hb hby at_113) rfl (l' := #[.val (.int i0), .val (.int i1), .val (.int i2), .val (.int i3), .val (.int i4), .val (.int c0), .val (.int c1), .val (.int c2), .val (.int c3), .val (.int (4 : Int32)), .val (.ref a), .val (.int (0 : Int32)), .unset, .unset, .unset, .unset]) rfl) ?_
            show Go p_ e_ bl_ _ (T9.setTop (mkF m_ 115 #[.val (.int i0), .val (.int i1), .val (.int i2), .val (.int i3), .val (.int i4), .val (.int c0), .val (.int c1), .val (.int c2), .val (.int c3), .val (.int (4 : Int32)), .val (.ref a), .val (.int (0 : Int32)), .unset, .unset, .unset, .unset] []))
            exact law_p cx i0 i1 i2 i3 i4 c0 c1 c2 c3 (4 : Int32) (0 : Int32) a ta (([c0, c1, c2, c3] : List Int32).take 4) 0 (W9.meet (by decide) (by decide)) hby hml hret hnm r0 r1 r2 r3 S_a (by simp) rfl (by decide) (by simp [fi, y0, y1, y2, y3])
          · refine Go.st (fun _ => XS.icmpYes W9.here W9.ex rfl (pc0 := 109) (pc' := 115) rfl (hb hby at_109) rfl (feq (y0 : ¬ (c0 = (61 : Int32)))).2 (by decide) (by decide)) ?_
            show Go p_ e_ bl_ _ (T9.setTop (mkF m_ 115 #[.val (.int i0), .val (.int i1), .val (.int i2), .val (.int i3), .val (.int i4), .val (.int c0), .val (.int c1), .val (.int c2), .val (.int c3), .val (.int (4 : Int32)), .val (.ref a), .val (.int (3 : Int32)), .unset, .unset, .unset, .unset] []))
            exact law_p cx i0 i1 i2 i3 i4 c0 c1 c2 c3 (4 : Int32) (3 : Int32) a ta (([c0, c1, c2, c3] : List Int32).take 4) 3 (W9.meet (by decide) (by decide)) hby hml hret hnm r0 r1 r2 r3 S_a (by simp) rfl (by decide) (by simp [fi, y0, y1, y2, y3])
    · refine Go.st (fun _ => XS.icmpYes W9.here W9.ex rfl (pc0 := 62) (pc' := 68) rfl (hb hby at_62) rfl (feq (y3 : ¬ (c3 = (61 : Int32)))).2 (by decide) (by decide)) ?_
      show Go p_ e_ bl_ _ (T9.setTop (mkF m_ 68 #[.val (.int i0), .val (.int i1), .val (.int i2), .val (.int i3), .val (.int i4), .val (.int c0), .val (.int c1), .val (.int c2), .val (.int c3), .val (.int (4 : Int32)), .val (.ref a), .val (.int (4 : Int32)), .unset, .unset, .unset, .unset] []))
      refine Go.st (fun _ => XS.iload W9.here W9.ex rfl (hb hby at_68) rfl) ?_
      show Go p_ e_ bl_ _ (T9.setTop (mkF m_ 70 #[.val (.int i0), .val (.int i1), .val (.int i2), .val (.int i3), .val (.int i4), .val (.int c0), .val (.int c1), .val (.int c2), .val (.int c3), .val (.int (4 : Int32)), .val (.ref a), .val (.int (4 : Int32)), .unset, .unset, .unset, .unset] [(.int (4 : Int32))]))
      refine Go.st (fun _ => XS.iconst W9.here W9.ex rfl (hb hby at_70)) ?_
      show Go p_ e_ bl_ _ (T9.setTop (mkF m_ 71 #[.val (.int i0), .val (.int i1), .val (.int i2), .val (.int i3), .val (.int i4), .val (.int c0), .val (.int c1), .val (.int c2), .val (.int c3), .val (.int (4 : Int32)), .val (.ref a), .val (.int (4 : Int32)), .unset, .unset, .unset, .unset] [(.int (2 : Int32)), (.int (4 : Int32))]))
      refine Go.st (fun _ => XS.icmpNo W9.here W9.ex rfl (hb hby at_71) rfl (tlt ((by decide) : (2 : Int32) < (4 : Int32))).2.2.2) ?_
      show Go p_ e_ bl_ _ (T9.setTop (mkF m_ 74 #[.val (.int i0), .val (.int i1), .val (.int i2), .val (.int i3), .val (.int i4), .val (.int c0), .val (.int c1), .val (.int c2), .val (.int c3), .val (.int (4 : Int32)), .val (.ref a), .val (.int (4 : Int32)), .unset, .unset, .unset, .unset] []))
      refine Go.st (fun _ => XS.iload W9.here W9.ex rfl (hb hby at_74) rfl) ?_
      show Go p_ e_ bl_ _ (T9.setTop (mkF m_ 76 #[.val (.int i0), .val (.int i1), .val (.int i2), .val (.int i3), .val (.int i4), .val (.int c0), .val (.int c1), .val (.int c2), .val (.int c3), .val (.int (4 : Int32)), .val (.ref a), .val (.int (4 : Int32)), .unset, .unset, .unset, .unset] [(.int c2)]))
      refine Go.st (fun _ => XS.bipush W9.here W9.ex rfl (hb hby at_76)) ?_
      show Go p_ e_ bl_ _ (T9.setTop (mkF m_ 78 #[.val (.int i0), .val (.int i1), .val (.int i2), .val (.int i3), .val (.int i4), .val (.int c0), .val (.int c1), .val (.int c2), .val (.int c3), .val (.int (4 : Int32)), .val (.ref a), .val (.int (4 : Int32)), .unset, .unset, .unset, .unset] [(.int (61 : Int32)), (.int c2)]))
      by_cases y2 : c2 = (61 : Int32)
      · refine Go.st (fun _ => XS.icmpNo W9.here W9.ex rfl (hb hby at_78) rfl (teq (y2 : c2 = (61 : Int32))).2) ?_
        show Go p_ e_ bl_ _ (T9.setTop (mkF m_ 81 #[.val (.int i0), .val (.int i1), .val (.int i2), .val (.int i3), .val (.int i4), .val (.int c0), .val (.int c1), .val (.int c2), .val (.int c3), .val (.int (4 : Int32)), .val (.ref a), .val (.int (4 : Int32)), .unset, .unset, .unset, .unset] []))
        refine Go.st (fun _ => XS.iconst W9.here W9.ex rfl (hb hby at_81)) ?_
        show Go p_ e_ bl_ _ (T9.setTop (mkF m_ 82 #[.val (.int i0), .val (.int i1), .val (.int i2), .val (.int i3), .val (.int i4), .val (.int c0), .val (.int c1), .val (.int c2), .val (.int c3), .val (.int (4 : Int32)), .val (.ref a), .val (.int (4 : Int32)), .unset, .unset, .unset, .unset] [(.int (2 : Int32))]))
        refine Go.st (fun _ => XS.istore W9.here W9.ex rfl (hb hby at_82) rfl (l' := #[.val (.int i0), .val (.int i1), .val (.int i2), .val (.int i3), .val (.int i4), .val (.int c0), .val (.int c1), .val (.int c2), .val (.int c3), .val (.int (4 : Int32)), .val (.ref a), .val (.int (2 : Int32)), .unset, .unset, .unset, .unset]) rfl) ?_
        show Go p_ e_ bl_ _ (T9.setTop (mkF m_ 84 #[.val (.int i0), .val (.int i1), .val (.int i2), .val (.int i3), .val (.int i4), .val (.int c0), .val (.int c1), .val (.int c2), .val (.int c3), .val (.int (4 : Int32)), .val (.ref a), .val (.int (2 : Int32)), .unset, .unset, .unset, .unset] []))
        refine Go.st (fun _ => XS.iload W9.here W9.ex rfl (hb hby at_84) rfl) ?_
        show Go p_ e_ bl_ _ (T9.setTop (mkF m_ 86 #[.val (.int i0), .val (.int i1), .val (.int i2), .val (.int i3), .val (.int i4), .val (.int c0), .val (.int c1), .val (.int c2), .val (.int c3), .val (.int (4 : Int32)), .val (.ref a), .val (.int (2 : Int32)), .unset, .unset, .unset, .unset] [(.int (4 : Int32))]))
        refine Go.st (fun _ => XS.iconst W9.here W9.ex rfl (hb hby at_86)) ?_
        show Go p_ e_ bl_ _ (T9.setTop (mkF m_ 87 #[.val (.int i0), .val (.int i1), .val (.int i2), .val (.int i3), .val (.int i4), .val (.int c0), .val (.int c1), .val (.int c2), .val (.int c3), .val (.int (4 : Int32)), .val (.ref a), .val (.int (2 : Int32)), .unset, .unset, .unset, .unset] [(.int (1 : Int32)), (.int (4 : Int32))]))
        refine Go.st (fun _ => XS.icmpNo W9.here W9.ex rfl (hb hby at_87) rfl (tlt ((by decide) : (1 : Int32) < (4 : Int32))).2.2.2) ?_
        show Go p_ e_ bl_ _ (T9.setTop (mkF m_ 90 #[.val (.int i0), .val (.int i1), .val (.int i2), .val (.int i3), .val (.int i4), .val (.int c0), .val (.int c1), .val (.int c2), .val (.int c3), .val (.int (4 : Int32)), .val (.ref a), .val (.int (2 : Int32)), .unset, .unset, .unset, .unset] []))
        refine Go.st (fun _ => XS.iload W9.here W9.ex rfl (hb hby at_90) rfl) ?_
        show Go p_ e_ bl_ _ (T9.setTop (mkF m_ 92 #[.val (.int i0), .val (.int i1), .val (.int i2), .val (.int i3), .val (.int i4), .val (.int c0), .val (.int c1), .val (.int c2), .val (.int c3), .val (.int (4 : Int32)), .val (.ref a), .val (.int (2 : Int32)), .unset, .unset, .unset, .unset] [(.int c1)]))
        refine Go.st (fun _ => XS.bipush W9.here W9.ex rfl (hb hby at_92)) ?_
        show Go p_ e_ bl_ _ (T9.setTop (mkF m_ 94 #[.val (.int i0), .val (.int i1), .val (.int i2), .val (.int i3), .val (.int i4), .val (.int c0), .val (.int c1), .val (.int c2), .val (.int c3), .val (.int (4 : Int32)), .val (.ref a), .val (.int (2 : Int32)), .unset, .unset, .unset, .unset] [(.int (61 : Int32)), (.int c1)]))
        by_cases y1 : c1 = (61 : Int32)
        · refine Go.st (fun _ => XS.icmpNo W9.here W9.ex rfl (hb hby at_94) rfl (teq (y1 : c1 = (61 : Int32))).2) ?_
          show Go p_ e_ bl_ _ (T9.setTop (mkF m_ 97 #[.val (.int i0), .val (.int i1), .val (.int i2), .val (.int i3), .val (.int i4), .val (.int c0), .val (.int c1), .val (.int c2), .val (.int c3), .val (.int (4 : Int32)), .val (.ref a), .val (.int (2 : Int32)), .unset, .unset, .unset, .unset] []))
          refine Go.st (fun _ => XS.iconst W9.here W9.ex rfl (hb hby at_97)) ?_
          show Go p_ e_ bl_ _ (T9.setTop (mkF m_ 98 #[.val (.int i0), .val (.int i1), .val (.int i2), .val (.int i3), .val (.int i4), .val (.int c0), .val (.int c1), .val (.int c2), .val (.int c3), .val (.int (4 : Int32)), .val (.ref a), .val (.int (2 : Int32)), .unset, .unset, .unset, .unset] [(.int (1 : Int32))]))
          refine Go.st (fun _ => XS.istore W9.here W9.ex rfl (hb hby at_98) rfl (l' := #[.val (.int i0), .val (.int i1), .val (.int i2), .val (.int i3), .val (.int i4), .val (.int c0), .val (.int c1), .val (.int c2), .val (.int c3), .val (.int (4 : Int32)), .val (.ref a), .val (.int (1 : Int32)), .unset, .unset, .unset, .unset]) rfl) ?_
          show Go p_ e_ bl_ _ (T9.setTop (mkF m_ 100 #[.val (.int i0), .val (.int i1), .val (.int i2), .val (.int i3), .val (.int i4), .val (.int c0), .val (.int c1), .val (.int c2), .val (.int c3), .val (.int (4 : Int32)), .val (.ref a), .val (.int (1 : Int32)), .unset, .unset, .unset, .unset] []))
          refine Go.st (fun _ => XS.iload W9.here W9.ex rfl (hb hby at_100) rfl) ?_
          show Go p_ e_ bl_ _ (T9.setTop (mkF m_ 102 #[.val (.int i0), .val (.int i1), .val (.int i2), .val (.int i3), .val (.int i4), .val (.int c0), .val (.int c1), .val (.int c2), .val (.int c3), .val (.int (4 : Int32)), .val (.ref a), .val (.int (1 : Int32)), .unset, .unset, .unset, .unset] [(.int (4 : Int32))]))
          refine Go.st (fun _ => XS.ifNo W9.here W9.ex rfl (hb hby at_102) rfl ((if0 _ _).trans (tlt ((by decide) : (0 : Int32) < (4 : Int32))).2.2.2)) ?_
          show Go p_ e_ bl_ _ (T9.setTop (mkF m_ 105 #[.val (.int i0), .val (.int i1), .val (.int i2), .val (.int i3), .val (.int i4), .val (.int c0), .val (.int c1), .val (.int c2), .val (.int c3), .val (.int (4 : Int32)), .val (.ref a), .val (.int (1 : Int32)), .unset, .unset, .unset, .unset] []))
          refine Go.st (fun _ => XS.iload W9.here W9.ex rfl (hb hby at_105) rfl) ?_
          show Go p_ e_ bl_ _ (T9.setTop (mkF m_ 107 #[.val (.int i0), .val (.int i1), .val (.int i2), .val (.int i3), .val (.int i4), .val (.int c0), .val (.int c1), .val (.int c2), .val (.int c3), .val (.int (4 : Int32)), .val (.ref a), .val (.int (1 : Int32)), .unset, .unset, .unset, .unset] [(.int c0)]))
          refine Go.st (fun _ => XS.bipush W9.here W9.ex rfl (hb hby at_107)) ?_
          show Go p_ e_ bl_ _ (T9.setTop (mkF m_ 109 #[.val (.int i0), .val (.int i1), .val (.int i2), .val (.int i3), .val (.int i4), .val (.int c0), .val (.int c1), .val (.int c2), .val (.int c3), .val (.int (4 : Int32)), .val (.ref a), .val (.int (1 : Int32)), .unset, .unset, .unset, .unset] [(.int (61 : Int32)), (.int c0)]))
          by_cases y0 : c0 = (61 : Int32)
          · refine Go.st (fun _ => XS.icmpNo W9.here W9.ex rfl (hb hby at_109) rfl (teq (y0 : c0 = (61 : Int32))).2) ?_
            show Go p_ e_ bl_ _ (T9.setTop (mkF m_ 112 #[.val (.int i0), .val (.int i1), .val (.int i2), .val (.int i3), .val (.int i4), .val (.int c0), .val (.int c1), .val (.int c2), .val (.int c3), .val (.int (4 : Int32)), .val (.ref a), .val (.int (1 : Int32)), .unset, .unset, .unset, .unset] []))
            refine Go.st (fun _ => XS.iconst W9.here W9.ex rfl (hb hby at_112)) ?_
            show Go p_ e_ bl_ _ (T9.setTop (mkF m_ 113 #[.val (.int i0), .val (.int i1), .val (.int i2), .val (.int i3), .val (.int i4), .val (.int c0), .val (.int c1), .val (.int c2), .val (.int c3), .val (.int (4 : Int32)), .val (.ref a), .val (.int (1 : Int32)), .unset, .unset, .unset, .unset] [(.int (0 : Int32))]))
            refine Go.st (fun _ => XS.istore W9.here W9.ex rfl (hb hby at_113) rfl (l' := #[.val (.int i0), .val (.int i1), .val (.int i2), .val (.int i3), .val (.int i4), .val (.int c0), .val (.int c1), .val (.int c2), .val (.int c3), .val (.int (4 : Int32)), .val (.ref a), .val (.int (0 : Int32)), .unset, .unset, .unset, .unset]) rfl) ?_
            show Go p_ e_ bl_ _ (T9.setTop (mkF m_ 115 #[.val (.int i0), .val (.int i1), .val (.int i2), .val (.int i3), .val (.int i4), .val (.int c0), .val (.int c1), .val (.int c2), .val (.int c3), .val (.int (4 : Int32)), .val (.ref a), .val (.int (0 : Int32)), .unset, .unset, .unset, .unset] []))
            exact law_p cx i0 i1 i2 i3 i4 c0 c1 c2 c3 (4 : Int32) (0 : Int32) a ta (([c0, c1, c2, c3] : List Int32).take 4) 0 (W9.meet (by decide) (by decide)) hby hml hret hnm r0 r1 r2 r3 S_a (by simp) rfl (by decide) (by simp [fi, y0, y1, y2, y3])
          · refine Go.st (fun _ => XS.icmpYes W9.here W9.ex rfl (pc0 := 109) (pc' := 115) rfl (hb hby at_109) rfl (feq (y0 : ¬ (c0 = (61 : Int32)))).2 (by decide) (by decide)) ?_
            show Go p_ e_ bl_ _ (T9.setTop (mkF m_ 115 #[.val (.int i0), .val (.int i1), .val (.int i2), .val (.int i3), .val (.int i4), .val (.int c0), .val (.int c1), .val (.int c2), .val (.int c3), .val (.int (4 : Int32)), .val (.ref a), .val (.int (1 : Int32)), .unset, .unset, .unset, .unset] []))
            exact law_p cx i0 i1 i2 i3 i4 c0 c1 c2 c3 (4 : Int32) (1 : Int32) a ta (([c0, c1, c2, c3] : List Int32).take 4) 1 (W9.meet (by decide) (by decide)) hby hml hret hnm r0 r1 r2 r3 S_a (by simp) rfl (by decide) (by simp [fi, y0, y1, y2, y3])
        · refine Go.st (fun _ => XS.icmpYes W9.here W9.ex rfl (pc0 := 94) (pc' := 100) rfl (hb hby at_94) rfl (feq (y1 : ¬ (c1 = (61 : Int32)))).2 (by decide) (by decide)) ?_
          show Go p_ e_ bl_ _ (T9.setTop (mkF m_ 100 #[.val (.int i0), .val (.int i1), .val (.int i2), .val (.int i3), .val (.int i4), .val (.int c0), .val (.int c1), .val (.int c2), .val (.int c3), .val (.int (4 : Int32)), .val (.ref a), .val (.int (2 : Int32)), .unset, .unset, .unset, .unset] []))
          refine Go.st (fun _ => XS.iload W9.here W9.ex rfl (hb hby at_100) rfl) ?_
          show Go p_ e_ bl_ _ (T9.setTop (mkF m_ 102 #[.val (.int i0), .val (.int i1), .val (.int i2), .val (.int i3), .val (.int i4), .val (.int c0), .val (.int c1), .val (.int c2), .val (.int c3), .val (.int (4 : Int32)), .val (.ref a), .val (.int (2 : Int32)), .unset, .unset, .unset, .unset] [(.int (4 : Int32))]))
          refine Go.st (fun _ => XS.ifNo W9.here W9.ex rfl (hb hby at_102) rfl ((if0 _ _).trans (tlt ((by decide) : (0 : Int32) < (4 : Int32))).2.2.2)) ?_
          show Go p_ e_ bl_ _ (T9.setTop (mkF m_ 105 #[.val (.int i0), .val (.int i1), .val (.int i2), .val (.int i3), .val (.int i4), .val (.int c0), .val (.int c1), .val (.int c2), .val (.int c3), .val (.int (4 : Int32)), .val (.ref a), .val (.int (2 : Int32)), .unset, .unset, .unset, .unset] []))
          refine Go.st (fun _ => XS.iload W9.here W9.ex rfl (hb hby at_105) rfl) ?_
          show Go p_ e_ bl_ _ (T9.setTop (mkF m_ 107 #[.val (.int i0), .val (.int i1), .val (.int i2), .val (.int i3), .val (.int i4), .val (.int c0), .val (.int c1), .val (.int c2), .val (.int c3), .val (.int (4 : Int32)), .val (.ref a), .val (.int (2 : Int32)), .unset, .unset, .unset, .unset] [(.int c0)]))
          refine Go.st (fun _ => XS.bipush W9.here W9.ex rfl (hb hby at_107)) ?_
          show Go p_ e_ bl_ _ (T9.setTop (mkF m_ 109 #[.val (.int i0), .val (.int i1), .val (.int i2), .val (.int i3), .val (.int i4), .val (.int c0), .val (.int c1), .val (.int c2), .val (.int c3), .val (.int (4 : Int32)), .val (.ref a), .val (.int (2 : Int32)), .unset, .unset, .unset, .unset] [(.int (61 : Int32)), (.int c0)]))
          by_cases y0 : c0 = (61 : Int32)
          · refine Go.st (fun _ => XS.icmpNo W9.here W9.ex rfl (hb hby at_109) rfl (teq (y0 : c0 = (61 : Int32))).2) ?_
            show Go p_ e_ bl_ _ (T9.setTop (mkF m_ 112 #[.val (.int i0), .val (.int i1), .val (.int i2), .val (.int i3), .val (.int i4), .val (.int c0), .val (.int c1), .val (.int c2), .val (.int c3), .val (.int (4 : Int32)), .val (.ref a), .val (.int (2 : Int32)), .unset, .unset, .unset, .unset] []))
            refine Go.st (fun _ => XS.iconst W9.here W9.ex rfl (hb hby at_112)) ?_
            show Go p_ e_ bl_ _ (T9.setTop (mkF m_ 113 #[.val (.int i0), .val (.int i1), .val (.int i2), .val (.int i3), .val (.int i4), .val (.int c0), .val (.int c1), .val (.int c2), .val (.int c3), .val (.int (4 : Int32)), .val (.ref a), .val (.int (2 : Int32)), .unset, .unset, .unset, .unset] [(.int (0 : Int32))]))
            refine Go.st (fun _ => XS.istore W9.here W9.ex rfl (hb hby at_113) rfl (l' := #[.val (.int i0), .val (.int i1), .val (.int i2), .val (.int i3), .val (.int i4), .val (.int c0), .val (.int c1), .val (.int c2), .val (.int c3), .val (.int (4 : Int32)), .val (.ref a), .val (.int (0 : Int32)), .unset, .unset, .unset, .unset]) rfl) ?_
            show Go p_ e_ bl_ _ (T9.setTop (mkF m_ 115 #[.val (.int i0), .val (.int i1), .val (.int i2), .val (.int i3), .val (.int i4), .val (.int c0), .val (.int c1), .val (.int c2), .val (.int c3), .val (.int (4 : Int32)), .val (.ref a), .val (.int (0 : Int32)), .unset, .unset, .unset, .unset] []))
            exact law_p cx i0 i1 i2 i3 i4 c0 c1 c2 c3 (4 : Int32) (0 : Int32) a ta (([c0, c1, c2, c3] : List Int32).take 4) 0 (W9.meet (by decide) (by decide)) hby hml hret hnm r0 r1 r2 r3 S_a (by simp) rfl (by decide) (by simp [fi, y0, y1, y2, y3])
          · refine Go.st (fun _ => XS.icmpYes W9.here W9.ex rfl (pc0 := 109) (pc' := 115) rfl (hb hby at_109) rfl (feq (y0 : ¬ (c0 = (61 : Int32)))).2 (by decide) (by decide)) ?_
            show Go p_ e_ bl_ _ (T9.setTop (mkF m_ 115 #[.val (.int i0), .val (.int i1), .val (.int i2), .val (.int i3), .val (.int i4), .val (.int c0), .val (.int c1), .val (.int c2), .val (.int c3), .val (.int (4 : Int32)), .val (.ref a), .val (.int (2 : Int32)), .unset, .unset, .unset, .unset] []))
            exact law_p cx i0 i1 i2 i3 i4 c0 c1 c2 c3 (4 : Int32) (2 : Int32) a ta (([c0, c1, c2, c3] : List Int32).take 4) 2 (W9.meet (by decide) (by decide)) hby hml hret hnm r0 r1 r2 r3 S_a (by simp) rfl (by decide) (by simp [fi, y0, y1, y2, y3])
      · refine Go.st (fun _ => XS.icmpYes W9.here W9.ex rfl (pc0 := 78) (pc' := 84) rfl (hb hby at_78) rfl (feq (y2 : ¬ (c2 = (61 : Int32)))).2 (by decide) (by decide)) ?_
        show Go p_ e_ bl_ _ (T9.setTop (mkF m_ 84 #[.val (.int i0), .val (.int i1), .val (.int i2), .val (.int i3), .val (.int i4), .val (.int c0), .val (.int c1), .val (.int c2), .val (.int c3), .val (.int (4 : Int32)), .val (.ref a), .val (.int (4 : Int32)), .unset, .unset, .unset, .unset] []))
        refine Go.st (fun _ => XS.iload W9.here W9.ex rfl (hb hby at_84) rfl) ?_
        show Go p_ e_ bl_ _ (T9.setTop (mkF m_ 86 #[.val (.int i0), .val (.int i1), .val (.int i2), .val (.int i3), .val (.int i4), .val (.int c0), .val (.int c1), .val (.int c2), .val (.int c3), .val (.int (4 : Int32)), .val (.ref a), .val (.int (4 : Int32)), .unset, .unset, .unset, .unset] [(.int (4 : Int32))]))
        refine Go.st (fun _ => XS.iconst W9.here W9.ex rfl (hb hby at_86)) ?_
        show Go p_ e_ bl_ _ (T9.setTop (mkF m_ 87 #[.val (.int i0), .val (.int i1), .val (.int i2), .val (.int i3), .val (.int i4), .val (.int c0), .val (.int c1), .val (.int c2), .val (.int c3), .val (.int (4 : Int32)), .val (.ref a), .val (.int (4 : Int32)), .unset, .unset, .unset, .unset] [(.int (1 : Int32)), (.int (4 : Int32))]))
        refine Go.st (fun _ => XS.icmpNo W9.here W9.ex rfl (hb hby at_87) rfl (tlt ((by decide) : (1 : Int32) < (4 : Int32))).2.2.2) ?_
        show Go p_ e_ bl_ _ (T9.setTop (mkF m_ 90 #[.val (.int i0), .val (.int i1), .val (.int i2), .val (.int i3), .val (.int i4), .val (.int c0), .val (.int c1), .val (.int c2), .val (.int c3), .val (.int (4 : Int32)), .val (.ref a), .val (.int (4 : Int32)), .unset, .unset, .unset, .unset] []))
        refine Go.st (fun _ => XS.iload W9.here W9.ex rfl (hb hby at_90) rfl) ?_
        show Go p_ e_ bl_ _ (T9.setTop (mkF m_ 92 #[.val (.int i0), .val (.int i1), .val (.int i2), .val (.int i3), .val (.int i4), .val (.int c0), .val (.int c1), .val (.int c2), .val (.int c3), .val (.int (4 : Int32)), .val (.ref a), .val (.int (4 : Int32)), .unset, .unset, .unset, .unset] [(.int c1)]))
        refine Go.st (fun _ => XS.bipush W9.here W9.ex rfl (hb hby at_92)) ?_
        show Go p_ e_ bl_ _ (T9.setTop (mkF m_ 94 #[.val (.int i0), .val (.int i1), .val (.int i2), .val (.int i3), .val (.int i4), .val (.int c0), .val (.int c1), .val (.int c2), .val (.int c3), .val (.int (4 : Int32)), .val (.ref a), .val (.int (4 : Int32)), .unset, .unset, .unset, .unset] [(.int (61 : Int32)), (.int c1)]))
        by_cases y1 : c1 = (61 : Int32)
        · refine Go.st (fun _ => XS.icmpNo W9.here W9.ex rfl (hb hby at_94) rfl (teq (y1 : c1 = (61 : Int32))).2) ?_
          show Go p_ e_ bl_ _ (T9.setTop (mkF m_ 97 #[.val (.int i0), .val (.int i1), .val (.int i2), .val (.int i3), .val (.int i4), .val (.int c0), .val (.int c1), .val (.int c2), .val (.int c3), .val (.int (4 : Int32)), .val (.ref a), .val (.int (4 : Int32)), .unset, .unset, .unset, .unset] []))
          refine Go.st (fun _ => XS.iconst W9.here W9.ex rfl (hb hby at_97)) ?_
          show Go p_ e_ bl_ _ (T9.setTop (mkF m_ 98 #[.val (.int i0), .val (.int i1), .val (.int i2), .val (.int i3), .val (.int i4), .val (.int c0), .val (.int c1), .val (.int c2), .val (.int c3), .val (.int (4 : Int32)), .val (.ref a), .val (.int (4 : Int32)), .unset, .unset, .unset, .unset] [(.int (1 : Int32))]))
          refine Go.st (fun _ => XS.istore W9.here W9.ex rfl (hb hby at_98) rfl (l' := #[.val (.int i0), .val (.int i1), .val (.int i2), .val (.int i3), .val (.int i4), .val (.int c0), .val (.int c1), .val (.int c2), .val (.int c3), .val (.int (4 : Int32)), .val (.ref a), .val (.int (1 : Int32)), .unset, .unset, .unset, .unset]) rfl) ?_
          show Go p_ e_ bl_ _ (T9.setTop (mkF m_ 100 #[.val (.int i0), .val (.int i1), .val (.int i2), .val (.int i3), .val (.int i4), .val (.int c0), .val (.int c1), .val (.int c2), .val (.int c3), .val (.int (4 : Int32)), .val (.ref a), .val (.int (1 : Int32)), .unset, .unset, .unset, .unset] []))
          refine Go.st (fun _ => XS.iload W9.here W9.ex rfl (hb hby at_100) rfl) ?_
          show Go p_ e_ bl_ _ (T9.setTop (mkF m_ 102 #[.val (.int i0), .val (.int i1), .val (.int i2), .val (.int i3), .val (.int i4), .val (.int c0), .val (.int c1), .val (.int c2), .val (.int c3), .val (.int (4 : Int32)), .val (.ref a), .val (.int (1 : Int32)), .unset, .unset, .unset, .unset] [(.int (4 : Int32))]))
          refine Go.st (fun _ => XS.ifNo W9.here W9.ex rfl (hb hby at_102) rfl ((if0 _ _).trans (tlt ((by decide) : (0 : Int32) < (4 : Int32))).2.2.2)) ?_
          show Go p_ e_ bl_ _ (T9.setTop (mkF m_ 105 #[.val (.int i0), .val (.int i1), .val (.int i2), .val (.int i3), .val (.int i4), .val (.int c0), .val (.int c1), .val (.int c2), .val (.int c3), .val (.int (4 : Int32)), .val (.ref a), .val (.int (1 : Int32)), .unset, .unset, .unset, .unset] []))
          refine Go.st (fun _ => XS.iload W9.here W9.ex rfl (hb hby at_105) rfl) ?_
          show Go p_ e_ bl_ _ (T9.setTop (mkF m_ 107 #[.val (.int i0), .val (.int i1), .val (.int i2), .val (.int i3), .val (.int i4), .val (.int c0), .val (.int c1), .val (.int c2), .val (.int c3), .val (.int (4 : Int32)), .val (.ref a), .val (.int (1 : Int32)), .unset, .unset, .unset, .unset] [(.int c0)]))
          refine Go.st (fun _ => XS.bipush W9.here W9.ex rfl (hb hby at_107)) ?_
          show Go p_ e_ bl_ _ (T9.setTop (mkF m_ 109 #[.val (.int i0), .val (.int i1), .val (.int i2), .val (.int i3), .val (.int i4), .val (.int c0), .val (.int c1), .val (.int c2), .val (.int c3), .val (.int (4 : Int32)), .val (.ref a), .val (.int (1 : Int32)), .unset, .unset, .unset, .unset] [(.int (61 : Int32)), (.int c0)]))
          by_cases y0 : c0 = (61 : Int32)
          · refine Go.st (fun _ => XS.icmpNo W9.here W9.ex rfl (hb hby at_109) rfl (teq (y0 : c0 = (61 : Int32))).2) ?_
            show Go p_ e_ bl_ _ (T9.setTop (mkF m_ 112 #[.val (.int i0), .val (.int i1), .val (.int i2), .val (.int i3), .val (.int i4), .val (.int c0), .val (.int c1), .val (.int c2), .val (.int c3), .val (.int (4 : Int32)), .val (.ref a), .val (.int (1 : Int32)), .unset, .unset, .unset, .unset] []))
            refine Go.st (fun _ => XS.iconst W9.here W9.ex rfl (hb hby at_112)) ?_
            show Go p_ e_ bl_ _ (T9.setTop (mkF m_ 113 #[.val (.int i0), .val (.int i1), .val (.int i2), .val (.int i3), .val (.int i4), .val (.int c0), .val (.int c1), .val (.int c2), .val (.int c3), .val (.int (4 : Int32)), .val (.ref a), .val (.int (1 : Int32)), .unset, .unset, .unset, .unset] [(.int (0 : Int32))]))
            refine Go.st (fun _ => XS.istore W9.here W9.ex rfl (hb hby at_113) rfl (l' := #[.val (.int i0), .val (.int i1), .val (.int i2), .val (.int i3), .val (.int i4), .val (.int c0), .val (.int c1), .val (.int c2), .val (.int c3), .val (.int (4 : Int32)), .val (.ref a), .val (.int (0 : Int32)), .unset, .unset, .unset, .unset]) rfl) ?_
            show Go p_ e_ bl_ _ (T9.setTop (mkF m_ 115 #[.val (.int i0), .val (.int i1), .val (.int i2), .val (.int i3), .val (.int i4), .val (.int c0), .val (.int c1), .val (.int c2), .val (.int c3), .val (.int (4 : Int32)), .val (.ref a), .val (.int (0 : Int32)), .unset, .unset, .unset, .unset] []))
            exact law_p cx i0 i1 i2 i3 i4 c0 c1 c2 c3 (4 : Int32) (0 : Int32) a ta (([c0, c1, c2, c3] : List Int32).take 4) 0 (W9.meet (by decide) (by decide)) hby hml hret hnm r0 r1 r2 r3 S_a (by simp) rfl (by decide) (by simp [fi, y0, y1, y2, y3])
          · refine Go.st (fun _ => XS.icmpYes W9.here W9.ex rfl (pc0 := 109) (pc' := 115) rfl (hb hby at_109) rfl (feq (y0 : ¬ (c0 = (61 : Int32)))).2 (by decide) (by decide)) ?_
            show Go p_ e_ bl_ _ (T9.setTop (mkF m_ 115 #[.val (.int i0), .val (.int i1), .val (.int i2), .val (.int i3), .val (.int i4), .val (.int c0), .val (.int c1), .val (.int c2), .val (.int c3), .val (.int (4 : Int32)), .val (.ref a), .val (.int (1 : Int32)), .unset, .unset, .unset, .unset] []))
            exact law_p cx i0 i1 i2 i3 i4 c0 c1 c2 c3 (4 : Int32) (1 : Int32) a ta (([c0, c1, c2, c3] : List Int32).take 4) 1 (W9.meet (by decide) (by decide)) hby hml hret hnm r0 r1 r2 r3 S_a (by simp) rfl (by decide) (by simp [fi, y0, y1, y2, y3])
        · refine Go.st (fun _ => XS.icmpYes W9.here W9.ex rfl (pc0 := 94) (pc' := 100) rfl (hb hby at_94) rfl (feq (y1 : ¬ (c1 = (61 : Int32)))).2 (by decide) (by decide)) ?_
          show Go p_ e_ bl_ _ (T9.setTop (mkF m_ 100 #[.val (.int i0), .val (.int i1), .val (.int i2), .val (.int i3), .val (.int i4), .val (.int c0), .val (.int c1), .val (.int c2), .val (.int c3), .val (.int (4 : Int32)), .val (.ref a), .val (.int (4 : Int32)), .unset, .unset, .unset, .unset] []))
          refine Go.st (fun _ => XS.iload W9.here W9.ex rfl (hb hby at_100) rfl) ?_
          show Go p_ e_ bl_ _ (T9.setTop (mkF m_ 102 #[.val (.int i0), .val (.int i1), .val (.int i2), .val (.int i3), .val (.int i4), .val (.int c0), .val (.int c1), .val (.int c2), .val (.int c3), .val (.int (4 : Int32)), .val (.ref a), .val (.int (4 : Int32)), .unset, .unset, .unset, .unset] [(.int (4 : Int32))]))
          refine Go.st (fun _ => XS.ifNo W9.here W9.ex rfl (hb hby at_102) rfl ((if0 _ _).trans (tlt ((by decide) : (0 : Int32) < (4 : Int32))).2.2.2)) ?_
          show Go p_ e_ bl_ _ (T9.setTop (mkF m_ 105 #[.val (.int i0), .val (.int i1), .val (.int i2), .val (.int i3), .val (.int i4), .val (.int c0), .val (.int c1), .val (.int c2), .val (.int c3), .val (.int (4 : Int32)), .val (.ref a), .val (.int (4 : Int32)), .unset, .unset, .unset, .unset] []))
          refine Go.st (fun _ => XS.iload W9.here W9.ex rfl (hb hby at_105) rfl) ?_
          show Go p_ e_ bl_ _ (T9.setTop (mkF m_ 107 #[.val (.int i0), .val (.int i1), .val (.int i2), .val (.int i3), .val (.int i4), .val (.int c0), .val (.int c1), .val (.int c2), .val (.int c3), .val (.int (4 : Int32)), .val (.ref a), .val (.int (4 : Int32)), .unset, .unset, .unset, .unset] [(.int c0)]))
          refine Go.st (fun _ => XS.bipush W9.here W9.ex rfl (hb hby at_107)) ?_
          show Go p_ e_ bl_ _ (T9.setTop (mkF m_ 109 #[.val (.int i0), .val (.int i1), .val (.int i2), .val (.int i3), .val (.int i4), .val (.int c0), .val (.int c1), .val (.int c2), .val (.int c3), .val (.int (4 : Int32)), .val (.ref a), .val (.int (4 : Int32)), .unset, .unset, .unset, .unset] [(.int (61 : Int32)), (.int c0)]))
          by_cases y0 : c0 = (61 : Int32)
          · refine Go.st (fun _ => XS.icmpNo W9.here W9.ex rfl (hb hby at_109) rfl (teq (y0 : c0 = (61 : Int32))).2) ?_
            show Go p_ e_ bl_ _ (T9.setTop (mkF m_ 112 #[.val (.int i0), .val (.int i1), .val (.int i2), .val (.int i3), .val (.int i4), .val (.int c0), .val (.int c1), .val (.int c2), .val (.int c3), .val (.int (4 : Int32)), .val (.ref a), .val (.int (4 : Int32)), .unset, .unset, .unset, .unset] []))
            refine Go.st (fun _ => XS.iconst W9.here W9.ex rfl (hb hby at_112)) ?_
            show Go p_ e_ bl_ _ (T9.setTop (mkF m_ 113 #[.val (.int i0), .val (.int i1), .val (.int i2), .val (.int i3), .val (.int i4), .val (.int c0), .val (.int c1), .val (.int c2), .val (.int c3), .val (.int (4 : Int32)), .val (.ref a), .val (.int (4 : Int32)), .unset, .unset, .unset, .unset] [(.int (0 : Int32))]))
            refine Go.st (fun _ => XS.istore W9.here W9.ex rfl (hb hby at_113) rfl (l' := #[.val (.int i0), .val (.int i1), .val (.int i2), .val (.int i3), .val (.int i4), .val (.int c0), .val (.int c1), .val (.int c2), .val (.int c3), .val (.int (4 : Int32)), .val (.ref a), .val (.int (0 : Int32)), .unset, .unset, .unset, .unset]) rfl) ?_
            show Go p_ e_ bl_ _ (T9.setTop (mkF m_ 115 #[.val (.int i0), .val (.int i1), .val (.int i2), .val (.int i3), .val (.int i4), .val (.int c0), .val (.int c1), .val (.int c2), .val (.int c3), .val (.int (4 : Int32)), .val (.ref a), .val (.int (0 : Int32)), .unset, .unset, .unset, .unset] []))
            exact law_p cx i0 i1 i2 i3 i4 c0 c1 c2 c3 (4 : Int32) (0 : Int32) a ta (([c0, c1, c2, c3] : List Int32).take 4) 0 (W9.meet (by decide) (by decide)) hby hml hret hnm r0 r1 r2 r3 S_a (by simp) rfl (by decide) (by simp [fi, y0, y1, y2, y3])
          · refine Go.st (fun _ => XS.icmpYes W9.here W9.ex rfl (pc0 := 109) (pc' := 115) rfl (hb hby at_109) rfl (feq (y0 : ¬ (c0 = (61 : Int32)))).2 (by decide) (by decide)) ?_
            show Go p_ e_ bl_ _ (T9.setTop (mkF m_ 115 #[.val (.int i0), .val (.int i1), .val (.int i2), .val (.int i3), .val (.int i4), .val (.int c0), .val (.int c1), .val (.int c2), .val (.int c3), .val (.int (4 : Int32)), .val (.ref a), .val (.int (4 : Int32)), .unset, .unset, .unset, .unset] []))
            exact law_p cx i0 i1 i2 i3 i4 c0 c1 c2 c3 (4 : Int32) (4 : Int32) a ta (([c0, c1, c2, c3] : List Int32).take 4) 4 (W9.meet (by decide) (by decide)) hby hml hret hnm r0 r1 r2 r3 S_a (by simp) rfl (by decide) (by simp [fi, y0, y1, y2, y3])
set_option maxRecDepth 65536 in
set_option maxHeartbeats 40000000 in
theorem comes_1 {Post : Tables → Env → Array Value → State → Outcome → State → Prop} (hpost : ∀ tb e args s v u, (limb_1_1.after args s (.returned v) u = true ∧ limb_1_2.after args s (.returned v) u = true ∧ True) → FramedW s (.returned v) u (Jvm.fieldLocs frame_1_writes args s ++ Jvm.arrayLocs frame_1_arrays args s ++ Jvm.staticLocs frame_1_statics s) 40 2240 → Post tb e args s (.returned v) u) :
    ArmFor flags0 classFile x code maxLocals ret World_1 tables_1 room_1 Calls_1 rest_1 Pre_1 Post := by
  intro l hfl _ _ p e ha hc hk s m args below hf hA hF happ hP
  obtain ⟨hcalls, hrest, hpre⟩ := hP
  obtain ⟨-, -, -, hnamed, -, -, -, hat⟩ := (Spec.applies_iff hf).mp happ
  obtain ⟨hg, hn⟩ := and_e (Cond.before_iff.mp (show (Jvm.Cond.and given_1 narrow_1).before args s = true from hpre))
  obtain ⟨c0, r0⟩ := and_e hg
  obtain ⟨c1, r1⟩ := and_e r0
  obtain ⟨c2, r2⟩ := and_e r1
  obtain ⟨c3, r3⟩ := and_e r2
  obtain ⟨c4, r4⟩ := and_e r3
  obtain ⟨w0, w1, w2, w3, w4, rfl⟩ : ∃ w0 w1 w2 w3 w4 : Value, args = #[w0, w1, w2, w3, w4] := by
    have hs : args.size = 5 := by simpa [Cond.value, given_1] using c0
    obtain ⟨L⟩ := args
    match L, hs with
    | [w0, w1, w2, w3, w4], _ => exact ⟨w0, w1, w2, w3, w4, rfl⟩
  have hw := fun d (hd : d ∈ tables_1) => atoms_spec (ws := Jvm.Cond.code x code maxLocals ret :: tables_1) hat d (List.mem_cons_of_mem _ hd)
  obtain ⟨hsets, hown0⟩ := atoms_of _ (rest_1_c_eq ▸ (show rest_1_c.before _ s = true from hrest))
  have hr0 := Cond.before_iff.mp hown0
  have hfit : Fit s := fun {y c} hc i hi => by
    obtain ⟨ha, rfl⟩ := Array.getElem?_eq_some_iff.mp hc
    have q := List.all_eq_true.mp ((Array.all_eq_true_iff_forall_mem.mp hF) _ (Array.getElem_mem ha)) i (List.mem_range.mpr hi)
    simpa [Array.getElem?_eq_getElem hi] using q
  obtain ⟨i0, ei0⟩ := is_v c1
  obtain rfl : w0 = (.int i0) := Option.some.inj ei0
  obtain ⟨i1, ei1⟩ := is_v c2
  obtain rfl : w1 = (.int i1) := Option.some.inj ei1
  obtain ⟨i2, ei2⟩ := is_v c3
  obtain rfl : w2 = (.int i2) := Option.some.inj ei2
  obtain ⟨i3, ei3⟩ := is_v c4
  obtain rfl : w3 = (.int i3) := Option.some.inj ei3
  obtain ⟨i4, ei4⟩ := is_v r4
  obtain rfl : w4 = (.int i4) := Option.some.inj ei4
  have nz := not_v (Cond.before_iff.mp (hsets _ (List.mem_of_getElem? (i := 11) rfl)))
  obtain ⟨g1, eg1⟩ := is_v (Cond.before_iff.mp (hsets _ (List.mem_of_getElem? (i := 10) rfl)))
  have S1 : Sta s s.heap "java/lang/String" "COMPACT_STRINGS" "Z" (.int g1) := Sta.start eg1 (Or.inl (hsets _ (List.mem_of_getElem? (i := 9) rfl)))
  have hg1 : ¬ (g1 = (0 : Int32)) := gotF (Cond.eq_ints eg1 (Term.int_eval (0))) nz
  obtain ⟨gf, egf, rgf⟩ := isR_v (Cond.before_iff.mp (hsets _ (List.mem_of_getElem? (i := 17) rfl)))
  have S2 : Sta s s.heap "jdk/internal/util/Preconditions" "SIOOBE_FORMATTER" "Ljava/util/function/BiFunction;" gf := Sta.start egf (Or.inl (hsets _ (List.mem_of_getElem? (i := 16) rfl)))
  have hew : EW s #[Value.int i0, Value.int i1, Value.int i2, Value.int i3, Value.int i4] consts_1 := (EW.cons (hw _ (List.mem_of_getElem? (i := 22) rfl)) (by decide) (EW.cons (hw _ (List.mem_of_getElem? (i := 224) rfl)) (by decide) EW.nil))
  have hcw : Jvm.Lit.compactW.before #[Value.int i0, Value.int i1, Value.int i2, Value.int i3, Value.int i4] s = true := (hsets _ (List.mem_of_getElem? (i := 11) rfl))
  have hcv : CHv s consts_1 s.vm s.heap := CHv.start hew (fun p hp => hcalls.1 p hp) hcw (hw _ (List.mem_of_getElem? (i := 23) rfl)) (hw _ (List.mem_of_getElem? (i := 9) rfl))
  obtain ⟨ea, kea, ev, EV, VV⟩ := arr_start hfit (bs := []) (Cond.before_iff.mp (hsets _ (List.mem_of_getElem? (i := 7) rfl))) (Cond.before_iff.mp (hsets _ (List.mem_of_getElem? (i := 6) rfl))) (Cond.before_iff.mp (hsets _ (List.mem_of_getElem? (i := 8) rfl))) rfl (Nat.le_of_ble_eq_true rfl) trivial
  have SV : Sta s s.heap "java/util/ArrayList" "DEFAULTCAPACITY_EMPTY_ELEMENTDATA" "[Ljava/lang/Object;" (.ref ea) := Sta.start ev (Or.inr ⟨hw _ (List.mem_of_getElem? (i := 32) rfl), (hsets _ (List.mem_of_getElem? (i := 2) rfl))⟩)
  have cx : Ctx s _ s.heap.size g1 gf ea kea := ⟨hw, hew, S1, hg1, S2, rgf, SV, VV, trivial⟩
  obtain ⟨n, o, h1, h2, h3, _, L, rfl, ⟨rfl, N, -⟩, -, hq⟩ := ct_law (l := l) cx (Old.start s) i0 i1 i2 i3 i4 p e ha hc hk s m _ below hf ((Spec.applies_iff_loose hf).mp happ).1 ⟨rfl, State.Warmed39.refl s, rfl, hcv, all0⟩ trivial
  refine ⟨n, _, h1, h2, h3, hpost _ _ _ _ _ _ ⟨Cond.after_iff.mpr rfl, Cond.after_iff.mpr (eq_i res_at (Term.int_eval (1)) rfl), trivial⟩ ⟨hq.1, hq.2.1, hq.2.2.1, (hq.2.2.2.sift fun y hy => Or.inr (N y hy)).mono (by decide) (by decide)⟩⟩
theorem main_1_1 : Claimed_1_1 := comes_1 fun _ _ _ _ _ _ h hF => ⟨h.1, hF⟩
theorem main_1_2 : Claimed_1_2 := comes_1 fun _ _ _ _ _ _ h hF => ⟨h.2.1, hF⟩
end Jvm.Pilot.@@N@@
namespace Jvm.Pilot.@@N@@
open Jvm Jvm.ClassFile Sem Op Lib Jvm.Free Jvm.Stand Jvm.Pilot.@@N@@.Jvm.D
/-! MADE BY PROGRAM (witnessworld.py) out of the Statement's table words and the real class files: 34 classes; the members and pool entries that the words name. The judged class is class 1, her method 3. -/
namespace start1
open Jvm.ClassFile
def u (s : String) : CpInfo := .utf8 (stringToUtf16 s)
/-- a pool by its gaps: so many unusable entries, then the entry; so many at the end -/
def gap : Nat → List CpInfo → List CpInfo
  | 0, r => r
  | n + 1, r => .unusable :: gap n r
def poolList (es : List (Nat × CpInfo)) (last : Nat) : List CpInfo := es.foldr (fun e r => gap e.1 (e.2 :: r)) (gap last [])
def pool (es : List (Nat × CpInfo)) (last : Nat) : Array CpInfo := ⟨poolList es last⟩
def fileOf (pool : Array CpInfo) (this : Nat) (attrs : Array Attribute := #[]) (ms : Array MethodInfo := #[]) (fl : Nat := 33) (sup : Nat := 0) (ifs : Array Nat := #[]) (fds : Array FieldInfo := #[]) : ClassFile where
  minorVersion := 0
  majorVersion := 65
  constantPool := pool
  accessFlags := fl
  thisClass := this
  superClass := sup
  interfaces := ifs
  fields := fds
  methods := ms
  attributes := attrs
def plain (name : String) (sup : Option ClassId) : Class where
  name := name
  kind := .ordinary
  loader := none
  accessFlags := 33
  super := sup
  interfaces := #[]
  cf := none
  fields := #[]
  methods := #[]
  instanceTypes := #[]
  staticTypes := #[]
  resolved := #[]
  callSites := []
  init := .initialized
  statics := none
  mirror := none

def pool0 : Array CpInfo := pool [(5, u "<init>"), (0, u "()V"), (1, .class_ 10), (1, u "java/lang/Object")] 113

def k0c0 : Code := { maxStack := 0, maxLocals := 1, code := object_method_1_code, exceptionTable := #[], attributes := #[] }
def k0m0 : Method := { name := "<init>", desc := "()V", sig := { parameters := [], returnType := none }, accessFlags := 1, code := some k0c0 }
/-- java/lang/Object -/
def k0 : Class := { plain "java/lang/Object" none with
  accessFlags := 33
  interfaces := #[]
  cf := some (fileOf pool0 8 #[] #[{ accessFlags := 1, nameIndex := 5, descriptorIndex := 6, attributes := #[] }] 33 0 #[] #[])
  fields := #[]
  methods := #[k0m0]
  instanceTypes := #[]
  staticTypes := #[]
  resolved := Array.replicate 124 none
  statics := none }

def pool1 : Array CpInfo := pool [(2, .class_ 4), (0, .nameAndType 5 6), (0, u "java/lang/Object"), (0, u "<init>"), (0, u "()V"), (0, .class_ 8), (0, u "java/lang/String"), (0, .methodref 7 10), (0, .nameAndType 5 11), (0, u "([C)V"), (0, .methodref 13 14), (0, .class_ 15), (0, .nameAndType 16 17), (0, u "com/example/dovetail_fields/dovetailfields/CommandLineArgumentsOptionNamePinLaw"), (0, u "ch"), (0, u "(I)C"), (0, .integer 2147483647), (0, .methodref 13 20), (0, .nameAndType 21 22), (0, u "mk"), (0, u "(ICCCC)Ljava/lang/String;"), (0, .class_ 24), (0, u "java/util/ArrayList"), (0, .methodref 23 3), (0, .methodref 23 27), (0, .nameAndType 28 29), (0, u "add"), (0, u "(Ljava/lang/Object;)Z"), (0, .class_ 31), (0, u "com/example/dovetail_fields/dovetailfields/CommandLineArguments"), (0, .methodref 30 33), (0, .nameAndType 5 34), (0, u "(Ljava/util/List;)V"), (0, .methodref 30 36), (0, .nameAndType 37 38), (0, u "next"), (0, u "()Ljava/lang/String;"), (0, .methodref 30 40), (0, .nameAndType 41 38), (0, u "optionName"), (0, .methodref 7 43), (0, .nameAndType 44 29), (0, u "equals"), (3, u "law"), (0, u "(IIIII)Z")] 2

def k1m0 : Method := { name := "<init>", desc := "()V", sig := { parameters := [], returnType := none }, accessFlags := 1, code := none }
def k1c1 : Code := { maxStack := 2, maxLocals := 1, code := method_2_code, exceptionTable := #[], attributes := #[] }
def k1m1 : Method := { name := "ch", desc := "(I)C", sig := { parameters := [.int], returnType := some .char }, accessFlags := 10, code := some k1c1 }
def k1c2 : Code := { maxStack := 6, maxLocals := 5, code := method_3_code, exceptionTable := #[], attributes := #[] }
def k1m2 : Method := { name := "mk", desc := "(ICCCC)Ljava/lang/String;", sig := { parameters := [.int, .char, .char, .char, .char], returnType := some (.object "java/lang/String") }, accessFlags := 10, code := some k1c2 }
def k1c3 : Code := { maxStack := 5, maxLocals := 16, code := code, exceptionTable := #[], attributes := #[] }
def k1m3 : Method := { name := "law", desc := "(IIIII)Z", sig := { parameters := [.int, .int, .int, .int, .int], returnType := some .boolean }, accessFlags := 9, code := some k1c3 }
/-- com/example/dovetail_fields/dovetailfields/CommandLineArgumentsOptionNamePinLaw -/
def k1 : Class := { plain "com/example/dovetail_fields/dovetailfields/CommandLineArgumentsOptionNamePinLaw" (some 0) with
  accessFlags := 49
  interfaces := #[]
  cf := some (fileOf pool1 13 #[] #[{ accessFlags := 1, nameIndex := 5, descriptorIndex := 6, attributes := #[] }, { accessFlags := 10, nameIndex := 16, descriptorIndex := 17, attributes := #[] }, { accessFlags := 10, nameIndex := 21, descriptorIndex := 22, attributes := #[] }, { accessFlags := 9, nameIndex := 48, descriptorIndex := 49, attributes := #[] }] 49 2 #[] #[])
  fields := #[]
  methods := #[k1m0, k1m1, k1m2, k1m3]
  instanceTypes := #[]
  staticTypes := #[]
  resolved := Array.replicate 52 none
  statics := none }

def pool2 : Array CpInfo := pool [(1, .class_ 2), (0, u "java/io/Serializable"), (0, .class_ 4), (0, u "java/lang/Object")] 2

/-- java/io/Serializable -/
def k2 : Class := { plain "java/io/Serializable" (some 0) with
  accessFlags := 1537
  interfaces := #[]
  cf := some (fileOf pool2 1 #[] #[] 1537 3 #[] #[])
  fields := #[]
  methods := #[]
  instanceTypes := #[]
  staticTypes := #[]
  resolved := Array.replicate 7 none
  statics := none }

def pool3 : Array CpInfo := pool [(1, .class_ 2), (0, u "java/lang/Comparable"), (0, .class_ 4), (0, u "java/lang/Object")] 7

/-- java/lang/Comparable -/
def k3 : Class := { plain "java/lang/Comparable" (some 0) with
  accessFlags := 1537
  interfaces := #[]
  cf := some (fileOf pool3 1 #[] #[] 1537 3 #[] #[])
  fields := #[]
  methods := #[]
  instanceTypes := #[]
  staticTypes := #[]
  resolved := Array.replicate 12 none
  statics := none }

def pool4 : Array CpInfo := pool [(2, .class_ 4), (1, u "java/lang/CharSequence"), (42, .class_ 48), (0, u "java/lang/CharSequence$1CodePointIterator"), (10, .class_ 60), (0, u "java/lang/CharSequence$1CharIterator"), (5, .class_ 67), (0, u "java/lang/Object")] 63

/-- java/lang/CharSequence -/
def k4 : Class := { plain "java/lang/CharSequence" (some 0) with
  accessFlags := 1537
  interfaces := #[]
  cf := some (fileOf pool4 2 #[.nestMembers #[47, 59]] #[] 1537 66 #[] #[])
  fields := #[]
  methods := #[]
  instanceTypes := #[]
  staticTypes := #[]
  resolved := Array.replicate 131 none
  statics := none }

def pool5 : Array CpInfo := pool [(1, .class_ 2), (0, u "java/lang/constant/Constable"), (0, .class_ 4), (0, u "java/lang/Object")] 6

/-- java/lang/constant/Constable -/
def k5 : Class := { plain "java/lang/constant/Constable" (some 0) with
  accessFlags := 1537
  interfaces := #[]
  cf := some (fileOf pool5 1 #[] #[] 1537 3 #[] #[])
  fields := #[]
  methods := #[]
  instanceTypes := #[]
  staticTypes := #[]
  resolved := Array.replicate 11 none
  statics := none }

def pool6 : Array CpInfo := pool [(1, .class_ 2), (0, u "java/lang/constant/ConstantDesc"), (0, .class_ 4), (0, u "java/lang/Object")] 32

/-- java/lang/constant/ConstantDesc -/
def k6 : Class := { plain "java/lang/constant/ConstantDesc" (some 0) with
  accessFlags := 1537
  interfaces := #[]
  cf := some (fileOf pool6 1 #[] #[] 1537 3 #[] #[])
  fields := #[]
  methods := #[]
  instanceTypes := #[]
  staticTypes := #[]
  resolved := Array.replicate 37 none
  statics := none }

def pool7 : Array CpInfo := pool [(1, .methodref 2 3), (0, .class_ 4), (0, .nameAndType 5 6), (0, u "java/lang/Object"), (0, u "<init>"), (0, u "()V"), (0, .string 8), (0, u ""), (0, .fieldref 10 11), (0, .class_ 12), (0, .nameAndType 13 14), (0, u "java/lang/String"), (0, u "value"), (0, u "[B"), (0, .fieldref 10 16), (0, .nameAndType 17 18), (0, u "coder"), (0, u "B"), (2, u "hash"), (0, u "I"), (2, u "hashIsZero"), (0, u "Z"), (0, .methodref 10 28), (0, .nameAndType 5 29), (0, u "([CIILjava/lang/Void;)V"), (8, .fieldref 10 39), (0, .nameAndType 40 26), (0, u "COMPACT_STRINGS"), (1, .class_ 44), (1, u "java/lang/StringUTF16"), (0, u "compress"), (1, .methodref 42 48), (0, .nameAndType 49 50), (0, u "coderFromArrayLen"), (0, u "([BI)B"), (56, .class_ 109), (1, u "java/lang/StringLatin1"), (32, u "()Z"), (34, .methodref 42 178), (0, .nameAndType 45 179), (0, u "([CII)[B"), (31, u "([BB)V"), (122, u "()I"), (0, .methodref 10 336), (0, .nameAndType 17 337), (0, u "()B"), (154, .methodref 10 493), (0, .nameAndType 494 142), (0, u "isLatin1"), (10, .methodref 10 506), (0, .nameAndType 507 334), (0, u "length"), (5, u "checkFromToIndex"), (7, .methodref 10 522), (0, .nameAndType 523 524), (0, u "checkBoundsBeginEnd"), (0, u "(III)V"), (16, .methodref 107 542), (0, .nameAndType 543 544), (0, u "equals"), (0, u "([B[B)Z"), (28, u "(Ljava/lang/Object;)Z"), (1, .class_ 576), (0, u "java/lang/CharSequence"), (22, u "CASE_INSENSITIVE_ORDER"), (0, u "Ljava/util/Comparator;"), (32, .methodref 10 634), (0, .nameAndType 635 636), (0, u "indexOf"), (0, u "(II)I"), (0, .methodref 107 638), (0, .nameAndType 635 639), (0, u "([BIII)I"), (43, u "substring"), (0, u "(II)Ljava/lang/String;"), (0, .methodref 107 686), (0, .nameAndType 687 688), (0, u "newString"), (0, u "([BII)Ljava/lang/String;"), (76, u "(I)I"), (244, u "([C)V"), (42, .fieldref 1054 1055), (0, .class_ 1056), (0, .nameAndType 1057 1058), (0, u "jdk/internal/util/Preconditions"), (0, u "SIOOBE_FORMATTER"), (0, u "Ljava/util/function/BiFunction;"), (3, .methodref 1054 1063), (0, .nameAndType 513 1064), (0, u "(IIILjava/util/function/BiFunction;)I"), (36, u "serialPersistentFields"), (0, u "[Ljava/io/ObjectStreamField;"), (0, .class_ 1104), (0, u "java/lang/String$CaseInsensitiveComparator"), (1, .class_ 1107), (0, u "java/io/Serializable"), (0, .class_ 1109), (0, u "java/lang/Comparable"), (0, .class_ 1111), (0, u "java/lang/constant/Constable"), (0, .class_ 1113), (0, u "java/lang/constant/ConstantDesc"), (2, u "serialVersionUID"), (0, u "J"), (3, u "REPL"), (0, u "C"), (2, u "LATIN1"), (1, u "UTF16")] 323

def k7m0 : Method := { name := "<init>", desc := "()V", sig := { parameters := [], returnType := none }, accessFlags := 1, code := none }
def k7c1 : Code := { maxStack := 5, maxLocals := 2, code := jdk_42_method_3_code, exceptionTable := #[], attributes := #[] }
def k7m1 : Method := { name := "<init>", desc := "([C)V", sig := { parameters := [(.array .char)], returnType := none }, accessFlags := 1, code := some k7c1 }
def k7c2 : Code := { maxStack := 2, maxLocals := 1, code := jdk_42_method_54_code, exceptionTable := #[], attributes := #[] }
def k7m2 : Method := { name := "length", desc := "()I", sig := { parameters := [], returnType := some .int }, accessFlags := 1, code := some k7c2 }
def k7c3 : Code := { maxStack := 2, maxLocals := 3, code := jdk_42_method_66_code, exceptionTable := #[], attributes := #[] }
def k7m3 : Method := { name := "equals", desc := "(Ljava/lang/Object;)Z", sig := { parameters := [(.object "java/lang/Object")], returnType := some .boolean }, accessFlags := 1, code := some k7c3 }
def k7c4 : Code := { maxStack := 3, maxLocals := 2, code := jdk_42_method_79_code, exceptionTable := #[], attributes := #[] }
def k7m4 : Method := { name := "indexOf", desc := "(I)I", sig := { parameters := [.int], returnType := some .int }, accessFlags := 1, code := some k7c4 }
def k7c5 : Code := { maxStack := 4, maxLocals := 3, code := jdk_42_method_80_code, exceptionTable := #[], attributes := #[] }
def k7m5 : Method := { name := "indexOf", desc := "(II)I", sig := { parameters := [.int, .int], returnType := some .int }, accessFlags := 1, code := some k7c5 }
def k7c6 : Code := { maxStack := 3, maxLocals := 5, code := jdk_42_method_92_code, exceptionTable := #[], attributes := #[] }
def k7m6 : Method := { name := "substring", desc := "(II)Ljava/lang/String;", sig := { parameters := [.int, .int], returnType := some (.object "java/lang/String") }, accessFlags := 1, code := some k7c6 }
def k7c7 : Code := { maxStack := 4, maxLocals := 6, code := jdk_42_method_149_code, exceptionTable := #[], attributes := #[] }
def k7m7 : Method := { name := "<init>", desc := "([CIILjava/lang/Void;)V", sig := { parameters := [(.array .char), .int, .int, (.object "java/lang/Void")], returnType := none }, accessFlags := 2, code := some k7c7 }
def k7c8 : Code := { maxStack := 2, maxLocals := 3, code := jdk_42_method_151_code, exceptionTable := #[], attributes := #[] }
def k7m8 : Method := { name := "<init>", desc := "([BB)V", sig := { parameters := [(.array .byte), .byte], returnType := none }, accessFlags := 0, code := some k7c8 }
def k7c9 : Code := { maxStack := 1, maxLocals := 1, code := jdk_42_method_152_code, exceptionTable := #[], attributes := #[] }
def k7m9 : Method := { name := "coder", desc := "()B", sig := { parameters := [], returnType := some .byte }, accessFlags := 0, code := some k7c9 }
def k7c10 : Code := { maxStack := 1, maxLocals := 1, code := jdk_42_method_154_code, exceptionTable := #[], attributes := #[] }
def k7m10 : Method := { name := "isLatin1", desc := "()Z", sig := { parameters := [], returnType := some .boolean }, accessFlags := 0, code := some k7c10 }
def k7c11 : Code := { maxStack := 4, maxLocals := 3, code := jdk_42_method_158_code, exceptionTable := #[], attributes := #[] }
def k7m11 : Method := { name := "checkBoundsBeginEnd", desc := "(III)V", sig := { parameters := [.int, .int, .int], returnType := none }, accessFlags := 8, code := some k7c11 }
/-- java/lang/String -/
def k7 : Class := { plain "java/lang/String" (some 0) with
  accessFlags := 49
  interfaces := #[2, 3, 4, 5, 6]
  cf := some (fileOf pool7 10 #[.nestMembers #[1103]] #[{ accessFlags := 1, nameIndex := 5, descriptorIndex := 6, attributes := #[] }, { accessFlags := 1, nameIndex := 5, descriptorIndex := 1010, attributes := #[] }, { accessFlags := 1, nameIndex := 507, descriptorIndex := 334, attributes := #[] }, { accessFlags := 1, nameIndex := 543, descriptorIndex := 573, attributes := #[] }, { accessFlags := 1, nameIndex := 635, descriptorIndex := 765, attributes := #[] }, { accessFlags := 1, nameIndex := 635, descriptorIndex := 636, attributes := #[] }, { accessFlags := 1, nameIndex := 683, descriptorIndex := 684, attributes := #[] }, { accessFlags := 2, nameIndex := 5, descriptorIndex := 29, attributes := #[] }, { accessFlags := 0, nameIndex := 5, descriptorIndex := 211, attributes := #[] }, { accessFlags := 0, nameIndex := 17, descriptorIndex := 337, attributes := #[] }, { accessFlags := 0, nameIndex := 494, descriptorIndex := 142, attributes := #[] }, { accessFlags := 8, nameIndex := 523, descriptorIndex := 524, attributes := #[] }] 49 2 #[1106, 1108, 575, 1110, 1112] #[{ accessFlags := 18, nameIndex := 13, descriptorIndex := 14, attributes := #[] }, { accessFlags := 18, nameIndex := 17, descriptorIndex := 18, attributes := #[] }, { accessFlags := 2, nameIndex := 21, descriptorIndex := 22, attributes := #[] }, { accessFlags := 2, nameIndex := 25, descriptorIndex := 26, attributes := #[] }, { accessFlags := 26, nameIndex := 1116, descriptorIndex := 1117, attributes := #[] }, { accessFlags := 24, nameIndex := 40, descriptorIndex := 26, attributes := #[] }, { accessFlags := 26, nameIndex := 1101, descriptorIndex := 1102, attributes := #[] }, { accessFlags := 26, nameIndex := 1121, descriptorIndex := 1122, attributes := #[] }, { accessFlags := 25, nameIndex := 599, descriptorIndex := 600, attributes := #[] }, { accessFlags := 24, nameIndex := 1125, descriptorIndex := 18, attributes := #[] }, { accessFlags := 24, nameIndex := 1127, descriptorIndex := 18, attributes := #[] }])
  fields := #[{ name := "value", type := (.array .byte), accessFlags := 18, slot := 0, constantValue := 0 }, { name := "coder", type := .byte, accessFlags := 18, slot := 1, constantValue := 0 }, { name := "hash", type := .int, accessFlags := 2, slot := 2, constantValue := 0 }, { name := "hashIsZero", type := .boolean, accessFlags := 2, slot := 3, constantValue := 0 }, { name := "serialVersionUID", type := .long, accessFlags := 26, slot := 0, constantValue := 0 }, { name := "COMPACT_STRINGS", type := .boolean, accessFlags := 24, slot := 1, constantValue := 0 }, { name := "serialPersistentFields", type := (.array (.object "java/io/ObjectStreamField")), accessFlags := 26, slot := 2, constantValue := 0 }, { name := "REPL", type := .char, accessFlags := 26, slot := 3, constantValue := 0 }, { name := "CASE_INSENSITIVE_ORDER", type := (.object "java/util/Comparator"), accessFlags := 25, slot := 4, constantValue := 0 }, { name := "LATIN1", type := .byte, accessFlags := 24, slot := 5, constantValue := 0 }, { name := "UTF16", type := .byte, accessFlags := 24, slot := 6, constantValue := 0 }]
  methods := #[k7m0, k7m1, k7m2, k7m3, k7m4, k7m5, k7m6, k7m7, k7m8, k7m9, k7m10, k7m11]
  instanceTypes := #[(.array .byte), .byte, .int, .boolean]
  staticTypes := #[.long, .boolean, (.array (.object "java/io/ObjectStreamField")), .char, (.object "java/util/Comparator"), .byte, .byte]
  resolved := Array.replicate 1451 none
  statics := some 0 }

def pool8 : Array CpInfo := pool [(8, .class_ 10), (1, u "java/lang/Iterable"), (24, .class_ 36), (0, u "java/lang/Object")] 25

/-- java/lang/Iterable -/
def k8 : Class := { plain "java/lang/Iterable" (some 0) with
  accessFlags := 1537
  interfaces := #[]
  cf := some (fileOf pool8 8 #[] #[] 1537 35 #[] #[])
  fields := #[]
  methods := #[]
  instanceTypes := #[]
  staticTypes := #[]
  resolved := Array.replicate 62 none
  statics := none }

def pool9 : Array CpInfo := pool [(10, .class_ 12), (1, u "java/util/Collection"), (47, .class_ 61), (0, u "java/lang/Object"), (0, .class_ 63), (0, u "java/lang/Iterable")] 51

/-- java/util/Collection -/
def k9 : Class := { plain "java/util/Collection" (some 0) with
  accessFlags := 1537
  interfaces := #[8]
  cf := some (fileOf pool9 10 #[] #[] 1537 60 #[62] #[])
  fields := #[]
  methods := #[]
  instanceTypes := #[]
  staticTypes := #[]
  resolved := Array.replicate 115 none
  statics := none }

def pool10 : Array CpInfo := pool [(1, .methodref 2 3), (0, .class_ 4), (0, .nameAndType 5 6), (0, u "java/lang/Object"), (0, u "<init>"), (0, u "()V"), (1, .class_ 10), (1, u "java/util/AbstractCollection"), (66, .class_ 78), (0, u "java/util/Collection")] 81

def k10c0 : Code := { maxStack := 1, maxLocals := 1, code := jdk_22_method_1_code, exceptionTable := #[], attributes := #[] }
def k10m0 : Method := { name := "<init>", desc := "()V", sig := { parameters := [], returnType := none }, accessFlags := 4, code := some k10c0 }
/-- java/util/AbstractCollection -/
def k10 : Class := { plain "java/util/AbstractCollection" (some 0) with
  accessFlags := 1057
  interfaces := #[9]
  cf := some (fileOf pool10 8 #[] #[{ accessFlags := 4, nameIndex := 5, descriptorIndex := 6, attributes := #[] }] 1057 2 #[77] #[])
  fields := #[]
  methods := #[k10m0]
  instanceTypes := #[]
  staticTypes := #[]
  resolved := Array.replicate 160 none
  statics := none }

def pool11 : Array CpInfo := pool [(8, .class_ 10), (1, u "java/util/SequencedCollection"), (15, .class_ 27), (0, u "java/lang/Object"), (0, .class_ 29), (0, u "java/util/Collection")] 27

/-- java/util/SequencedCollection -/
def k11 : Class := { plain "java/util/SequencedCollection" (some 0) with
  accessFlags := 1537
  interfaces := #[9]
  cf := some (fileOf pool11 8 #[] #[] 1537 26 #[28] #[])
  fields := #[]
  methods := #[]
  instanceTypes := #[]
  staticTypes := #[]
  resolved := Array.replicate 57 none
  statics := none }

def pool12 : Array CpInfo := pool [(8, .class_ 10), (1, u "java/util/List"), (92, .class_ 104), (0, u "java/lang/Object"), (15, .class_ 121), (0, u "java/util/SequencedCollection"), (1, u "iterator"), (0, u "()Ljava/util/Iterator;")] 126

def k12m0 : Method := { name := "iterator", desc := "()Ljava/util/Iterator;", sig := { parameters := [], returnType := some (.object "java/util/Iterator") }, accessFlags := 1025, code := none }
/-- java/util/List -/
def k12 : Class := { plain "java/util/List" (some 0) with
  accessFlags := 1537
  interfaces := #[11]
  cf := some (fileOf pool12 8 #[] #[{ accessFlags := 1025, nameIndex := 123, descriptorIndex := 124, attributes := #[] }] 1537 103 #[120] #[])
  fields := #[]
  methods := #[k12m0]
  instanceTypes := #[]
  staticTypes := #[]
  resolved := Array.replicate 251 none
  statics := none }

def pool13 : Array CpInfo := pool [(1, .methodref 2 3), (0, .class_ 4), (0, .nameAndType 5 6), (0, u "java/util/AbstractCollection"), (0, u "<init>"), (0, u "()V"), (0, .fieldref 8 9), (0, .class_ 10), (0, .nameAndType 11 12), (0, u "java/util/AbstractList"), (0, u "modCount"), (0, u "I"), (64, .class_ 78), (0, u "java/util/AbstractList$Itr"), (3, .class_ 83), (0, u "java/util/AbstractList$ListItr"), (9, .class_ 94), (0, u "java/util/AbstractList$RandomAccessSubList"), (3, .class_ 99), (0, u "java/util/AbstractList$SubList"), (33, .class_ 134), (0, u "java/util/List"), (73, .class_ 209), (0, u "java/util/AbstractList$SubList$1"), (0, .class_ 211), (0, u "java/util/AbstractList$RandomAccessSpliterator")] 6

def k13c0 : Code := { maxStack := 2, maxLocals := 1, code := jdk_39_method_1_code, exceptionTable := #[], attributes := #[] }
def k13m0 : Method := { name := "<init>", desc := "()V", sig := { parameters := [], returnType := none }, accessFlags := 4, code := some k13c0 }
/-- java/util/AbstractList -/
def k13 : Class := { plain "java/util/AbstractList" (some 10) with
  accessFlags := 1057
  interfaces := #[12]
  cf := some (fileOf pool13 8 #[.nestMembers #[93, 98, 208, 210, 82, 77]] #[{ accessFlags := 4, nameIndex := 5, descriptorIndex := 6, attributes := #[] }] 1057 2 #[133] #[{ accessFlags := 132, nameIndex := 11, descriptorIndex := 12, attributes := #[] }])
  fields := #[{ name := "modCount", type := .int, accessFlags := 132, slot := 0, constantValue := 0 }]
  methods := #[k13m0]
  instanceTypes := #[.int]
  staticTypes := #[]
  resolved := Array.replicate 218 none
  statics := none }

def pool14 : Array CpInfo := pool [(1, .class_ 2), (0, u "java/util/RandomAccess"), (0, .class_ 4), (0, u "java/lang/Object")] 2

/-- java/util/RandomAccess -/
def k14 : Class := { plain "java/util/RandomAccess" (some 0) with
  accessFlags := 1537
  interfaces := #[]
  cf := some (fileOf pool14 1 #[] #[] 1537 3 #[] #[])
  fields := #[]
  methods := #[]
  instanceTypes := #[]
  staticTypes := #[]
  resolved := Array.replicate 7 none
  statics := none }

def pool15 : Array CpInfo := pool [(1, .class_ 2), (0, u "java/lang/Cloneable"), (0, .class_ 4), (0, u "java/lang/Object")] 2

/-- java/lang/Cloneable -/
def k15 : Class := { plain "java/lang/Cloneable" (some 0) with
  accessFlags := 1537
  interfaces := #[]
  cf := some (fileOf pool15 1 #[] #[] 1537 3 #[] #[])
  fields := #[]
  methods := #[]
  instanceTypes := #[]
  staticTypes := #[]
  resolved := Array.replicate 7 none
  statics := none }

def pool16 : Array CpInfo := pool [(1, .methodref 2 3), (0, .class_ 4), (0, .nameAndType 5 6), (0, u "java/util/AbstractList"), (0, u "<init>"), (0, u "()V"), (0, .class_ 8), (0, u "java/lang/Object"), (0, .fieldref 10 11), (0, .class_ 12), (0, .nameAndType 13 14), (0, u "java/util/ArrayList"), (0, u "elementData"), (0, u "[Ljava/lang/Object;"), (2, u "EMPTY_ELEMENTDATA"), (21, .fieldref 10 40), (0, .nameAndType 41 14), (0, u "DEFAULTCAPACITY_EMPTY_ELEMENTDATA"), (5, u "()[Ljava/lang/Object;"), (0, .fieldref 10 49), (0, .nameAndType 50 51), (0, u "size"), (0, u "I"), (11, .fieldref 10 64), (0, .nameAndType 65 51), (0, u "modCount"), (3, .methodref 10 70), (0, .nameAndType 71 72), (0, u "grow"), (0, u "(I)[Ljava/lang/Object;"), (6, .methodref 80 81), (0, .class_ 82), (0, .nameAndType 83 84), (0, u "java/lang/Math"), (0, u "max"), (0, u "(II)I"), (11, u "(Ljava/lang/Object;)Z"), (32, .methodref 10 130), (0, .nameAndType 71 47), (0, .methodref 10 132), (0, .nameAndType 133 134), (0, u "add"), (0, u "(Ljava/lang/Object;[Ljava/lang/Object;I)V"), (13, .class_ 149), (0, u "java/util/List"), (16, u "iterator"), (0, u "()Ljava/util/Iterator;"), (94, .class_ 263), (0, u "java/util/ArrayList$ListItr"), (3, .class_ 268), (0, u "java/util/ArrayList$Itr"), (0, .methodref 267 270), (0, .nameAndType 5 271), (0, u "(Ljava/util/ArrayList;)V"), (4, .class_ 277), (0, u "java/util/ArrayList$SubList"), (12, .class_ 291), (0, u "java/util/ArrayList$ArrayListSpliterator"), (37, .class_ 330), (0, u "java/util/RandomAccess"), (0, .class_ 332), (0, u "java/lang/Cloneable"), (0, .class_ 334), (0, u "java/io/Serializable"), (0, u "serialVersionUID"), (0, u "J"), (3, u "DEFAULT_CAPACITY"), (159, .class_ 501), (0, u "java/util/ArrayList$SubList$2"), (0, .class_ 503), (0, u "java/util/ArrayList$SubList$1")] 5

def k16c0 : Code := { maxStack := 2, maxLocals := 1, code := jdk_38_method_2_code, exceptionTable := #[], attributes := #[] }
def k16m0 : Method := { name := "<init>", desc := "()V", sig := { parameters := [], returnType := none }, accessFlags := 1, code := some k16c0 }
def k16c1 : Code := { maxStack := 4, maxLocals := 4, code := jdk_38_method_6_code, exceptionTable := #[], attributes := #[] }
def k16m1 : Method := { name := "grow", desc := "(I)[Ljava/lang/Object;", sig := { parameters := [.int], returnType := some (.array (.object "java/lang/Object")) }, accessFlags := 2, code := some k16c1 }
def k16c2 : Code := { maxStack := 3, maxLocals := 1, code := jdk_38_method_7_code, exceptionTable := #[], attributes := #[] }
def k16m2 : Method := { name := "grow", desc := "()[Ljava/lang/Object;", sig := { parameters := [], returnType := some (.array (.object "java/lang/Object")) }, accessFlags := 2, code := some k16c2 }
def k16c3 : Code := { maxStack := 3, maxLocals := 4, code := jdk_38_method_24_code, exceptionTable := #[], attributes := #[] }
def k16m3 : Method := { name := "add", desc := "(Ljava/lang/Object;[Ljava/lang/Object;I)V", sig := { parameters := [(.object "java/lang/Object"), (.array (.object "java/lang/Object")), .int], returnType := none }, accessFlags := 2, code := some k16c3 }
def k16c4 : Code := { maxStack := 4, maxLocals := 2, code := jdk_38_method_25_code, exceptionTable := #[], attributes := #[] }
def k16m4 : Method := { name := "add", desc := "(Ljava/lang/Object;)Z", sig := { parameters := [(.object "java/lang/Object")], returnType := some .boolean }, accessFlags := 1, code := some k16c4 }
def k16c5 : Code := { maxStack := 3, maxLocals := 1, code := jdk_38_method_55_code, exceptionTable := #[], attributes := #[] }
def k16m5 : Method := { name := "iterator", desc := "()Ljava/util/Iterator;", sig := { parameters := [], returnType := some (.object "java/util/Iterator") }, accessFlags := 1, code := some k16c5 }
/-- java/util/ArrayList -/
def k16 : Class := { plain "java/util/ArrayList" (some 13) with
  accessFlags := 33
  interfaces := #[12, 14, 15, 2]
  cf := some (fileOf pool16 10 #[.nestMembers #[290, 276, 500, 502, 262, 267]] #[{ accessFlags := 1, nameIndex := 5, descriptorIndex := 6, attributes := #[] }, { accessFlags := 2, nameIndex := 71, descriptorIndex := 72, attributes := #[] }, { accessFlags := 2, nameIndex := 71, descriptorIndex := 47, attributes := #[] }, { accessFlags := 2, nameIndex := 133, descriptorIndex := 134, attributes := #[] }, { accessFlags := 1, nameIndex := 133, descriptorIndex := 96, attributes := #[] }, { accessFlags := 1, nameIndex := 166, descriptorIndex := 167, attributes := #[] }] 33 2 #[148, 329, 331, 333] #[{ accessFlags := 26, nameIndex := 335, descriptorIndex := 336, attributes := #[] }, { accessFlags := 26, nameIndex := 340, descriptorIndex := 51, attributes := #[] }, { accessFlags := 26, nameIndex := 17, descriptorIndex := 14, attributes := #[] }, { accessFlags := 26, nameIndex := 41, descriptorIndex := 14, attributes := #[] }, { accessFlags := 128, nameIndex := 13, descriptorIndex := 14, attributes := #[] }, { accessFlags := 2, nameIndex := 50, descriptorIndex := 51, attributes := #[] }])
  fields := #[{ name := "serialVersionUID", type := .long, accessFlags := 26, slot := 0, constantValue := 0 }, { name := "DEFAULT_CAPACITY", type := .int, accessFlags := 26, slot := 1, constantValue := 0 }, { name := "EMPTY_ELEMENTDATA", type := (.array (.object "java/lang/Object")), accessFlags := 26, slot := 2, constantValue := 0 }, { name := "DEFAULTCAPACITY_EMPTY_ELEMENTDATA", type := (.array (.object "java/lang/Object")), accessFlags := 26, slot := 3, constantValue := 0 }, { name := "elementData", type := (.array (.object "java/lang/Object")), accessFlags := 128, slot := 1, constantValue := 0 }, { name := "size", type := .int, accessFlags := 2, slot := 2, constantValue := 0 }]
  methods := #[k16m0, k16m1, k16m2, k16m3, k16m4, k16m5]
  instanceTypes := #[.int, (.array (.object "java/lang/Object")), .int]
  staticTypes := #[.long, .int, (.array (.object "java/lang/Object")), (.array (.object "java/lang/Object"))]
  resolved := Array.replicate 509 none
  statics := some 1 }

def pool17 : Array CpInfo := pool [(1, .class_ 2), (0, u "java/lang/Math"), (1, .class_ 6), (1, u "java/lang/Object"), (0, u "<init>"), (0, u "()V"), (89, .class_ 100), (1, u "java/lang/Math$RandomNumberGeneratorHolder"), (71, u "negativeZeroFloatBits"), (0, u "J"), (2, u "negativeZeroDoubleBits"), (21, u "max"), (2, u "min"), (43, u "$assertionsDisabled"), (0, u "Z"), (88, u "(II)I"), (2, u "twoToTheDoubleScaleDown"), (0, u "D"), (4, u "twoToTheDoubleScaleUp"), (9, u "E"), (3, u "PI"), (2, u "TAU"), (2, u "DEGREES_TO_RADIANS"), (0, u "RADIANS_TO_DEGREES")] 94

def k17m0 : Method := { name := "<init>", desc := "()V", sig := { parameters := [], returnType := none }, accessFlags := 2, code := none }
def k17c1 : Code := { maxStack := 2, maxLocals := 2, code := jdk_29_method_65_code, exceptionTable := #[], attributes := #[] }
def k17m1 : Method := { name := "max", desc := "(II)I", sig := { parameters := [.int, .int], returnType := some .int }, accessFlags := 9, code := some k17c1 }
def k17c2 : Code := { maxStack := 2, maxLocals := 2, code := jdk_29_method_69_code, exceptionTable := #[], attributes := #[] }
def k17m2 : Method := { name := "min", desc := "(II)I", sig := { parameters := [.int, .int], returnType := some .int }, accessFlags := 9, code := some k17c2 }
/-- java/lang/Math -/
def k17 : Class := { plain "java/lang/Math" (some 0) with
  accessFlags := 49
  interfaces := #[]
  cf := some (fileOf pool17 1 #[.nestMembers #[98]] #[{ accessFlags := 2, nameIndex := 7, descriptorIndex := 8, attributes := #[] }, { accessFlags := 9, nameIndex := 198, descriptorIndex := 335, attributes := #[] }, { accessFlags := 9, nameIndex := 201, descriptorIndex := 335, attributes := #[] }] 49 4 #[] #[{ accessFlags := 25, nameIndex := 354, descriptorIndex := 339, attributes := #[] }, { accessFlags := 25, nameIndex := 358, descriptorIndex := 339, attributes := #[] }, { accessFlags := 25, nameIndex := 361, descriptorIndex := 339, attributes := #[] }, { accessFlags := 26, nameIndex := 364, descriptorIndex := 339, attributes := #[] }, { accessFlags := 26, nameIndex := 365, descriptorIndex := 339, attributes := #[] }, { accessFlags := 26, nameIndex := 172, descriptorIndex := 173, attributes := #[] }, { accessFlags := 26, nameIndex := 176, descriptorIndex := 173, attributes := #[] }, { accessFlags := 8, nameIndex := 344, descriptorIndex := 339, attributes := #[] }, { accessFlags := 8, nameIndex := 338, descriptorIndex := 339, attributes := #[] }, { accessFlags := 4120, nameIndex := 245, descriptorIndex := 246, attributes := #[] }])
  fields := #[{ name := "E", type := .double, accessFlags := 25, slot := 0, constantValue := 0 }, { name := "PI", type := .double, accessFlags := 25, slot := 1, constantValue := 0 }, { name := "TAU", type := .double, accessFlags := 25, slot := 2, constantValue := 0 }, { name := "DEGREES_TO_RADIANS", type := .double, accessFlags := 26, slot := 3, constantValue := 0 }, { name := "RADIANS_TO_DEGREES", type := .double, accessFlags := 26, slot := 4, constantValue := 0 }, { name := "negativeZeroFloatBits", type := .long, accessFlags := 26, slot := 5, constantValue := 0 }, { name := "negativeZeroDoubleBits", type := .long, accessFlags := 26, slot := 6, constantValue := 0 }, { name := "twoToTheDoubleScaleUp", type := .double, accessFlags := 8, slot := 7, constantValue := 0 }, { name := "twoToTheDoubleScaleDown", type := .double, accessFlags := 8, slot := 8, constantValue := 0 }, { name := "$assertionsDisabled", type := .boolean, accessFlags := 4120, slot := 9, constantValue := 0 }]
  methods := #[k17m0, k17m1, k17m2]
  instanceTypes := #[]
  staticTypes := #[.double, .double, .double, .double, .double, .long, .long, .double, .double, .boolean]
  resolved := Array.replicate 460 none
  statics := none }

def pool18 : Array CpInfo := pool [(1, .methodref 2 3), (0, .class_ 4), (0, .nameAndType 5 6), (0, u "java/lang/Object"), (0, u "<init>"), (0, u "()V"), (0, .interfaceMethodref 8 9), (0, .class_ 10), (0, .nameAndType 11 12), (0, u "java/util/List"), (0, u "iterator"), (0, u "()Ljava/util/Iterator;"), (0, .fieldref 14 15), (0, .class_ 16), (0, .nameAndType 17 18), (0, u "com/example/dovetail_fields/dovetailfields/CommandLineArguments"), (0, u "remaining"), (0, u "Ljava/util/Iterator;"), (1, .class_ 22), (1, u "java/util/Iterator"), (2, .interfaceMethodref 20 26), (0, .nameAndType 27 28), (0, u "next"), (0, u "()Ljava/lang/Object;"), (0, .class_ 30), (0, u "java/lang/String"), (0, .fieldref 14 32), (0, .nameAndType 33 34), (0, u "current"), (0, u "Ljava/lang/String;"), (12, .methodref 29 48), (0, .nameAndType 49 50), (0, u "indexOf"), (0, u "(I)I"), (0, .methodref 29 52), (0, .nameAndType 53 54), (0, u "substring"), (0, u "(II)Ljava/lang/String;"), (75, u "NEW_FILE_PERMISSIONS"), (65, u "()Ljava/lang/String;"), (72, u "(Ljava/util/List;)V"), (5, u "optionName")] 46

def k18c0 : Code := { maxStack := 2, maxLocals := 2, code := prog_4_method_1_code, exceptionTable := #[], attributes := #[] }
def k18m0 : Method := { name := "<init>", desc := "(Ljava/util/List;)V", sig := { parameters := [(.object "java/util/List")], returnType := none }, accessFlags := 0, code := some k18c0 }
def k18c1 : Code := { maxStack := 2, maxLocals := 1, code := prog_4_method_3_code, exceptionTable := #[], attributes := #[] }
def k18m1 : Method := { name := "next", desc := "()Ljava/lang/String;", sig := { parameters := [], returnType := some (.object "java/lang/String") }, accessFlags := 0, code := some k18c1 }
def k18c2 : Code := { maxStack := 3, maxLocals := 2, code := prog_4_method_5_code, exceptionTable := #[], attributes := #[] }
def k18m2 : Method := { name := "optionName", desc := "()Ljava/lang/String;", sig := { parameters := [], returnType := some (.object "java/lang/String") }, accessFlags := 0, code := some k18c2 }
/-- com/example/dovetail_fields/dovetailfields/CommandLineArguments -/
def k18 : Class := { plain "com/example/dovetail_fields/dovetailfields/CommandLineArguments" (some 0) with
  accessFlags := 48
  interfaces := #[]
  cf := some (fileOf pool18 14 #[] #[{ accessFlags := 0, nameIndex := 5, descriptorIndex := 269, attributes := #[] }, { accessFlags := 0, nameIndex := 27, descriptorIndex := 196, attributes := #[] }, { accessFlags := 0, nameIndex := 275, descriptorIndex := 196, attributes := #[] }] 48 2 #[] #[{ accessFlags := 18, nameIndex := 17, descriptorIndex := 18, attributes := #[] }, { accessFlags := 2, nameIndex := 33, descriptorIndex := 34, attributes := #[] }])
  fields := #[{ name := "remaining", type := (.object "java/util/Iterator"), accessFlags := 18, slot := 0, constantValue := 0 }, { name := "current", type := (.object "java/lang/String"), accessFlags := 2, slot := 1, constantValue := 0 }]
  methods := #[k18m0, k18m1, k18m2]
  instanceTypes := #[(.object "java/util/Iterator"), (.object "java/lang/String")]
  staticTypes := #[]
  resolved := Array.replicate 322 none
  statics := none }

def pool19 : Array CpInfo := pool [(16, .class_ 18), (1, u "java/util/Iterator"), (4, u "next"), (0, u "()Ljava/lang/Object;"), (6, .class_ 32), (0, u "java/lang/Object")] 20

def k19m0 : Method := { name := "next", desc := "()Ljava/lang/Object;", sig := { parameters := [], returnType := some (.object "java/lang/Object") }, accessFlags := 1025, code := none }
/-- java/util/Iterator -/
def k19 : Class := { plain "java/util/Iterator" (some 0) with
  accessFlags := 1537
  interfaces := #[]
  cf := some (fileOf pool19 16 #[] #[{ accessFlags := 1025, nameIndex := 23, descriptorIndex := 24, attributes := #[] }] 1537 31 #[] #[])
  fields := #[]
  methods := #[k19m0]
  instanceTypes := #[]
  staticTypes := #[]
  resolved := Array.replicate 53 none
  statics := none }

def pool20 : Array CpInfo := pool [(1, .fieldref 2 3), (0, .class_ 4), (0, .nameAndType 5 6), (0, u "java/util/ArrayList$Itr"), (0, u "this$0"), (0, u "Ljava/util/ArrayList;"), (0, .methodref 8 9), (0, .class_ 10), (0, .nameAndType 11 12), (0, u "java/lang/Object"), (0, u "<init>"), (0, u "()V"), (0, .fieldref 2 14), (0, .nameAndType 15 16), (0, u "lastRet"), (0, u "I"), (0, .fieldref 18 19), (0, .class_ 20), (0, .nameAndType 21 16), (0, u "java/util/ArrayList"), (0, u "modCount"), (0, .fieldref 2 23), (0, .nameAndType 24 16), (0, u "expectedModCount"), (0, .fieldref 2 26), (0, .nameAndType 27 16), (0, u "cursor"), (0, .fieldref 18 29), (0, .nameAndType 30 16), (0, u "size"), (0, .methodref 2 32), (0, .nameAndType 33 12), (0, u "checkForComodification"), (3, .fieldref 18 38), (0, .nameAndType 39 40), (0, u "elementData"), (0, u "[Ljava/lang/Object;"), (28, .class_ 70), (0, u "java/util/Iterator"), (0, u "(Ljava/util/ArrayList;)V"), (11, u "next"), (0, u "()Ljava/lang/Object;")] 19

def k20c0 : Code := { maxStack := 2, maxLocals := 2, code := jdk_49_method_1_code, exceptionTable := #[], attributes := #[] }
def k20m0 : Method := { name := "<init>", desc := "(Ljava/util/ArrayList;)V", sig := { parameters := [(.object "java/util/ArrayList")], returnType := none }, accessFlags := 0, code := some k20c0 }
def k20c1 : Code := { maxStack := 4, maxLocals := 3, code := jdk_49_method_3_code, exceptionTable := #[], attributes := #[] }
def k20m1 : Method := { name := "next", desc := "()Ljava/lang/Object;", sig := { parameters := [], returnType := some (.object "java/lang/Object") }, accessFlags := 1, code := some k20c1 }
def k20c2 : Code := { maxStack := 2, maxLocals := 1, code := jdk_49_method_6_code, exceptionTable := #[], attributes := #[] }
def k20m2 : Method := { name := "checkForComodification", desc := "()V", sig := { parameters := [], returnType := none }, accessFlags := 16, code := some k20c2 }
/-- java/util/ArrayList$Itr -/
def k20 : Class := { plain "java/util/ArrayList$Itr" (some 0) with
  accessFlags := 32
  interfaces := #[19]
  cf := some (fileOf pool20 2 #[.nestHost 18] #[{ accessFlags := 0, nameIndex := 11, descriptorIndex := 71, attributes := #[] }, { accessFlags := 1, nameIndex := 83, descriptorIndex := 84, attributes := #[] }, { accessFlags := 16, nameIndex := 33, descriptorIndex := 12, attributes := #[] }] 32 8 #[69] #[{ accessFlags := 0, nameIndex := 27, descriptorIndex := 16, attributes := #[] }, { accessFlags := 0, nameIndex := 15, descriptorIndex := 16, attributes := #[] }, { accessFlags := 0, nameIndex := 24, descriptorIndex := 16, attributes := #[] }, { accessFlags := 4112, nameIndex := 5, descriptorIndex := 6, attributes := #[] }])
  fields := #[{ name := "cursor", type := .int, accessFlags := 0, slot := 0, constantValue := 0 }, { name := "lastRet", type := .int, accessFlags := 0, slot := 1, constantValue := 0 }, { name := "expectedModCount", type := .int, accessFlags := 0, slot := 2, constantValue := 0 }, { name := "this$0", type := (.object "java/util/ArrayList"), accessFlags := 4112, slot := 3, constantValue := 0 }]
  methods := #[k20m0, k20m1, k20m2]
  instanceTypes := #[.int, .int, .int, (.object "java/util/ArrayList")]
  staticTypes := #[]
  resolved := Array.replicate 104 none
  statics := none }

def pool21 : Array CpInfo := pool [(1, .class_ 2), (0, u "java/lang/String"), (1, .class_ 6), (1, u "java/lang/Object"), (0, u "<init>"), (0, u "()V"), (5, .class_ 16), (1, u "java/lang/StringLatin1"), (21, .methodref 39 40), (0, .class_ 41), (0, .nameAndType 42 43), (0, u "java/lang/Math"), (0, u "min"), (0, u "(II)I"), (44, .methodref 14 89), (0, .nameAndType 90 91), (0, u "canEncode"), (0, u "(I)Z"), (0, .methodref 39 93), (0, .nameAndType 94 43), (0, u "max"), (0, .methodref 14 96), (0, .nameAndType 97 98), (0, u "indexOfChar"), (0, u "([BIII)I"), (2, u "indexOf"), (10, .methodref 1 113), (0, .nameAndType 7 114), (0, u "([BB)V"), (6, u "$assertionsDisabled"), (0, u "Z"), (8, .class_ 133), (1, u "java/util/Arrays"), (17, .string 152), (0, u ""), (43, u "newString"), (0, u "([BII)Ljava/lang/String;"), (23, .class_ 223), (1, u "java/lang/StringLatin1$LinesSpliterator"), (8, .methodref 131 233), (0, .nameAndType 234 235), (0, u "copyOfRange"), (0, u "([BII)[B"), (45, u "equals"), (0, u "([B[B)Z"), (107, .class_ 391), (0, u "java/lang/StringLatin1$CharsSpliterator")] 3

def k21m0 : Method := { name := "<init>", desc := "()V", sig := { parameters := [], returnType := none }, accessFlags := 0, code := none }
def k21c1 : Code := { maxStack := 2, maxLocals := 1, code := jdk_43_method_4_code, exceptionTable := #[], attributes := #[] }
def k21m1 : Method := { name := "canEncode", desc := "(I)Z", sig := { parameters := [.int], returnType := some .boolean }, accessFlags := 9, code := some k21c1 }
def k21c2 : Code := { maxStack := 3, maxLocals := 3, code := jdk_43_method_13_code, exceptionTable := #[], attributes := #[] }
def k21m2 : Method := { name := "equals", desc := "([B[B)Z", sig := { parameters := [(.array .byte), (.array .byte)], returnType := some .boolean }, accessFlags := 9, code := some k21c2 }
def k21c3 : Code := { maxStack := 4, maxLocals := 4, code := jdk_43_method_22_code, exceptionTable := #[], attributes := #[] }
def k21m3 : Method := { name := "indexOf", desc := "([BIII)I", sig := { parameters := [(.array .byte), .int, .int, .int], returnType := some .int }, accessFlags := 9, code := some k21c3 }
def k21c4 : Code := { maxStack := 2, maxLocals := 6, code := jdk_43_method_23_code, exceptionTable := #[], attributes := #[] }
def k21m4 : Method := { name := "indexOfChar", desc := "([BIII)I", sig := { parameters := [(.array .byte), .int, .int, .int], returnType := some .int }, accessFlags := 10, code := some k21c4 }
def k21c5 : Code := { maxStack := 6, maxLocals := 3, code := jdk_43_method_47_code, exceptionTable := #[], attributes := #[] }
def k21m5 : Method := { name := "newString", desc := "([BII)Ljava/lang/String;", sig := { parameters := [(.array .byte), .int, .int], returnType := some (.object "java/lang/String") }, accessFlags := 9, code := some k21c5 }
/-- java/lang/StringLatin1 -/
def k21 : Class := { plain "java/lang/StringLatin1" (some 0) with
  accessFlags := 48
  interfaces := #[]
  cf := some (fileOf pool21 14 #[.nestMembers #[390, 221]] #[{ accessFlags := 0, nameIndex := 7, descriptorIndex := 8, attributes := #[] }, { accessFlags := 9, nameIndex := 90, descriptorIndex := 91, attributes := #[] }, { accessFlags := 9, nameIndex := 281, descriptorIndex := 282, attributes := #[] }, { accessFlags := 9, nameIndex := 101, descriptorIndex := 98, attributes := #[] }, { accessFlags := 10, nameIndex := 97, descriptorIndex := 98, attributes := #[] }, { accessFlags := 9, nameIndex := 196, descriptorIndex := 197, attributes := #[] }] 48 4 #[] #[{ accessFlags := 4120, nameIndex := 121, descriptorIndex := 122, attributes := #[] }])
  fields := #[{ name := "$assertionsDisabled", type := .boolean, accessFlags := 4120, slot := 0, constantValue := 0 }]
  methods := #[k21m0, k21m1, k21m2, k21m3, k21m4, k21m5]
  instanceTypes := #[]
  staticTypes := #[.boolean]
  resolved := Array.replicate 395 none
  statics := none }

def pool22 : Array CpInfo := pool [(6, .class_ 8), (1, u "java/lang/Object"), (0, u "<init>"), (0, u "()V"), (1, .class_ 14), (1, u "java/lang/StringUTF16"), (31, u "$assertionsDisabled"), (0, u "Z"), (13, u "HI_BYTE_SHIFT"), (0, u "I"), (2, u "LO_BYTE_SHIFT"), (49, .methodref 12 116), (0, .nameAndType 117 118), (0, u "compress"), (0, u "([CI[BII)I"), (3, u "([CII)[B"), (138, u "coderFromArrayLen"), (0, u "([BI)B"), (106, .class_ 371), (1, u "java/lang/StringUTF16$LinesSpliterator"), (58, u "MAX_LENGTH"), (196, .class_ 628), (0, u "java/lang/StringUTF16$CodePointsSpliterator"), (0, .class_ 630), (0, u "java/lang/StringUTF16$CharsSpliterator")] 4

def k22m0 : Method := { name := "<init>", desc := "()V", sig := { parameters := [], returnType := none }, accessFlags := 0, code := none }
def k22c1 : Code := { maxStack := 2, maxLocals := 2, code := jdk_52_method_15_code, exceptionTable := #[], attributes := #[] }
def k22m1 : Method := { name := "coderFromArrayLen", desc := "([BI)B", sig := { parameters := [(.array .byte), .int], returnType := some .byte }, accessFlags := 8, code := some k22c1 }
def k22c2 : Code := { maxStack := 5, maxLocals := 6, code := jdk_52_method_16_code, exceptionTable := #[], attributes := #[] }
def k22m2 : Method := { name := "compress", desc := "([CII)[B", sig := { parameters := [(.array .char), .int, .int], returnType := some (.array .byte) }, accessFlags := 9, code := some k22c2 }
def k22c3 : Code := { maxStack := 3, maxLocals := 7, code := jdk_52_method_21_code, exceptionTable := #[], attributes := #[] }
def k22m3 : Method := { name := "compress", desc := "([CI[BII)I", sig := { parameters := [(.array .char), .int, (.array .byte), .int, .int], returnType := some .int }, accessFlags := 9, code := some k22c3 }
/-- java/lang/StringUTF16 -/
def k22 : Class := { plain "java/lang/StringUTF16" (some 0) with
  accessFlags := 48
  interfaces := #[]
  cf := some (fileOf pool22 12 #[.nestMembers #[627, 629, 369]] #[{ accessFlags := 0, nameIndex := 9, descriptorIndex := 10, attributes := #[] }, { accessFlags := 8, nameIndex := 261, descriptorIndex := 262, attributes := #[] }, { accessFlags := 9, nameIndex := 117, descriptorIndex := 122, attributes := #[] }, { accessFlags := 9, nameIndex := 117, descriptorIndex := 118, attributes := #[] }] 48 6 #[] #[{ accessFlags := 26, nameIndex := 61, descriptorIndex := 62, attributes := #[] }, { accessFlags := 26, nameIndex := 65, descriptorIndex := 62, attributes := #[] }, { accessFlags := 24, nameIndex := 430, descriptorIndex := 62, attributes := #[] }, { accessFlags := 4120, nameIndex := 46, descriptorIndex := 47, attributes := #[] }])
  fields := #[{ name := "HI_BYTE_SHIFT", type := .int, accessFlags := 26, slot := 0, constantValue := 0 }, { name := "LO_BYTE_SHIFT", type := .int, accessFlags := 26, slot := 1, constantValue := 0 }, { name := "MAX_LENGTH", type := .int, accessFlags := 24, slot := 2, constantValue := 0 }, { name := "$assertionsDisabled", type := .boolean, accessFlags := 4120, slot := 3, constantValue := 0 }]
  methods := #[k22m0, k22m1, k22m2, k22m3]
  instanceTypes := #[]
  staticTypes := #[.int, .int, .int, .boolean]
  resolved := Array.replicate 635 none
  statics := none }

def pool23 : Array CpInfo := pool [(2, .class_ 4), (1, u "java/lang/Object"), (0, u "<init>"), (0, u "()V"), (17, .class_ 26), (1, u "jdk/internal/util/Preconditions"), (20, u "checkFromToIndex"), (7, .class_ 56), (0, u "jdk/internal/util/Preconditions$4"), (57, .class_ 115), (0, u "jdk/internal/util/Preconditions$1"), (7, u "SIOOBE_FORMATTER"), (0, u "Ljava/util/function/BiFunction;"), (0, .class_ 126), (0, u "jdk/internal/util/Preconditions$2"), (3, u "AIOOBE_FORMATTER"), (0, .class_ 132), (0, u "jdk/internal/util/Preconditions$3"), (3, u "IOOBE_FORMATTER"), (46, u "(IIILjava/util/function/BiFunction;)I")] 10

def k23m0 : Method := { name := "<init>", desc := "()V", sig := { parameters := [], returnType := none }, accessFlags := 1, code := none }
def k23c1 : Code := { maxStack := 4, maxLocals := 4, code := jdk_41_method_12_code, exceptionTable := #[], attributes := #[] }
def k23m1 : Method := { name := "checkFromToIndex", desc := "(IIILjava/util/function/BiFunction;)I", sig := { parameters := [.int, .int, .int, (.object "java/util/function/BiFunction")], returnType := some .int }, accessFlags := 9, code := some k23c1 }
/-- jdk/internal/util/Preconditions -/
def k23 : Class := { plain "jdk/internal/util/Preconditions" (some 0) with
  accessFlags := 33
  interfaces := #[]
  cf := some (fileOf pool23 24 #[.nestMembers #[55, 131, 125, 114]] #[{ accessFlags := 1, nameIndex := 5, descriptorIndex := 6, attributes := #[] }, { accessFlags := 9, nameIndex := 47, descriptorIndex := 183, attributes := #[] }] 33 2 #[] #[{ accessFlags := 25, nameIndex := 123, descriptorIndex := 124, attributes := #[] }, { accessFlags := 25, nameIndex := 130, descriptorIndex := 124, attributes := #[] }, { accessFlags := 25, nameIndex := 136, descriptorIndex := 124, attributes := #[] }])
  fields := #[{ name := "SIOOBE_FORMATTER", type := (.object "java/util/function/BiFunction"), accessFlags := 25, slot := 0, constantValue := 0 }, { name := "AIOOBE_FORMATTER", type := (.object "java/util/function/BiFunction"), accessFlags := 25, slot := 1, constantValue := 0 }, { name := "IOOBE_FORMATTER", type := (.object "java/util/function/BiFunction"), accessFlags := 25, slot := 2, constantValue := 0 }]
  methods := #[k23m0, k23m1]
  instanceTypes := #[]
  staticTypes := #[(.object "java/util/function/BiFunction"), (.object "java/util/function/BiFunction"), (.object "java/util/function/BiFunction")]
  resolved := Array.replicate 194 none
  statics := some 2 }

def pool24 : Array CpInfo := pool [(2, .class_ 4), (1, u "java/lang/Object"), (0, u "<init>"), (0, u "()V"), (7, .class_ 16), (1, u "java/util/Arrays"), (57, .class_ 76), (1, u "java/util/Arrays$NaturalOrder"), (36, .class_ 115), (1, u "java/util/Arrays$LegacyMergeSort"), (1, u "Z"), (21, u "copyOfRange"), (10, .methodref 151 152), (0, .class_ 153), (0, .nameAndType 154 155), (0, u "java/lang/System"), (0, u "arraycopy"), (0, u "(Ljava/lang/Object;ILjava/lang/Object;II)V"), (148, .methodref 305 306), (0, .class_ 307), (0, .nameAndType 308 309), (0, u "java/lang/Math"), (0, u "min"), (0, u "(II)I"), (29, .methodref 14 340), (0, .nameAndType 341 342), (0, u "copyOfRangeByte"), (0, u "([BII)[B"), (0, .methodref 14 344), (0, .nameAndType 345 346), (0, u "checkLength"), (0, u "(II)V"), (28, .class_ 376), (0, u "java/util/Arrays$ArrayList"), (68, u "$assertionsDisabled"), (269, u "MIN_ARRAY_SORT_GRAN"), (0, u "I"), (2, u "INSERTIONSORT_THRESHOLD"), (255, .class_ 976), (0, u "java/util/Arrays$ArrayItr")] 52

def k24m0 : Method := { name := "<init>", desc := "()V", sig := { parameters := [], returnType := none }, accessFlags := 2, code := none }
def k24c1 : Code := { maxStack := 4, maxLocals := 2, code := jdk_65_method_131_code, exceptionTable := #[], attributes := #[] }
def k24m1 : Method := { name := "checkLength", desc := "(II)V", sig := { parameters := [.int, .int], returnType := none }, accessFlags := 10, code := some k24c1 }
def k24c2 : Code := { maxStack := 3, maxLocals := 3, code := jdk_65_method_132_code, exceptionTable := #[], attributes := #[] }
def k24m2 : Method := { name := "copyOfRange", desc := "([BII)[B", sig := { parameters := [(.array .byte), .int, .int], returnType := some (.array .byte) }, accessFlags := 9, code := some k24c2 }
def k24c3 : Code := { maxStack := 6, maxLocals := 5, code := jdk_65_method_133_code, exceptionTable := #[], attributes := #[] }
def k24m3 : Method := { name := "copyOfRangeByte", desc := "([BII)[B", sig := { parameters := [(.array .byte), .int, .int], returnType := some (.array .byte) }, accessFlags := 10, code := some k24c3 }
/-- java/util/Arrays -/
def k24 : Class := { plain "java/util/Arrays" (some 0) with
  accessFlags := 49
  interfaces := #[]
  cf := some (fileOf pool24 14 #[.nestMembers #[975, 375, 113, 74]] #[{ accessFlags := 2, nameIndex := 5, descriptorIndex := 6, attributes := #[] }, { accessFlags := 10, nameIndex := 345, descriptorIndex := 346, attributes := #[] }, { accessFlags := 9, nameIndex := 139, descriptorIndex := 342, attributes := #[] }, { accessFlags := 10, nameIndex := 341, descriptorIndex := 342, attributes := #[] }] 49 2 #[] #[{ accessFlags := 26, nameIndex := 715, descriptorIndex := 716, attributes := #[] }, { accessFlags := 26, nameIndex := 719, descriptorIndex := 716, attributes := #[] }, { accessFlags := 4120, nameIndex := 445, descriptorIndex := 117, attributes := #[] }])
  fields := #[{ name := "MIN_ARRAY_SORT_GRAN", type := .int, accessFlags := 26, slot := 0, constantValue := 0 }, { name := "INSERTIONSORT_THRESHOLD", type := .int, accessFlags := 26, slot := 1, constantValue := 0 }, { name := "$assertionsDisabled", type := .boolean, accessFlags := 4120, slot := 2, constantValue := 0 }]
  methods := #[k24m0, k24m1, k24m2, k24m3]
  instanceTypes := #[]
  staticTypes := #[.int, .int, .boolean]
  resolved := Array.replicate 1029 none
  statics := none }

def pool25 : Array CpInfo := pool [(2, .class_ 4), (1, u "java/lang/Object"), (0, u "<init>"), (0, u "()V"), (1, .class_ 10), (1, u "java/lang/System"), (0, u "allowSecurityManager"), (0, u "I"), (16, u "cons"), (0, u "Ljava/io/Console;"), (77, .class_ 110), (1, u "java/lang/System$CallersHolder"), (43, u "initialErrStream"), (0, u "Ljava/io/PrintStream;"), (19, u "security"), (0, u "Ljava/lang/SecurityManager;"), (31, .class_ 209), (0, u "java/lang/System$1"), (7, u "props"), (0, u "Ljava/util/Properties;"), (2, u "lineSeparator"), (0, u "Ljava/lang/String;"), (96, .class_ 321), (1, u "java/lang/System$LoggerFinder"), (5, .class_ 328), (0, u "java/lang/System$Logger"), (67, u "err"), (2, u "out"), (91, u "notSupportedJnuEncoding"), (15, u "in"), (17, u "initialIn"), (0, u "Ljava/io/InputStream;"), (35, u "bootLayer"), (0, u "Ljava/lang/ModuleLayer;"), (99, .class_ 664), (0, u "java/lang/System$2"), (9, u "NEVER"), (2, u "MAYBE"), (49, u "arraycopy"), (0, u "(Ljava/lang/Object;ILjava/lang/Object;II)V"), (72, .class_ 802), (0, u "java/lang/System$Logger$Level")] 31

def k25m0 : Method := { name := "<init>", desc := "()V", sig := { parameters := [], returnType := none }, accessFlags := 2, code := none }
def k25m1 : Method := { name := "arraycopy", desc := "(Ljava/lang/Object;ILjava/lang/Object;II)V", sig := { parameters := [(.object "java/lang/Object"), .int, (.object "java/lang/Object"), .int, .int], returnType := none }, accessFlags := 265, code := none }
/-- java/lang/System -/
def k25 : Class := { plain "java/lang/System" (some 0) with
  accessFlags := 49
  interfaces := #[]
  cf := some (fileOf pool25 8 #[.nestMembers #[319, 327, 801, 108, 663, 208]] #[{ accessFlags := 2, nameIndex := 5, descriptorIndex := 6, attributes := #[] }, { accessFlags := 265, nameIndex := 727, descriptorIndex := 728, attributes := #[] }] 49 2 #[] #[{ accessFlags := 25, nameIndex := 507, descriptorIndex := 526, attributes := #[] }, { accessFlags := 25, nameIndex := 399, descriptorIndex := 155, attributes := #[] }, { accessFlags := 25, nameIndex := 396, descriptorIndex := 155, attributes := #[] }, { accessFlags := 10, nameIndex := 525, descriptorIndex := 526, attributes := #[] }, { accessFlags := 26, nameIndex := 674, descriptorIndex := 12, attributes := #[] }, { accessFlags := 26, nameIndex := 677, descriptorIndex := 12, attributes := #[] }, { accessFlags := 10, nameIndex := 11, descriptorIndex := 12, attributes := #[] }, { accessFlags := 74, nameIndex := 175, descriptorIndex := 176, attributes := #[] }, { accessFlags := 10, nameIndex := 491, descriptorIndex := 222, attributes := #[] }, { accessFlags := 74, nameIndex := 29, descriptorIndex := 30, attributes := #[] }, { accessFlags := 74, nameIndex := 154, descriptorIndex := 155, attributes := #[] }, { accessFlags := 10, nameIndex := 217, descriptorIndex := 218, attributes := #[] }, { accessFlags := 10, nameIndex := 221, descriptorIndex := 222, attributes := #[] }, { accessFlags := 8, nameIndex := 562, descriptorIndex := 563, attributes := #[] }])
  fields := #[{ name := "in", type := (.object "java/io/InputStream"), accessFlags := 25, slot := 0, constantValue := 0 }, { name := "out", type := (.object "java/io/PrintStream"), accessFlags := 25, slot := 1, constantValue := 0 }, { name := "err", type := (.object "java/io/PrintStream"), accessFlags := 25, slot := 2, constantValue := 0 }, { name := "initialIn", type := (.object "java/io/InputStream"), accessFlags := 10, slot := 3, constantValue := 0 }, { name := "NEVER", type := .int, accessFlags := 26, slot := 4, constantValue := 0 }, { name := "MAYBE", type := .int, accessFlags := 26, slot := 5, constantValue := 0 }, { name := "allowSecurityManager", type := .int, accessFlags := 10, slot := 6, constantValue := 0 }, { name := "security", type := (.object "java/lang/SecurityManager"), accessFlags := 74, slot := 7, constantValue := 0 }, { name := "notSupportedJnuEncoding", type := (.object "java/lang/String"), accessFlags := 10, slot := 8, constantValue := 0 }, { name := "cons", type := (.object "java/io/Console"), accessFlags := 74, slot := 9, constantValue := 0 }, { name := "initialErrStream", type := (.object "java/io/PrintStream"), accessFlags := 74, slot := 10, constantValue := 0 }, { name := "props", type := (.object "java/util/Properties"), accessFlags := 10, slot := 11, constantValue := 0 }, { name := "lineSeparator", type := (.object "java/lang/String"), accessFlags := 10, slot := 12, constantValue := 0 }, { name := "bootLayer", type := (.object "java/lang/ModuleLayer"), accessFlags := 8, slot := 13, constantValue := 0 }]
  methods := #[k25m0, k25m1]
  instanceTypes := #[]
  staticTypes := #[(.object "java/io/InputStream"), (.object "java/io/PrintStream"), (.object "java/io/PrintStream"), (.object "java/io/InputStream"), .int, .int, .int, (.object "java/lang/SecurityManager"), (.object "java/lang/String"), (.object "java/io/Console"), (.object "java/io/PrintStream"), (.object "java/util/Properties"), (.object "java/lang/String"), (.object "java/lang/ModuleLayer")]
  resolved := Array.replicate 834 none
  statics := none }

def pool26 : Array CpInfo := pool [(9, u "<init>"), (6, .class_ 18), (1, u "java/lang/Object"), (0, u "()V"), (1, .class_ 23), (1, u "jdk/internal/util/ArraysSupport"), (0, u "LOG2_ARRAY_LONG_INDEX_SCALE"), (0, u "I"), (2, u "U"), (0, u "Ljdk/internal/misc/Unsafe;"), (8, u "BIG_ENDIAN"), (0, u "Z"), (8, u "LOG2_BYTE_BIT_SIZE"), (4, u "LOG2_ARRAY_INT_INDEX_SCALE"), (54, u "JLA"), (0, u "Ljdk/internal/access/JavaLangAccess;"), (11, u "LOG2_ARRAY_BOOLEAN_INDEX_SCALE"), (9, u "LOG2_ARRAY_BYTE_INDEX_SCALE"), (5, u "LOG2_ARRAY_CHAR_INDEX_SCALE"), (5, u "LOG2_ARRAY_SHORT_INDEX_SCALE"), (18, u "LOG2_ARRAY_FLOAT_INDEX_SCALE"), (24, u "LOG2_ARRAY_DOUBLE_INDEX_SCALE"), (89, u "T_BOOLEAN"), (2, u "T_CHAR"), (1, u "T_FLOAT"), (1, u "T_DOUBLE"), (1, u "T_BYTE"), (1, u "T_SHORT"), (1, u "T_INT"), (1, u "T_LONG"), (1, u "SOFT_MAX_ARRAY_LENGTH")] 83

def k26m0 : Method := { name := "<init>", desc := "()V", sig := { parameters := [], returnType := none }, accessFlags := 2, code := none }
/-- jdk/internal/util/ArraysSupport -/
def k26 : Class := { plain "jdk/internal/util/ArraysSupport" (some 0) with
  accessFlags := 33
  interfaces := #[]
  cf := some (fileOf pool26 21 #[] #[{ accessFlags := 2, nameIndex := 9, descriptorIndex := 19, attributes := #[] }] 33 16 #[] #[{ accessFlags := 24, nameIndex := 28, descriptorIndex := 29, attributes := #[] }, { accessFlags := 26, nameIndex := 38, descriptorIndex := 39, attributes := #[] }, { accessFlags := 25, nameIndex := 121, descriptorIndex := 25, attributes := #[] }, { accessFlags := 25, nameIndex := 131, descriptorIndex := 25, attributes := #[] }, { accessFlags := 25, nameIndex := 137, descriptorIndex := 25, attributes := #[] }, { accessFlags := 25, nameIndex := 143, descriptorIndex := 25, attributes := #[] }, { accessFlags := 25, nameIndex := 53, descriptorIndex := 25, attributes := #[] }, { accessFlags := 25, nameIndex := 24, descriptorIndex := 25, attributes := #[] }, { accessFlags := 25, nameIndex := 162, descriptorIndex := 25, attributes := #[] }, { accessFlags := 25, nameIndex := 187, descriptorIndex := 25, attributes := #[] }, { accessFlags := 26, nameIndex := 48, descriptorIndex := 25, attributes := #[] }, { accessFlags := 25, nameIndex := 277, descriptorIndex := 25, attributes := #[] }, { accessFlags := 25, nameIndex := 280, descriptorIndex := 25, attributes := #[] }, { accessFlags := 25, nameIndex := 282, descriptorIndex := 25, attributes := #[] }, { accessFlags := 25, nameIndex := 284, descriptorIndex := 25, attributes := #[] }, { accessFlags := 25, nameIndex := 286, descriptorIndex := 25, attributes := #[] }, { accessFlags := 25, nameIndex := 288, descriptorIndex := 25, attributes := #[] }, { accessFlags := 25, nameIndex := 290, descriptorIndex := 25, attributes := #[] }, { accessFlags := 25, nameIndex := 292, descriptorIndex := 25, attributes := #[] }, { accessFlags := 26, nameIndex := 108, descriptorIndex := 109, attributes := #[] }, { accessFlags := 25, nameIndex := 294, descriptorIndex := 25, attributes := #[] }])
  fields := #[{ name := "U", type := (.object "jdk/internal/misc/Unsafe"), accessFlags := 24, slot := 0, constantValue := 0 }, { name := "BIG_ENDIAN", type := .boolean, accessFlags := 26, slot := 1, constantValue := 0 }, { name := "LOG2_ARRAY_BOOLEAN_INDEX_SCALE", type := .int, accessFlags := 25, slot := 2, constantValue := 0 }, { name := "LOG2_ARRAY_BYTE_INDEX_SCALE", type := .int, accessFlags := 25, slot := 3, constantValue := 0 }, { name := "LOG2_ARRAY_CHAR_INDEX_SCALE", type := .int, accessFlags := 25, slot := 4, constantValue := 0 }, { name := "LOG2_ARRAY_SHORT_INDEX_SCALE", type := .int, accessFlags := 25, slot := 5, constantValue := 0 }, { name := "LOG2_ARRAY_INT_INDEX_SCALE", type := .int, accessFlags := 25, slot := 6, constantValue := 0 }, { name := "LOG2_ARRAY_LONG_INDEX_SCALE", type := .int, accessFlags := 25, slot := 7, constantValue := 0 }, { name := "LOG2_ARRAY_FLOAT_INDEX_SCALE", type := .int, accessFlags := 25, slot := 8, constantValue := 0 }, { name := "LOG2_ARRAY_DOUBLE_INDEX_SCALE", type := .int, accessFlags := 25, slot := 9, constantValue := 0 }, { name := "LOG2_BYTE_BIT_SIZE", type := .int, accessFlags := 26, slot := 10, constantValue := 0 }, { name := "T_BOOLEAN", type := .int, accessFlags := 25, slot := 11, constantValue := 0 }, { name := "T_CHAR", type := .int, accessFlags := 25, slot := 12, constantValue := 0 }, { name := "T_FLOAT", type := .int, accessFlags := 25, slot := 13, constantValue := 0 }, { name := "T_DOUBLE", type := .int, accessFlags := 25, slot := 14, constantValue := 0 }, { name := "T_BYTE", type := .int, accessFlags := 25, slot := 15, constantValue := 0 }, { name := "T_SHORT", type := .int, accessFlags := 25, slot := 16, constantValue := 0 }, { name := "T_INT", type := .int, accessFlags := 25, slot := 17, constantValue := 0 }, { name := "T_LONG", type := .int, accessFlags := 25, slot := 18, constantValue := 0 }, { name := "JLA", type := (.object "jdk/internal/access/JavaLangAccess"), accessFlags := 26, slot := 19, constantValue := 0 }, { name := "SOFT_MAX_ARRAY_LENGTH", type := .int, accessFlags := 25, slot := 20, constantValue := 0 }]
  methods := #[k26m0]
  instanceTypes := #[]
  staticTypes := #[(.object "jdk/internal/misc/Unsafe"), .boolean, .int, .int, .int, .int, .int, .int, .int, .int, .int, .int, .int, .int, .int, .int, .int, .int, .int, (.object "jdk/internal/access/JavaLangAccess"), .int]
  resolved := Array.replicate 378 none
  statics := none }

/-- the primitive byte -/
def k27 : Class := { plain "byte" none with kind := .primitive 'B', accessFlags := 0x411 }
/-- [B -/
def k28 : Class := { plain "[B" (some 0) with kind := .array 27 .byte, interfaces := #[15, 2], accessFlags := 1041 }

/-- the primitive char -/
def k29 : Class := { plain "char" none with kind := .primitive 'C', accessFlags := 0x411 }
/-- [C -/
def k30 : Class := { plain "[C" (some 0) with kind := .array 29 .char, interfaces := #[15, 2], accessFlags := 1041 }

/-- the primitive int -/
def k31 : Class := { plain "int" none with kind := .primitive 'I', accessFlags := 0x411 }
/-- [I -/
def k32 : Class := { plain "[I" (some 0) with kind := .array 31 .int, interfaces := #[15, 2], accessFlags := 1041 }

/-- [Ljava/lang/Object; -/
def k33 : Class := { plain "[Ljava/lang/Object;" (some 0) with kind := .array 0 (.object "java/lang/Object"), interfaces := #[15, 2], accessFlags := 1041 }

def heap : Heap := #[{ cls := 7, slots := #[.long 0, .int 1, .null, .int 0, .null, .int 0, .int 0], vm := .statics 7 },
  { cls := 16, slots := #[.long 0, .int 0, .ref 3, .ref 4], vm := .statics 16 },
  { cls := 23, slots := #[.null, .null, .null], vm := .statics 23 },
  { cls := 33, slots := #[], vm := .none },
  { cls := 33, slots := #[], vm := .none }]
def classes : Array Class := #[k0, k1, k2, k3, k4, k5, k6, k7, k8, k9, k10, k11, k12, k13, k14, k15, k16, k17, k18, k19, k20, k21, k22, k23, k24, k25, k26, k27, k28, k29, k30, k31, k32, k33]
def interned : List (Array UInt16 × Addr) := []
def slotsUsed : Nat := 14
def theMethod : MethodId := ⟨1, 3⟩
def args0 : Array Value := #[.int 5, .int 6, .int 2, .int 7, .int 3]
def aboutOver (below : List Frame) : State where
  vm := { classes := classes, interned := interned.toArray }
  heap := heap
  slotsUsed := slotsUsed
  threads := #[{ frames := .invoking theMethod args0 :: below }]
def below0 : List Frame := [.native { method := ⟨0, 0⟩, args := #[] }]
def about1 : State := aboutOver below0
def p0 : Program := .bare "" "" ""
def e0 : Env := launch0.env 0 0 0
theorem w_frames : about1.frames = Frame.invoking theMethod args0 :: below0 := rfl
set_option maxRecDepth 65536 in
theorem w_args : argsFit about1.vm theMethod args0 = true := by decide +kernel
set_option maxRecDepth 65536 in
theorem w_heap : heapFits about1 = true := by decide +kernel
set_option maxRecDepth 65536 in
theorem w_runnable : about1.curStatus? = some .runnable := by decide +kernel
set_option maxRecDepth 65536 in
theorem w_alone : about1.alone = true := by decide +kernel
set_option maxRecDepth 65536 in
theorem w_named : about1.methodNamed? x = some theMethod := by decide +kernel
set_option maxRecDepth 65536 in
theorem w_hears : about1.hears theMethod below0 = true := by decide +kernel
set_option maxRecDepth 65536 in
theorem w_ripe : about1.ripe theMethod args0 below0 = true := by decide +kernel
theorem w_running : about1.status = .running := rfl
set_option maxRecDepth 65536 in
theorem w_room : about1.hasRoom e0.platform room_1 = true :=
  launch0.hasRoom_least _ room_1 (by decide +kernel) (by decide +kernel) (by decide +kernel) (by decide +kernel) (by decide +kernel) (by decide +kernel)
theorem allAtoms_all (ts : List Jvm.Cond) (a : Array Jvm.Value) (st : Jvm.State) : (allAtoms ts).before a st = ts.all (fun c => c.before a st) := by
  induction ts with
  | nil => rfl
  | cons c t ih =>
    show (Jvm.Cond.and c (allAtoms t)).before a st = _
    rw [Jvm.Cond.before_and, ih, List.all_cons]
def words1 : List Jvm.Cond := Jvm.Cond.code x code maxLocals ret :: tables_1
/-- a 'code' word, met by the world's own term for the bytes: nothing is compared byte by byte -/
theorem code_word {y : MethodName} {bytes : ByteArray} {mx : Nat} {rt : Option FieldType} {a : Array Value} {s : State} {m : MethodId} {meth : Method} {c : Code} (h1 : s.methodNamed? y = some m) (h2 : s.vm.method? m = some meth) (h3 : meth.code = some c) (h4 : c.code = bytes)
    (h5 : (c.maxLocals == mx && c.exceptionTable.isEmpty && decide (c.maxStack ≤ mostOperands) && decide (meth.sig.returnType = rt) && !meth.locks && decide (parseMethodDescriptor y.desc = some meth.sig)) = true) : (Jvm.Cond.code y bytes mx rt).before a s = true := by
  simp only [Bool.and_eq_true, beq_iff_eq, Bool.not_eq_true', decide_eq_true_eq] at h5
  obtain ⟨⟨⟨⟨⟨g1, g2⟩, g3⟩, g4⟩, g5⟩, g6⟩ := h5
  simp [Cond.before, Cond.holds, Cond.value, h1, h2, h3, h4, g1, g2, g3, g4, g5, g6]
def isCode : Jvm.Cond → Bool
  | .code _ _ _ _ => true
  | _ => false
theorem all_split {L : List Jvm.Cond} {P : Jvm.Cond → Bool} (h1 : L.all (fun c => isCode c || P c) = true) (h2 : ∀ c ∈ L.filter isCode, P c = true) : L.all P = true := by
  refine List.all_eq_true.mpr fun c hc => ?_
  have h := List.all_eq_true.mp h1 c hc
  rcases Bool.eq_false_or_eq_true (isCode c) with hi | hi
  · exact h2 c (List.mem_filter.mpr ⟨hc, hi⟩)
  · simpa [hi] using h
set_option maxRecDepth 65536 in
theorem w_c0 : (Jvm.Cond.code x code maxLocals ret).before args0 about1 = true := code_word (m := ⟨1, 3⟩) (meth := k1m3) (c := k1c3) (by decide +kernel) rfl rfl rfl (by decide +kernel)
set_option maxRecDepth 65536 in
theorem w_c1 : (Jvm.Cond.code ({ cls := "com/example/dovetail_fields/dovetailfields/CommandLineArgumentsOptionNamePinLaw", name := "ch", desc := "(I)C" } : Jvm.MethodName) method_2_code (1 : Nat) (Option.some Jvm.ClassFile.FieldType.char)).before args0 about1 = true := code_word (m := ⟨1, 1⟩) (meth := k1m1) (c := k1c1) (by decide +kernel) rfl rfl rfl (by decide +kernel)
set_option maxRecDepth 65536 in
theorem w_c2 : (Jvm.Cond.code ({ cls := "com/example/dovetail_fields/dovetailfields/CommandLineArgumentsOptionNamePinLaw", name := "mk", desc := "(ICCCC)Ljava/lang/String;" } : Jvm.MethodName) method_3_code (5 : Nat) (Option.some (Jvm.ClassFile.FieldType.object "java/lang/String"))).before args0 about1 = true := code_word (m := ⟨1, 2⟩) (meth := k1m2) (c := k1c2) (by decide +kernel) rfl rfl rfl (by decide +kernel)
set_option maxRecDepth 65536 in
theorem w_c3 : (Jvm.Cond.code ({ cls := "java/lang/String", name := "<init>", desc := "([C)V" } : Jvm.MethodName) jdk_42_method_3_code (2 : Nat) (Option.none : Option Jvm.ClassFile.FieldType)).before args0 about1 = true := code_word (m := ⟨7, 1⟩) (meth := k7m1) (c := k7c1) (by decide +kernel) rfl rfl rfl (by decide +kernel)
set_option maxRecDepth 65536 in
theorem w_c4 : (Jvm.Cond.code ({ cls := "java/lang/String", name := "<init>", desc := "([CIILjava/lang/Void;)V" } : Jvm.MethodName) jdk_42_method_149_code (6 : Nat) (Option.none : Option Jvm.ClassFile.FieldType)).before args0 about1 = true := code_word (m := ⟨7, 7⟩) (meth := k7m7) (c := k7c7) (by decide +kernel) rfl rfl rfl (by decide +kernel)
set_option maxRecDepth 65536 in
theorem w_c5 : (Jvm.Cond.code ({ cls := "java/lang/Object", name := "<init>", desc := "()V" } : Jvm.MethodName) object_method_1_code (1 : Nat) (Option.none : Option Jvm.ClassFile.FieldType)).before args0 about1 = true := code_word (m := ⟨0, 0⟩) (meth := k0m0) (c := k0c0) (by decide +kernel) rfl rfl rfl (by decide +kernel)
set_option maxRecDepth 65536 in
theorem w_c6 : (Jvm.Cond.code ({ cls := "java/util/ArrayList", name := "<init>", desc := "()V" } : Jvm.MethodName) jdk_38_method_2_code (1 : Nat) (Option.none : Option Jvm.ClassFile.FieldType)).before args0 about1 = true := code_word (m := ⟨16, 0⟩) (meth := k16m0) (c := k16c0) (by decide +kernel) rfl rfl rfl (by decide +kernel)
set_option maxRecDepth 65536 in
theorem w_c7 : (Jvm.Cond.code ({ cls := "java/util/AbstractList", name := "<init>", desc := "()V" } : Jvm.MethodName) jdk_39_method_1_code (1 : Nat) (Option.none : Option Jvm.ClassFile.FieldType)).before args0 about1 = true := code_word (m := ⟨13, 0⟩) (meth := k13m0) (c := k13c0) (by decide +kernel) rfl rfl rfl (by decide +kernel)
set_option maxRecDepth 65536 in
theorem w_c8 : (Jvm.Cond.code ({ cls := "java/util/AbstractCollection", name := "<init>", desc := "()V" } : Jvm.MethodName) jdk_22_method_1_code (1 : Nat) (Option.none : Option Jvm.ClassFile.FieldType)).before args0 about1 = true := code_word (m := ⟨10, 0⟩) (meth := k10m0) (c := k10c0) (by decide +kernel) rfl rfl rfl (by decide +kernel)
set_option maxRecDepth 65536 in
theorem w_c9 : (Jvm.Cond.code ({ cls := "java/util/ArrayList", name := "add", desc := "(Ljava/lang/Object;)Z" } : Jvm.MethodName) jdk_38_method_25_code (2 : Nat) (Option.some Jvm.ClassFile.FieldType.boolean)).before args0 about1 = true := code_word (m := ⟨16, 4⟩) (meth := k16m4) (c := k16c4) (by decide +kernel) rfl rfl rfl (by decide +kernel)
set_option maxRecDepth 65536 in
theorem w_c10 : (Jvm.Cond.code ({ cls := "java/util/ArrayList", name := "add", desc := "(Ljava/lang/Object;[Ljava/lang/Object;I)V" } : Jvm.MethodName) jdk_38_method_24_code (4 : Nat) (Option.none : Option Jvm.ClassFile.FieldType)).before args0 about1 = true := code_word (m := ⟨16, 3⟩) (meth := k16m3) (c := k16c3) (by decide +kernel) rfl rfl rfl (by decide +kernel)
set_option maxRecDepth 65536 in
theorem w_c11 : (Jvm.Cond.code ({ cls := "java/util/ArrayList", name := "grow", desc := "()[Ljava/lang/Object;" } : Jvm.MethodName) jdk_38_method_7_code (1 : Nat) (Option.some (Jvm.ClassFile.FieldType.array (Jvm.ClassFile.FieldType.object "java/lang/Object")))).before args0 about1 = true := code_word (m := ⟨16, 2⟩) (meth := k16m2) (c := k16c2) (by decide +kernel) rfl rfl rfl (by decide +kernel)
set_option maxRecDepth 65536 in
theorem w_c12 : (Jvm.Cond.code ({ cls := "java/util/ArrayList", name := "grow", desc := "(I)[Ljava/lang/Object;" } : Jvm.MethodName) jdk_38_method_6_code (4 : Nat) (Option.some (Jvm.ClassFile.FieldType.array (Jvm.ClassFile.FieldType.object "java/lang/Object")))).before args0 about1 = true := code_word (m := ⟨16, 1⟩) (meth := k16m1) (c := k16c1) (by decide +kernel) rfl rfl rfl (by decide +kernel)
set_option maxRecDepth 65536 in
theorem w_c13 : (Jvm.Cond.code ({ cls := "java/lang/Math", name := "max", desc := "(II)I" } : Jvm.MethodName) jdk_29_method_65_code (2 : Nat) (Option.some Jvm.ClassFile.FieldType.int)).before args0 about1 = true := code_word (m := ⟨17, 1⟩) (meth := k17m1) (c := k17c1) (by decide +kernel) rfl rfl rfl (by decide +kernel)
set_option maxRecDepth 65536 in
theorem w_c14 : (Jvm.Cond.code ({ cls := "com/example/dovetail_fields/dovetailfields/CommandLineArguments", name := "<init>", desc := "(Ljava/util/List;)V" } : Jvm.MethodName) prog_4_method_1_code (2 : Nat) (Option.none : Option Jvm.ClassFile.FieldType)).before args0 about1 = true := code_word (m := ⟨18, 0⟩) (meth := k18m0) (c := k18c0) (by decide +kernel) rfl rfl rfl (by decide +kernel)
set_option maxRecDepth 65536 in
theorem w_c15 : (Jvm.Cond.code ({ cls := "java/util/ArrayList", name := "iterator", desc := "()Ljava/util/Iterator;" } : Jvm.MethodName) jdk_38_method_55_code (1 : Nat) (Option.some (Jvm.ClassFile.FieldType.object "java/util/Iterator"))).before args0 about1 = true := code_word (m := ⟨16, 5⟩) (meth := k16m5) (c := k16c5) (by decide +kernel) rfl rfl rfl (by decide +kernel)
set_option maxRecDepth 65536 in
theorem w_c16 : (Jvm.Cond.code ({ cls := "java/util/ArrayList$Itr", name := "<init>", desc := "(Ljava/util/ArrayList;)V" } : Jvm.MethodName) jdk_49_method_1_code (2 : Nat) (Option.none : Option Jvm.ClassFile.FieldType)).before args0 about1 = true := code_word (m := ⟨20, 0⟩) (meth := k20m0) (c := k20c0) (by decide +kernel) rfl rfl rfl (by decide +kernel)
set_option maxRecDepth 65536 in
theorem w_c17 : (Jvm.Cond.code ({ cls := "com/example/dovetail_fields/dovetailfields/CommandLineArguments", name := "next", desc := "()Ljava/lang/String;" } : Jvm.MethodName) prog_4_method_3_code (1 : Nat) (Option.some (Jvm.ClassFile.FieldType.object "java/lang/String"))).before args0 about1 = true := code_word (m := ⟨18, 1⟩) (meth := k18m1) (c := k18c1) (by decide +kernel) rfl rfl rfl (by decide +kernel)
set_option maxRecDepth 65536 in
theorem w_c18 : (Jvm.Cond.code ({ cls := "java/util/ArrayList$Itr", name := "next", desc := "()Ljava/lang/Object;" } : Jvm.MethodName) jdk_49_method_3_code (3 : Nat) (Option.some (Jvm.ClassFile.FieldType.object "java/lang/Object"))).before args0 about1 = true := code_word (m := ⟨20, 1⟩) (meth := k20m1) (c := k20c1) (by decide +kernel) rfl rfl rfl (by decide +kernel)
set_option maxRecDepth 65536 in
theorem w_c19 : (Jvm.Cond.code ({ cls := "java/util/ArrayList$Itr", name := "checkForComodification", desc := "()V" } : Jvm.MethodName) jdk_49_method_6_code (1 : Nat) (Option.none : Option Jvm.ClassFile.FieldType)).before args0 about1 = true := code_word (m := ⟨20, 2⟩) (meth := k20m2) (c := k20c2) (by decide +kernel) rfl rfl rfl (by decide +kernel)
set_option maxRecDepth 65536 in
theorem w_c20 : (Jvm.Cond.code ({ cls := "com/example/dovetail_fields/dovetailfields/CommandLineArguments", name := "optionName", desc := "()Ljava/lang/String;" } : Jvm.MethodName) prog_4_method_5_code (2 : Nat) (Option.some (Jvm.ClassFile.FieldType.object "java/lang/String"))).before args0 about1 = true := code_word (m := ⟨18, 2⟩) (meth := k18m2) (c := k18c2) (by decide +kernel) rfl rfl rfl (by decide +kernel)
set_option maxRecDepth 65536 in
theorem w_c21 : (Jvm.Cond.code ({ cls := "java/lang/String", name := "indexOf", desc := "(I)I" } : Jvm.MethodName) jdk_42_method_79_code (2 : Nat) (Option.some Jvm.ClassFile.FieldType.int)).before args0 about1 = true := code_word (m := ⟨7, 4⟩) (meth := k7m4) (c := k7c4) (by decide +kernel) rfl rfl rfl (by decide +kernel)
set_option maxRecDepth 65536 in
theorem w_c22 : (Jvm.Cond.code ({ cls := "java/lang/String", name := "indexOf", desc := "(II)I" } : Jvm.MethodName) jdk_42_method_80_code (3 : Nat) (Option.some Jvm.ClassFile.FieldType.int)).before args0 about1 = true := code_word (m := ⟨7, 5⟩) (meth := k7m5) (c := k7c5) (by decide +kernel) rfl rfl rfl (by decide +kernel)
set_option maxRecDepth 65536 in
theorem w_c23 : (Jvm.Cond.code ({ cls := "java/lang/String", name := "isLatin1", desc := "()Z" } : Jvm.MethodName) jdk_42_method_154_code (1 : Nat) (Option.some Jvm.ClassFile.FieldType.boolean)).before args0 about1 = true := code_word (m := ⟨7, 10⟩) (meth := k7m10) (c := k7c10) (by decide +kernel) rfl rfl rfl (by decide +kernel)
set_option maxRecDepth 65536 in
theorem w_c24 : (Jvm.Cond.code ({ cls := "java/lang/String", name := "length", desc := "()I" } : Jvm.MethodName) jdk_42_method_54_code (1 : Nat) (Option.some Jvm.ClassFile.FieldType.int)).before args0 about1 = true := code_word (m := ⟨7, 2⟩) (meth := k7m2) (c := k7c2) (by decide +kernel) rfl rfl rfl (by decide +kernel)
set_option maxRecDepth 65536 in
theorem w_c25 : (Jvm.Cond.code ({ cls := "java/lang/String", name := "coder", desc := "()B" } : Jvm.MethodName) jdk_42_method_152_code (1 : Nat) (Option.some Jvm.ClassFile.FieldType.byte)).before args0 about1 = true := code_word (m := ⟨7, 9⟩) (meth := k7m9) (c := k7c9) (by decide +kernel) rfl rfl rfl (by decide +kernel)
set_option maxRecDepth 65536 in
theorem w_c26 : (Jvm.Cond.code ({ cls := "java/lang/StringLatin1", name := "indexOf", desc := "([BIII)I" } : Jvm.MethodName) jdk_43_method_22_code (4 : Nat) (Option.some Jvm.ClassFile.FieldType.int)).before args0 about1 = true := code_word (m := ⟨21, 3⟩) (meth := k21m3) (c := k21c3) (by decide +kernel) rfl rfl rfl (by decide +kernel)
set_option maxRecDepth 65536 in
theorem w_c27 : (Jvm.Cond.code ({ cls := "java/lang/StringLatin1", name := "canEncode", desc := "(I)Z" } : Jvm.MethodName) jdk_43_method_4_code (1 : Nat) (Option.some Jvm.ClassFile.FieldType.boolean)).before args0 about1 = true := code_word (m := ⟨21, 1⟩) (meth := k21m1) (c := k21c1) (by decide +kernel) rfl rfl rfl (by decide +kernel)
set_option maxRecDepth 65536 in
theorem w_c28 : (Jvm.Cond.code ({ cls := "java/lang/Math", name := "min", desc := "(II)I" } : Jvm.MethodName) jdk_29_method_69_code (2 : Nat) (Option.some Jvm.ClassFile.FieldType.int)).before args0 about1 = true := code_word (m := ⟨17, 2⟩) (meth := k17m2) (c := k17c2) (by decide +kernel) rfl rfl rfl (by decide +kernel)
set_option maxRecDepth 65536 in
theorem w_c29 : (Jvm.Cond.code ({ cls := "java/lang/String", name := "equals", desc := "(Ljava/lang/Object;)Z" } : Jvm.MethodName) jdk_42_method_66_code (3 : Nat) (Option.some Jvm.ClassFile.FieldType.boolean)).before args0 about1 = true := code_word (m := ⟨7, 3⟩) (meth := k7m3) (c := k7c3) (by decide +kernel) rfl rfl rfl (by decide +kernel)
set_option maxRecDepth 65536 in
theorem w_c30 : (Jvm.Cond.code ({ cls := "java/lang/StringLatin1", name := "equals", desc := "([B[B)Z" } : Jvm.MethodName) jdk_43_method_13_code (3 : Nat) (Option.some Jvm.ClassFile.FieldType.boolean)).before args0 about1 = true := code_word (m := ⟨21, 2⟩) (meth := k21m2) (c := k21c2) (by decide +kernel) rfl rfl rfl (by decide +kernel)
set_option maxRecDepth 65536 in
theorem w_c31 : (Jvm.Cond.code ({ cls := "java/lang/StringUTF16", name := "compress", desc := "([CII)[B" } : Jvm.MethodName) jdk_52_method_16_code (6 : Nat) (Option.some (Jvm.ClassFile.FieldType.array Jvm.ClassFile.FieldType.byte))).before args0 about1 = true := code_word (m := ⟨22, 2⟩) (meth := k22m2) (c := k22c2) (by decide +kernel) rfl rfl rfl (by decide +kernel)
set_option maxRecDepth 65536 in
theorem w_c32 : (Jvm.Cond.code ({ cls := "java/lang/StringUTF16", name := "compress", desc := "([CI[BII)I" } : Jvm.MethodName) jdk_52_method_21_code (7 : Nat) (Option.some Jvm.ClassFile.FieldType.int)).before args0 about1 = true := code_word (m := ⟨22, 3⟩) (meth := k22m3) (c := k22c3) (by decide +kernel) rfl rfl rfl (by decide +kernel)
set_option maxRecDepth 65536 in
theorem w_c33 : (Jvm.Cond.code ({ cls := "java/lang/StringUTF16", name := "coderFromArrayLen", desc := "([BI)B" } : Jvm.MethodName) jdk_52_method_15_code (2 : Nat) (Option.some Jvm.ClassFile.FieldType.byte)).before args0 about1 = true := code_word (m := ⟨22, 1⟩) (meth := k22m1) (c := k22c1) (by decide +kernel) rfl rfl rfl (by decide +kernel)
set_option maxRecDepth 65536 in
theorem w_c34 : (Jvm.Cond.code ({ cls := "java/lang/StringLatin1", name := "indexOfChar", desc := "([BIII)I" } : Jvm.MethodName) jdk_43_method_23_code (6 : Nat) (Option.some Jvm.ClassFile.FieldType.int)).before args0 about1 = true := code_word (m := ⟨21, 4⟩) (meth := k21m4) (c := k21c4) (by decide +kernel) rfl rfl rfl (by decide +kernel)
set_option maxRecDepth 65536 in
theorem w_c35 : (Jvm.Cond.code ({ cls := "java/lang/String", name := "substring", desc := "(II)Ljava/lang/String;" } : Jvm.MethodName) jdk_42_method_92_code (5 : Nat) (Option.some (Jvm.ClassFile.FieldType.object "java/lang/String"))).before args0 about1 = true := code_word (m := ⟨7, 6⟩) (meth := k7m6) (c := k7c6) (by decide +kernel) rfl rfl rfl (by decide +kernel)
set_option maxRecDepth 65536 in
theorem w_c36 : (Jvm.Cond.code ({ cls := "java/lang/String", name := "checkBoundsBeginEnd", desc := "(III)V" } : Jvm.MethodName) jdk_42_method_158_code (3 : Nat) (Option.none : Option Jvm.ClassFile.FieldType)).before args0 about1 = true := code_word (m := ⟨7, 11⟩) (meth := k7m11) (c := k7c11) (by decide +kernel) rfl rfl rfl (by decide +kernel)
set_option maxRecDepth 65536 in
theorem w_c37 : (Jvm.Cond.code ({ cls := "jdk/internal/util/Preconditions", name := "checkFromToIndex", desc := "(IIILjava/util/function/BiFunction;)I" } : Jvm.MethodName) jdk_41_method_12_code (4 : Nat) (Option.some Jvm.ClassFile.FieldType.int)).before args0 about1 = true := code_word (m := ⟨23, 1⟩) (meth := k23m1) (c := k23c1) (by decide +kernel) rfl rfl rfl (by decide +kernel)
set_option maxRecDepth 65536 in
theorem w_c38 : (Jvm.Cond.code ({ cls := "java/lang/StringLatin1", name := "newString", desc := "([BII)Ljava/lang/String;" } : Jvm.MethodName) jdk_43_method_47_code (3 : Nat) (Option.some (Jvm.ClassFile.FieldType.object "java/lang/String"))).before args0 about1 = true := code_word (m := ⟨21, 5⟩) (meth := k21m5) (c := k21c5) (by decide +kernel) rfl rfl rfl (by decide +kernel)
set_option maxRecDepth 65536 in
theorem w_c39 : (Jvm.Cond.code ({ cls := "java/util/Arrays", name := "copyOfRange", desc := "([BII)[B" } : Jvm.MethodName) jdk_65_method_132_code (3 : Nat) (Option.some (Jvm.ClassFile.FieldType.array Jvm.ClassFile.FieldType.byte))).before args0 about1 = true := code_word (m := ⟨24, 2⟩) (meth := k24m2) (c := k24c2) (by decide +kernel) rfl rfl rfl (by decide +kernel)
set_option maxRecDepth 65536 in
theorem w_c40 : (Jvm.Cond.code ({ cls := "java/util/Arrays", name := "copyOfRangeByte", desc := "([BII)[B" } : Jvm.MethodName) jdk_65_method_133_code (5 : Nat) (Option.some (Jvm.ClassFile.FieldType.array Jvm.ClassFile.FieldType.byte))).before args0 about1 = true := code_word (m := ⟨24, 3⟩) (meth := k24m3) (c := k24c3) (by decide +kernel) rfl rfl rfl (by decide +kernel)
set_option maxRecDepth 65536 in
theorem w_c41 : (Jvm.Cond.code ({ cls := "java/util/Arrays", name := "checkLength", desc := "(II)V" } : Jvm.MethodName) jdk_65_method_131_code (2 : Nat) (Option.none : Option Jvm.ClassFile.FieldType)).before args0 about1 = true := code_word (m := ⟨24, 1⟩) (meth := k24m1) (c := k24c1) (by decide +kernel) rfl rfl rfl (by decide +kernel)
set_option maxRecDepth 65536 in
theorem w_c42 : (Jvm.Cond.code ({ cls := "java/lang/String", name := "<init>", desc := "([BB)V" } : Jvm.MethodName) jdk_42_method_151_code (3 : Nat) (Option.none : Option Jvm.ClassFile.FieldType)).before args0 about1 = true := code_word (m := ⟨7, 8⟩) (meth := k7m8) (c := k7c8) (by decide +kernel) rfl rfl rfl (by decide +kernel)
def codes1 : List Jvm.Cond := [Jvm.Cond.code x code maxLocals ret, Jvm.Cond.code ({ cls := "com/example/dovetail_fields/dovetailfields/CommandLineArgumentsOptionNamePinLaw", name := "ch", desc := "(I)C" } : Jvm.MethodName) method_2_code (1 : Nat) (Option.some Jvm.ClassFile.FieldType.char), Jvm.Cond.code ({ cls := "com/example/dovetail_fields/dovetailfields/CommandLineArgumentsOptionNamePinLaw", name := "mk", desc := "(ICCCC)Ljava/lang/String;" } : Jvm.MethodName) method_3_code (5 : Nat) (Option.some (Jvm.ClassFile.FieldType.object "java/lang/String")), Jvm.Cond.code ({ cls := "java/lang/String", name := "<init>", desc := "([C)V" } : Jvm.MethodName) jdk_42_method_3_code (2 : Nat) (Option.none : Option Jvm.ClassFile.FieldType), Jvm.Cond.code ({ cls := "java/lang/String", name := "<init>", desc := "([CIILjava/lang/Void;)V" } : Jvm.MethodName) jdk_42_method_149_code (6 : Nat) (Option.none : Option Jvm.ClassFile.FieldType), Jvm.Cond.code ({ cls := "java/lang/Object", name := "<init>", desc := "()V" } : Jvm.MethodName) object_method_1_code (1 : Nat) (Option.none : Option Jvm.ClassFile.FieldType), Jvm.Cond.code ({ cls := "java/util/ArrayList", name := "<init>", desc := "()V" } : Jvm.MethodName) jdk_38_method_2_code (1 : Nat) (Option.none : Option Jvm.ClassFile.FieldType), Jvm.Cond.code ({ cls := "java/util/AbstractList", name := "<init>", desc := "()V" } : Jvm.MethodName) jdk_39_method_1_code (1 : Nat) (Option.none : Option Jvm.ClassFile.FieldType), Jvm.Cond.code ({ cls := "java/util/AbstractCollection", name := "<init>", desc := "()V" } : Jvm.MethodName) jdk_22_method_1_code (1 : Nat) (Option.none : Option Jvm.ClassFile.FieldType), Jvm.Cond.code ({ cls := "java/util/ArrayList", name := "add", desc := "(Ljava/lang/Object;)Z" } : Jvm.MethodName) jdk_38_method_25_code (2 : Nat) (Option.some Jvm.ClassFile.FieldType.boolean), Jvm.Cond.code ({ cls := "java/util/ArrayList", name := "add", desc := "(Ljava/lang/Object;[Ljava/lang/Object;I)V" } : Jvm.MethodName) jdk_38_method_24_code (4 : Nat) (Option.none : Option Jvm.ClassFile.FieldType), Jvm.Cond.code ({ cls := "java/util/ArrayList", name := "grow", desc := "()[Ljava/lang/Object;" } : Jvm.MethodName) jdk_38_method_7_code (1 : Nat) (Option.some (Jvm.ClassFile.FieldType.array (Jvm.ClassFile.FieldType.object "java/lang/Object"))), Jvm.Cond.code ({ cls := "java/util/ArrayList", name := "grow", desc := "(I)[Ljava/lang/Object;" } : Jvm.MethodName) jdk_38_method_6_code (4 : Nat) (Option.some (Jvm.ClassFile.FieldType.array (Jvm.ClassFile.FieldType.object "java/lang/Object"))), Jvm.Cond.code ({ cls := "java/lang/Math", name := "max", desc := "(II)I" } : Jvm.MethodName) jdk_29_method_65_code (2 : Nat) (Option.some Jvm.ClassFile.FieldType.int), Jvm.Cond.code ({ cls := "com/example/dovetail_fields/dovetailfields/CommandLineArguments", name := "<init>", desc := "(Ljava/util/List;)V" } : Jvm.MethodName) prog_4_method_1_code (2 : Nat) (Option.none : Option Jvm.ClassFile.FieldType), Jvm.Cond.code ({ cls := "java/util/ArrayList", name := "iterator", desc := "()Ljava/util/Iterator;" } : Jvm.MethodName) jdk_38_method_55_code (1 : Nat) (Option.some (Jvm.ClassFile.FieldType.object "java/util/Iterator")), Jvm.Cond.code ({ cls := "java/util/ArrayList$Itr", name := "<init>", desc := "(Ljava/util/ArrayList;)V" } : Jvm.MethodName) jdk_49_method_1_code (2 : Nat) (Option.none : Option Jvm.ClassFile.FieldType), Jvm.Cond.code ({ cls := "com/example/dovetail_fields/dovetailfields/CommandLineArguments", name := "next", desc := "()Ljava/lang/String;" } : Jvm.MethodName) prog_4_method_3_code (1 : Nat) (Option.some (Jvm.ClassFile.FieldType.object "java/lang/String")), Jvm.Cond.code ({ cls := "java/util/ArrayList$Itr", name := "next", desc := "()Ljava/lang/Object;" } : Jvm.MethodName) jdk_49_method_3_code (3 : Nat) (Option.some (Jvm.ClassFile.FieldType.object "java/lang/Object")), Jvm.Cond.code ({ cls := "java/util/ArrayList$Itr", name := "checkForComodification", desc := "()V" } : Jvm.MethodName) jdk_49_method_6_code (1 : Nat) (Option.none : Option Jvm.ClassFile.FieldType), Jvm.Cond.code ({ cls := "com/example/dovetail_fields/dovetailfields/CommandLineArguments", name := "optionName", desc := "()Ljava/lang/String;" } : Jvm.MethodName) prog_4_method_5_code (2 : Nat) (Option.some (Jvm.ClassFile.FieldType.object "java/lang/String")), Jvm.Cond.code ({ cls := "java/lang/String", name := "indexOf", desc := "(I)I" } : Jvm.MethodName) jdk_42_method_79_code (2 : Nat) (Option.some Jvm.ClassFile.FieldType.int), Jvm.Cond.code ({ cls := "java/lang/String", name := "indexOf", desc := "(II)I" } : Jvm.MethodName) jdk_42_method_80_code (3 : Nat) (Option.some Jvm.ClassFile.FieldType.int), Jvm.Cond.code ({ cls := "java/lang/String", name := "isLatin1", desc := "()Z" } : Jvm.MethodName) jdk_42_method_154_code (1 : Nat) (Option.some Jvm.ClassFile.FieldType.boolean), Jvm.Cond.code ({ cls := "java/lang/String", name := "length", desc := "()I" } : Jvm.MethodName) jdk_42_method_54_code (1 : Nat) (Option.some Jvm.ClassFile.FieldType.int), Jvm.Cond.code ({ cls := "java/lang/String", name := "coder", desc := "()B" } : Jvm.MethodName) jdk_42_method_152_code (1 : Nat) (Option.some Jvm.ClassFile.FieldType.byte), Jvm.Cond.code ({ cls := "java/lang/StringLatin1", name := "indexOf", desc := "([BIII)I" } : Jvm.MethodName) jdk_43_method_22_code (4 : Nat) (Option.some Jvm.ClassFile.FieldType.int), Jvm.Cond.code ({ cls := "java/lang/StringLatin1", name := "canEncode", desc := "(I)Z" } : Jvm.MethodName) jdk_43_method_4_code (1 : Nat) (Option.some Jvm.ClassFile.FieldType.boolean), Jvm.Cond.code ({ cls := "java/lang/Math", name := "min", desc := "(II)I" } : Jvm.MethodName) jdk_29_method_69_code (2 : Nat) (Option.some Jvm.ClassFile.FieldType.int), Jvm.Cond.code ({ cls := "java/lang/String", name := "equals", desc := "(Ljava/lang/Object;)Z" } : Jvm.MethodName) jdk_42_method_66_code (3 : Nat) (Option.some Jvm.ClassFile.FieldType.boolean), Jvm.Cond.code ({ cls := "java/lang/StringLatin1", name := "equals", desc := "([B[B)Z" } : Jvm.MethodName) jdk_43_method_13_code (3 : Nat) (Option.some Jvm.ClassFile.FieldType.boolean), Jvm.Cond.code ({ cls := "java/lang/StringUTF16", name := "compress", desc := "([CII)[B" } : Jvm.MethodName) jdk_52_method_16_code (6 : Nat) (Option.some (Jvm.ClassFile.FieldType.array Jvm.ClassFile.FieldType.byte)), Jvm.Cond.code ({ cls := "java/lang/StringUTF16", name := "compress", desc := "([CI[BII)I" } : Jvm.MethodName) jdk_52_method_21_code (7 : Nat) (Option.some Jvm.ClassFile.FieldType.int), Jvm.Cond.code ({ cls := "java/lang/StringUTF16", name := "coderFromArrayLen", desc := "([BI)B" } : Jvm.MethodName) jdk_52_method_15_code (2 : Nat) (Option.some Jvm.ClassFile.FieldType.byte), Jvm.Cond.code ({ cls := "java/lang/StringLatin1", name := "indexOfChar", desc := "([BIII)I" } : Jvm.MethodName) jdk_43_method_23_code (6 : Nat) (Option.some Jvm.ClassFile.FieldType.int), Jvm.Cond.code ({ cls := "java/lang/String", name := "substring", desc := "(II)Ljava/lang/String;" } : Jvm.MethodName) jdk_42_method_92_code (5 : Nat) (Option.some (Jvm.ClassFile.FieldType.object "java/lang/String")), Jvm.Cond.code ({ cls := "java/lang/String", name := "checkBoundsBeginEnd", desc := "(III)V" } : Jvm.MethodName) jdk_42_method_158_code (3 : Nat) (Option.none : Option Jvm.ClassFile.FieldType), Jvm.Cond.code ({ cls := "jdk/internal/util/Preconditions", name := "checkFromToIndex", desc := "(IIILjava/util/function/BiFunction;)I" } : Jvm.MethodName) jdk_41_method_12_code (4 : Nat) (Option.some Jvm.ClassFile.FieldType.int), Jvm.Cond.code ({ cls := "java/lang/StringLatin1", name := "newString", desc := "([BII)Ljava/lang/String;" } : Jvm.MethodName) jdk_43_method_47_code (3 : Nat) (Option.some (Jvm.ClassFile.FieldType.object "java/lang/String")), Jvm.Cond.code ({ cls := "java/util/Arrays", name := "copyOfRange", desc := "([BII)[B" } : Jvm.MethodName) jdk_65_method_132_code (3 : Nat) (Option.some (Jvm.ClassFile.FieldType.array Jvm.ClassFile.FieldType.byte)), Jvm.Cond.code ({ cls := "java/util/Arrays", name := "copyOfRangeByte", desc := "([BII)[B" } : Jvm.MethodName) jdk_65_method_133_code (5 : Nat) (Option.some (Jvm.ClassFile.FieldType.array Jvm.ClassFile.FieldType.byte)), Jvm.Cond.code ({ cls := "java/util/Arrays", name := "checkLength", desc := "(II)V" } : Jvm.MethodName) jdk_65_method_131_code (2 : Nat) (Option.none : Option Jvm.ClassFile.FieldType), Jvm.Cond.code ({ cls := "java/lang/String", name := "<init>", desc := "([BB)V" } : Jvm.MethodName) jdk_42_method_151_code (3 : Nat) (Option.none : Option Jvm.ClassFile.FieldType)]
set_option maxRecDepth 65536 in
theorem codes_eq : words1.filter isCode = codes1 := rfl
theorem w_codes : ∀ c ∈ words1.filter isCode, c.before args0 about1 = true := by
  rw [codes_eq]
  intro c hc
  simp only [codes1, List.mem_cons, List.not_mem_nil, or_false] at hc
  rcases hc with rfl | rfl | rfl | rfl | rfl | rfl | rfl | rfl | rfl | rfl | rfl | rfl | rfl | rfl | rfl | rfl | rfl | rfl | rfl | rfl | rfl | rfl | rfl | rfl | rfl | rfl | rfl | rfl | rfl | rfl | rfl | rfl | rfl | rfl | rfl | rfl | rfl | rfl | rfl | rfl | rfl | rfl | rfl
  · exact w_c0
  · exact w_c1
  · exact w_c2
  · exact w_c3
  · exact w_c4
  · exact w_c5
  · exact w_c6
  · exact w_c7
  · exact w_c8
  · exact w_c9
  · exact w_c10
  · exact w_c11
  · exact w_c12
  · exact w_c13
  · exact w_c14
  · exact w_c15
  · exact w_c16
  · exact w_c17
  · exact w_c18
  · exact w_c19
  · exact w_c20
  · exact w_c21
  · exact w_c22
  · exact w_c23
  · exact w_c24
  · exact w_c25
  · exact w_c26
  · exact w_c27
  · exact w_c28
  · exact w_c29
  · exact w_c30
  · exact w_c31
  · exact w_c32
  · exact w_c33
  · exact w_c34
  · exact w_c35
  · exact w_c36
  · exact w_c37
  · exact w_c38
  · exact w_c39
  · exact w_c40
  · exact w_c41
  · exact w_c42
set_option maxRecDepth 65536 in
theorem w_t1 : (words1.take 24).all (fun c => isCode c || c.before args0 about1) = true := by decide +kernel
set_option maxRecDepth 65536 in
theorem w_t2 : ((words1.drop 24).take 24).all (fun c => isCode c || c.before args0 about1) = true := by decide +kernel
set_option maxRecDepth 65536 in
theorem w_t3 : (((words1.drop 24).drop 24).take 24).all (fun c => isCode c || c.before args0 about1) = true := by decide +kernel
set_option maxRecDepth 65536 in
theorem w_t4 : ((((words1.drop 24).drop 24).drop 24).take 24).all (fun c => isCode c || c.before args0 about1) = true := by decide +kernel
set_option maxRecDepth 65536 in
theorem w_t5 : (((((words1.drop 24).drop 24).drop 24).drop 24).take 24).all (fun c => isCode c || c.before args0 about1) = true := by decide +kernel
set_option maxRecDepth 65536 in
theorem w_t6 : ((((((words1.drop 24).drop 24).drop 24).drop 24).drop 24).take 24).all (fun c => isCode c || c.before args0 about1) = true := by decide +kernel
set_option maxRecDepth 65536 in
theorem w_t7 : (((((((words1.drop 24).drop 24).drop 24).drop 24).drop 24).drop 24).take 24).all (fun c => isCode c || c.before args0 about1) = true := by decide +kernel
set_option maxRecDepth 65536 in
theorem w_t8 : ((((((((words1.drop 24).drop 24).drop 24).drop 24).drop 24).drop 24).drop 24).take 24).all (fun c => isCode c || c.before args0 about1) = true := by decide +kernel
set_option maxRecDepth 65536 in
theorem w_t9 : (((((((((words1.drop 24).drop 24).drop 24).drop 24).drop 24).drop 24).drop 24).drop 24).take 24).all (fun c => isCode c || c.before args0 about1) = true := by decide +kernel
set_option maxRecDepth 65536 in
theorem w_t10 : ((((((((((words1.drop 24).drop 24).drop 24).drop 24).drop 24).drop 24).drop 24).drop 24).drop 24).take 24).all (fun c => isCode c || c.before args0 about1) = true := by decide +kernel
set_option maxRecDepth 65536 in
theorem w_t11 : ((((((((((words1.drop 24).drop 24).drop 24).drop 24).drop 24).drop 24).drop 24).drop 24).drop 24).drop 24).all (fun c => isCode c || c.before args0 about1) = true := by decide +kernel
theorem w_tables : (allAtoms (Jvm.Cond.code x code maxLocals ret :: tables_1)).before args0 about1 = true := by
  rw [allAtoms_all]
  show words1.all (fun c => c.before args0 about1) = true
  refine all_split ?_ w_codes
  rw [← List.take_append_drop 24 words1, List.all_append, w_t1, ← List.take_append_drop 24 (words1.drop 24), List.all_append, w_t2, ← List.take_append_drop 24 ((words1.drop 24).drop 24), List.all_append, w_t3, ← List.take_append_drop 24 (((words1.drop 24).drop 24).drop 24), List.all_append, w_t4, ← List.take_append_drop 24 ((((words1.drop 24).drop 24).drop 24).drop 24), List.all_append, w_t5, ← List.take_append_drop 24 (((((words1.drop 24).drop 24).drop 24).drop 24).drop 24), List.all_append, w_t6, ← List.take_append_drop 24 ((((((words1.drop 24).drop 24).drop 24).drop 24).drop 24).drop 24), List.all_append, w_t7, ← List.take_append_drop 24 (((((((words1.drop 24).drop 24).drop 24).drop 24).drop 24).drop 24).drop 24), List.all_append, w_t8, ← List.take_append_drop 24 ((((((((words1.drop 24).drop 24).drop 24).drop 24).drop 24).drop 24).drop 24).drop 24), List.all_append, w_t9, ← List.take_append_drop 24 (((((((((words1.drop 24).drop 24).drop 24).drop 24).drop 24).drop 24).drop 24).drop 24).drop 24), List.all_append, w_t10, w_t11]
  rfl
set_option maxRecDepth 65536 in
theorem w_rest : rest_1_c.before args0 about1 = true := by decide +kernel
set_option maxRecDepth 65536 in
theorem w_case : (Jvm.Cond.and given_1 narrow_1).before args0 about1 = true := by decide +kernel
set_option maxRecDepth 65536 in
theorem w_consts : constsHeld consts_1 about1 := Jvm.Lit.constsHeldB_iff.mp (by decide +kernel)
theorem w_applies : (headSpec (Jvm.Cond.code x code maxLocals ret :: tables_1) room_1).applies x e0.platform about1 = true :=
  (Spec.applies_iff w_frames).mpr ⟨w_running, w_runnable, w_alone, w_named, w_hears, w_ripe, w_room, w_tables⟩
theorem atStart : AtStart classFile x code maxLocals ret World_1 tables_1 room_1 Calls_1 rest_1 Pre_1 launch0 p0 e0 about1 theMethod args0 below0 :=
  ⟨lists_1, trivial, launch0.admits_env _ _ _, launch0.least_env, fairChoices_fair.cas, fairChoices_fair.clock, w_frames, w_args, w_heap, w_applies, ⟨w_consts, trivial⟩, w_rest, w_case⟩
end start1
theorem witness_1 : WitnessClaimed_1 := ⟨start1.p0, start1.e0, start1.about1, start1.theMethod, start1.args0, start1.below0, start1.atStart⟩
end Jvm.Pilot.@@N@@
