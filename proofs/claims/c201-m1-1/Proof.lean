import JvmDerived
import JvmDerived.Pilot.@@N@@Statement
import JvmDerived.Pilot.@@N@@Code
set_option linter.unusedVariables false
set_option linter.unusedSimpArgs false
/- laws to paste: Road.lenW, Road.chN (cut by pick.py; bodies as the Statement names them) -/
namespace Jvm.Pilot.@@N@@
namespace StrChars
open Jvm Sem ClassFile Op Lib Jvm.Stand Jvm.Free.XT Jvm.Free.ALB Jvm.Free.JM Jvm.Free
open Jvm.Lib.Cold (StaticIs)
/-- the byte that i2b leaves of a char -/
def lo8 (x : Int32) : Int32 := x.toInt8.toInt32
def U16 : String := "java/lang/StringUTF16"
namespace Cmp5
def yN : MethodName := ⟨"java/lang/StringUTF16", "compress", "([CI[BII)I"⟩
abbrev yB : ByteArray := jdk_52_method_21_code
end Cmp5
namespace Cmp3
def yN : MethodName := ⟨"java/lang/StringUTF16", "compress", "([CII)[B"⟩
abbrev yB : ByteArray := jdk_52_method_16_code
end Cmp3
namespace CodL
def yN : MethodName := ⟨"java/lang/StringUTF16", "coderFromArrayLen", "([BI)B"⟩
abbrev yB : ByteArray := jdk_52_method_15_code
end CodL
namespace New4
def yN : MethodName := ⟨"java/lang/String", "<init>", "([CIILjava/lang/Void;)V"⟩
abbrev yB : ByteArray := jdk_42_method_149_code
end New4
namespace New1
def yN : MethodName := ⟨"java/lang/String", "<init>", "([C)V"⟩
abbrev yB : ByteArray := jdk_42_method_3_code
end New1
/-- the byte, read back as charAt reads it, is the char -/
theorem lo8_mask {x : Int32} (h0 : ¬ x < 0) (h1 : ¬ 255 < x) : lo8 x &&& 255 = x := by
  have t : ∀ k : Fin 256, lo8 (Int32.ofNat k.val) &&& 255 = Int32.ofNat k.val := by decide +kernel
  rw [Int32.lt_iff_toInt_lt] at h0 h1
  have e0 : (0 : Int32).toInt = 0 := rfl
  have e1 : (255 : Int32).toInt = 255 := rfl
  obtain ⟨k, hk⟩ : ∃ k : Nat, x.toInt = k := ⟨x.toInt.toNat, by omega⟩
  have hx : x = Int32.ofNat k := Int32.toInt_inj.mp (by rw [hk, Int32.toInt_ofNat_small (by omega)])
  rw [hx]
  exact t ⟨k, by omega⟩
end StrChars
namespace StrChars.Road
open Jvm Sem ClassFile Op Lib Jvm.Stand Jvm.Free Jvm.Free.XT
open Jvm.Lib.Cold (StaticIs)
abbrev ST : String := "java/lang/String"
/-- every table word that New1's law asks, flat -/
abbrev words : List Jvm.Cond := [.code New1.yN New1.yB 2 none, .initialized ST, .methodLink ST 27 New4.yN, .instanceMethod New4.yN,
  .code New4.yN New4.yB 6 none, .fieldLink ST 38 ST "COMPACT_STRINGS" "Z", .laysFinal ST ST "value" "[B", .fieldLink ST 9 ST "value" "[B", .laysFinal ST ST "coder" "B", .fieldLink ST 15 ST "coder" "B",
  .methodLink ST 1 Lib.objectInit, .instanceMethod Lib.objectInit, .code Lib.objectInit ⟨#[0xb1]⟩ 1 none, .methodLink ST 177 Cmp3.yN, .static Cmp3.yN, .methodLink ST 47 CodL.yN, .static CodL.yN,
  .code Cmp3.yN Cmp3.yB 6 (some (.array .byte)), .initialized U16, .arrayClass .byte, .methodLink U16 115 Cmp5.yN, .static Cmp5.yN, .code Cmp5.yN Cmp5.yB 7 (some .int), .code CodL.yN CodL.yB 2 (some .byte)]
end StrChars.Road
namespace StrChars
open Jvm Sem ClassFile Op Lib Jvm.Stand Jvm.Free.XT Jvm.Free.ALB Jvm.Free.JM Jvm.Free
open Jvm.Lib.Cold (StaticIs)
def hi8 (x : Int32) : Int32 := lo8 (x >>> ((8 : Int32) &&& 31))
/-- what StringUTF16.getChar makes of two bytes -/
def pairCh (u v : Int32) : Int32 := (((u &&& 255) <<< ((0 : Int32) &&& 31)) ||| ((v &&& 255) <<< ((8 : Int32) &&& 31))).toUInt32.toUInt16.toUInt32.toInt32
theorem shr0 (c : Int32) : c >>> ((0 : Int32) &&& 31) = c := by
  have e : ((0 : Int32) &&& 31) = 0 := by decide
  rw [e]
  apply Int32.toBitVec_inj.mp
  rw [Int32.toBitVec_shiftRight]
  have e1 : ((0 : Int32).toBitVec.smod 32) = 0#32 := by decide
  rw [e1, BitVec.sshiftRight_eq']
  exact BitVec.sshiftRight_zero
theorem lo8_and (x : Int32) : (lo8 x &&& 255).toBitVec.toNat = x.toBitVec.toNat % 256 := by
  have h : (lo8 x).toBitVec = (x.toBitVec.signExtend 8).signExtend 32 := by rw [lo8, Int8.toBitVec_toInt32, Int32.toBitVec_toInt8]
  rw [Int32.toBitVec_and, BitVec.toNat_and, h]
  have e : ((x.toBitVec.signExtend 8).signExtend 32).toNat % 256 = x.toBitVec.toNat % 256 := by
    rw [BitVec.toNat_signExtend]
    have hlt := x.toBitVec.isLt
    simp only [BitVec.toNat_setWidth, BitVec.toNat_signExtend]
    split <;> split <;> omega
  rw [← e]
  exact Nat.and_two_pow_sub_one_eq_mod _ 8
theorem pair_says {c : Int32} (h0 : ¬ c < 0) (h1 : ¬ 65535 < c) : pairCh (lo8 c) (hi8 c) = c := by
  rw [Int32.lt_iff_toInt_lt] at h0 h1
  have e0 : (0 : Int32).toInt = 0 := rfl
  have e1 : (65535 : Int32).toInt = 65535 := rfl
  have hc : c.toInt = c.toBitVec.toNat := by
    have := c.toBitVec.isLt
    have e : c.toInt = c.toBitVec.toInt := rfl
    rw [e] at h0 h1
    rw [e]
    rw [BitVec.toInt_eq_toNat_cond] at h0 h1 ⊢
    split at h0 <;> split <;> omega
  have hn : c.toBitVec.toNat < 65536 := by omega
  have a1 := lo8_and c
  have a2 : (hi8 c &&& 255).toBitVec.toNat = c.toBitVec.toNat / 256 := by
    rw [hi8, lo8_and]
    have e : ((8 : Int32) &&& 31) = 8 := by decide
    rw [e, Int32.toBitVec_shiftRight]
    have e2 : ((8 : Int32).toBitVec.smod 32) = 8#32 := by decide
    rw [e2, BitVec.sshiftRight_eq', BitVec.toNat_sshiftRight_of_msb_false (by rw [BitVec.msb_eq_false_iff_two_mul_lt]; omega)]
    show c.toBitVec.toNat >>> 8 % 256 = _
    rw [Nat.shiftRight_eq_div_pow]
    omega
  unfold pairCh
  apply Int32.toBitVec_inj.mp
  apply BitVec.eq_of_toNat_eq
  have f0 : ((0 : Int32) &&& 31) = 0 := by decide
  have f8 : ((8 : Int32) &&& 31) = 8 := by decide
  rw [f0, f8]
  have g : (((lo8 c &&& 255) <<< (0 : Int32)) ||| ((hi8 c &&& 255) <<< (8 : Int32))).toBitVec.toNat = c.toBitVec.toNat := by
    rw [Int32.toBitVec_or, Int32.toBitVec_shiftLeft, Int32.toBitVec_shiftLeft]
    have s0 : ((0 : Int32).toBitVec.smod 32) = 0#32 := by decide
    have s8 : ((8 : Int32).toBitVec.smod 32) = 8#32 := by decide
    rw [s0, s8, BitVec.toNat_or]
    simp only [BitVec.shiftLeft_eq', BitVec.toNat_shiftLeft, a1, a2]
    show (c.toBitVec.toNat % 256) <<< 0 % 2 ^ 32 ||| (c.toBitVec.toNat / 256) <<< 8 % 2 ^ 32 = _
    rw [Nat.shiftLeft_zero, Nat.mod_eq_of_lt (show c.toBitVec.toNat % 256 < 2 ^ 32 by omega), Nat.mod_eq_of_lt (show (c.toBitVec.toNat / 256) <<< 8 < 2 ^ 32 by rw [Nat.shiftLeft_eq]; omega), Nat.or_comm, ← Nat.shiftLeft_add_eq_or_of_lt (by omega), Nat.shiftLeft_eq]
    omega
  show BitVec.toNat (((((lo8 c &&& 255) <<< (0 : Int32)) ||| ((hi8 c &&& 255) <<< (8 : Int32))).toBitVec.setWidth 16).setWidth 32) = _
  rw [BitVec.toNat_setWidth, BitVec.toNat_setWidth, g]
  omega
end StrChars
namespace StrChars
open Jvm Sem ClassFile Op Lib Jvm.Stand Jvm.Free.XT Jvm.Free.ALB Jvm.Free.JM Jvm.Free
open Jvm.Lib.Cold (StaticIs)
theorem shr1 {n : Nat} (h : 2 * n < 2 ^ 31) : Int32.ofNat (2 * n) >>> ((1 : Int32) &&& 31) = Int32.ofNat n := by
  have e : ((1 : Int32) &&& 31) = 1 := by decide
  rw [e]
  apply Int32.toBitVec_inj.mp
  rw [Int32.toBitVec_shiftRight]
  have e1 : ((1 : Int32).toBitVec.smod 32) = 1#32 := by decide
  have hm : (BitVec.ofNat 32 (2 * n)).toNat = 2 * n := by rw [BitVec.toNat_ofNat, Nat.mod_eq_of_lt (by omega)]
  rw [e1, BitVec.sshiftRight_eq']
  apply BitVec.eq_of_toNat_eq
  show ((BitVec.ofNat 32 (2 * n)).sshiftRight 1).toNat = (BitVec.ofNat 32 n).toNat
  rw [BitVec.toNat_sshiftRight_of_msb_false (by rw [BitVec.msb_eq_false_iff_two_mul_lt, hm]; omega), hm, BitVec.toNat_ofNat, Nat.shiftRight_eq_div_pow]
  omega
/-- charAt's cast of a byte read back -/
def chr8 (u : Int32) : Int32 := (u &&& 255).toUInt32.toUInt16.toUInt32.toInt32
theorem chr8_lo8 {c : Int32} (h0 : ¬ c < 0) (h1 : ¬ 255 < c) : chr8 (lo8 c) = c := by
  have t : ∀ k : Fin 256, (Int32.ofNat k.val).toUInt32.toUInt16.toUInt32.toInt32 = Int32.ofNat k.val := by decide +kernel
  unfold chr8
  rw [lo8_mask h0 h1]
  rw [Int32.lt_iff_toInt_lt] at h0 h1
  have e0 : (0 : Int32).toInt = 0 := rfl
  have e1 : (255 : Int32).toInt = 255 := rfl
  obtain ⟨k, hk⟩ : ∃ k : Nat, c.toInt = k := ⟨c.toInt.toNat, by omega⟩
  have hx : c = Int32.ofNat k := Int32.toInt_inj.mp (by rw [hk, Int32.toInt_ofNat_small (by omega)])
  rw [hx]
  exact t ⟨k, by omega⟩
theorem narrow_ch {c : Int32} (h0 : ¬ c < 0) (h1 : ¬ 65535 < c) : narrow .char (.int c) = .int c := by
  have q : narrow .char (.int (pairCh (lo8 c) (hi8 c))) = .int (pairCh (lo8 c) (hi8 c)) := narrow_c _
  rwa [pair_says h0 h1] at q
/-- the array's cell V codes the n chars f 0 .. f (n - 1) by the coder cd, as the JDK does: coder 1 just where some char is above 255 -/
def Cod (cd : Int32) (n : Nat) (f : Nat → Int32) (V : Cell) : Prop := (cd = 0 ∧ V.slots.size = n ∧ ∀ j, j < n → V.slots[j]? = some (.int (lo8 (f j))) ∧ ¬ 255 < f j) ∨ (cd = 1 ∧ V.slots.size = 2 * n ∧ (∀ j, j < n → V.slots[2 * j]? = some (.int (lo8 (f j))) ∧ V.slots[2 * j + 1]? = some (.int (hi8 (f j)))) ∧ ∃ j, j < n ∧ 255 < f j)
theorem Cod.cd {cd : Int32} {n : Nat} {f : Nat → Int32} {V : Cell} (h : Cod cd n f V) : cd = 0 ∨ cd = 1 := h.imp (fun q => q.1) fun q => q.1
theorem Cod.len {cd : Int32} {n : Nat} {f : Nat → Int32} {V : Cell} (h : Cod cd n f V) (hs : V.slots.size < 2 ^ 31) : Int32.ofNat V.slots.size >>> (cd &&& 31) = Int32.ofNat n := by
  rcases h with ⟨rfl, h, -⟩ | ⟨rfl, h, -⟩
  · rw [shr0, h]
  · rw [h, shr1 (by omega)]
/-- **x is a String of the n chars f 0 .. f (n - 1)**, Latin-1 or UTF-16; its array at t has the cell V -/
def Txt (x t : Addr) (V : Cell) (cd : Int32) (n : Nat) (f : Nat → Int32) (U : State) : Prop := Exact "java/lang/String" x U ∧ Has x "java/lang/String" "value" "[B" (.ref t) U ∧ Has x "java/lang/String" "coder" "B" (.int cd) U ∧ XT.Arr .byte t V U ∧ Cod cd n f V ∧ ∀ j, j < n → ¬ f j < 0 ∧ ¬ 65535 < f j
theorem Txt.mv {x t : Addr} {V : Cell} {cd : Int32} {n : Nat} {f : Nat → Int32} {U U' : State} (h : Txt x t V cd n f U) (hal : U.vm.Alike U'.vm) (hh : U'.heap = U.heap) : Txt x t V cd n f U' := ⟨h.1.mv hal hh, h.2.1.mv hal hh, h.2.2.1.mv hal hh, h.2.2.2.1.mv hal hh, h.2.2.2.2⟩
namespace Cdr
def yN : MethodName := ⟨"java/lang/String", "coder", "()B"⟩
abbrev yB : ByteArray := jdk_42_method_152_code
theorem d0 : decode yB 0 = .ok (.getstatic 38, 3) := by decide +kernel
theorem d3 : decode yB 3 = .ok (.ifCond (.eq) 10, 3) := by decide +kernel
theorem d6 : decode yB 6 = .ok (.aload_n 0, 1) := by decide +kernel
theorem d7 : decode yB 7 = .ok (.getfield 15, 3) := by decide +kernel
theorem d10 : decode yB 10 = .ok (.goto 4, 3) := by decide +kernel
theorem d14 : decode yB 14 = .ok (.ireturn, 1) := by decide +kernel
def site : List Cond := [.fieldLink "java/lang/String" 38 "java/lang/String" "COMPACT_STRINGS" "Z", .fieldLink "java/lang/String" 15 "java/lang/String" "coder" "B"]
def tab : Cond := tabOf yN yB 1 (some .byte) site
def P (x : Addr) (cd z : Int32) (args : Array Value) (s : State) : Prop := args = #[.ref x] ∧ Has x "java/lang/String" "coder" "B" (.int cd) s ∧ (cd = 0 ∨ cd = 1) ∧ StaticIs s "java/lang/String" "COMPACT_STRINGS" "Z" (.int z) ∧ ¬ z = 0
def E (cd : Int32) (r : Option Value) (s u : State) : Prop := XT.PureE (some (.int cd)) r s u
theorem law (l : Launch) (x : Addr) (cd z : Int32) : Law l yN 1 0 0 0 yB 1 (some .byte) site (P x cd z) (E cd) [] 0 0 := by
  refine Law.of_walk (plainFor_of_name (by decide +kernel)) (by decide +kernel) (by decide +kernel) (by decide) (fun _ _ h => by rw [h.1]; rfl) (fun _ U U' hal hh h => ⟨h.1, h.2.1.mv hal hh, h.2.2.1, h.2.2.2.1.there hal hh, h.2.2.2.2⟩) (fun r U U' V V' h1 hal h2 h => XT.PureE.mv r U U' V V' h1 hal h2 h) ?_
  intro p e s m args below meth c s₁ X0 hexec hbytes hml hret hlk hnm hown hh0 W hP
  obtain ⟨rfl, hx, hc, s1, hz⟩ := hP
  have c1 : Steps p.tables e below (s₁.setTop (entryFrame m #[.ref x] 1)) (s₁.setTop (mkF m 0 #[.val (.ref x)] [])) := entry rfl
  obtain ⟨T2, X2, q2, st2⟩ := X0.sget hexec hown (wk W (.fieldLink "java/lang/String" 38 "java/lang/String" "COMPACT_STRINGS" "Z")) s1 (fun _ _ h => by rw [hh0]; exact h) (g := (mkF m 0 #[.val (.ref x)] [])) rfl (hb hbytes d0)
  have hh2 := q2.trans hh0
  have c3 : Steps p.tables e below (s₁.setTop (entryFrame m #[.ref x] 1)) (T2.setTop (mkF m 7 #[.val (.ref x)] [.ref x])) := (c1.trans (st2 _ (Steps.refl _))).trans (by
    refine XS.ifNo X2.here hexec rfl (hb hbytes d3) rfl (i0_eq_f hz) ?_
    refine XS.aloadN X2.here hexec rfl (hb hbytes d6) rfl rfl ?_
    exact Steps.refl _)
  obtain ⟨T4, X4, q4, st4⟩ := X2.hget hexec hown (wk W (.fieldLink "java/lang/String" 15 "java/lang/String" "coder" "B")) (hx.mv X2.warmed.alike hh2) (g := (mkF m 7 #[.val (.ref x)] [.ref x])) rfl (rest := []) rfl (hb hbytes d7)
  have c5 : Steps p.tables e below (s₁.setTop (entryFrame m #[.ref x] 1)) (T4.setTop (mkF m 14 #[.val (.ref x)] [.int cd])) := (c3.trans (st4 _ (Steps.refl _))).trans (by
    refine XS.goto X4.here hexec rfl (pc0 := 10) rfl (hb hbytes d10) (by decide) rfl ?_
    exact Steps.refl _)
  exact ⟨T4, some (.int cd), _, _, _, X4, rfl, rfl, rfl, (fun h => by cases h), ⟨rfl, q4.trans hh2⟩, fun fs hl => c5.trans (X4.ireturnOut hexec hret (by rcases hc with rfl | rfl <;> rfl) (Or.inr (Or.inr (Or.inl rfl))) (hb hbytes d14) hl)⟩
end Cdr
namespace Len
def yN : MethodName := ⟨"java/lang/String", "length", "()I"⟩
abbrev yB : ByteArray := jdk_42_method_54_code
theorem d0 : decode yB 0 = .ok (.aload_n 0, 1) := by decide +kernel
theorem d1 : decode yB 1 = .ok (.getfield 9, 3) := by decide +kernel
theorem d4 : decode yB 4 = .ok (.arraylength, 1) := by decide +kernel
theorem d5 : decode yB 5 = .ok (.aload_n 0, 1) := by decide +kernel
theorem d6 : decode yB 6 = .ok (.invokevirtual 335, 3) := by decide +kernel
theorem d9 : decode yB 9 = .ok (.ishr, 1) := by decide +kernel
theorem d10 : decode yB 10 = .ok (.ireturn, 1) := by decide +kernel
def site : List Cond := [.fieldLink "java/lang/String" 9 "java/lang/String" "value" "[B", Cdr.tab] ++ virtW "java/lang/String" 335 "java/lang/String" Cdr.yN Cdr.yN
def tab : Cond := tabOf yN yB 1 (some .int) site
def P (x t : Addr) (V : Cell) (cd : Int32) (n : Nat) (f : Nat → Int32) (z : Int32) (args : Array Value) (s : State) : Prop := args = #[.ref x] ∧ Txt x t V cd n f s ∧ StaticIs s "java/lang/String" "COMPACT_STRINGS" "Z" (.int z) ∧ ¬ z = 0
def E (n : Nat) (r : Option Value) (s u : State) : Prop := XT.PureE (some (.int (Int32.ofNat n))) r s u
/-- length() of a String of n chars, in either coding -/
theorem law (l : Launch) (x t : Addr) (V : Cell) (cd : Int32) (n : Nat) (f : Nat → Int32) (z : Int32) : Law l yN 1 0 1 13 yB 1 (some .int) site (P x t V cd n f z) (E n) [] 0 0 := by
  refine Law.of_walk (plainFor_of_name (by decide +kernel)) (by decide +kernel) (by decide +kernel) (by decide) (fun _ _ h => by rw [h.1]; rfl) (fun _ U U' hal hh h => ⟨h.1, h.2.1.mv hal hh, h.2.2.1.there hal hh, h.2.2.2⟩) (fun r U U' V V' h1 hal h2 h => XT.PureE.mv r U U' V V' h1 hal h2 h) ?_
  intro p e s m args below meth c s₁ X0 hexec hbytes hml hret hlk hnm hown hh0 W hP
  obtain ⟨rfl, hx, s1, hz⟩ := hP
  have v31 := hx.2.2.2.1.2.2.2
  have c1 : Steps p.tables e below (s₁.setTop (entryFrame m #[.ref x] 1)) (s₁.setTop (mkF m 1 #[.val (.ref x)] [.ref x])) := Steps.trans (entry rfl) (by
    show Steps p.tables e below (s₁.setTop (mkF m 0 #[.val (.ref x)] [])) _
    refine XS.aloadN X0.here hexec rfl (hb hbytes d0) rfl rfl ?_
    exact Steps.refl _)
  obtain ⟨T2, X2, q2, st2⟩ := X0.hget hexec hown (wk W (.fieldLink "java/lang/String" 9 "java/lang/String" "value" "[B")) (hx.mv X0.warmed.alike hh0).2.1 (g := (mkF m 1 #[.val (.ref x)] [.ref x])) rfl (rest := []) rfl (hb hbytes d1)
  have hh2 := q2.trans hh0
  have hx2 := hx.mv X2.warmed.alike hh2
  have c3 : Steps p.tables e below (s₁.setTop (entryFrame m #[.ref x] 1)) (T2.setTop (mkF m 6 #[.val (.ref x)] [.ref x, .int (Int32.ofNat V.slots.size)])) := (c1.trans (st2 _ (Steps.refl _))).trans (by
    refine X2.alen hexec hx2.2.2.2.1 rfl rfl (hb hbytes d4) ?_
    refine XS.aloadN X2.here hexec rfl (hb hbytes d5) rfl rfl ?_
    exact Steps.refl _)
  obtain ⟨v4, T4, X4, E4, g4⟩ := X2.callV hexec (Cdr.law l x cd z) hown (wks W (virtW "java/lang/String" 335 "java/lang/String" Cdr.yN Cdr.yN)) rfl (by decide) (wk W Cdr.tab) (W := 1) (Nat.le_of_ble_eq_true rfl) (Nat.le_of_ble_eq_true rfl) (Nat.le_refl _) (Nat.le_refl _) (hx2.1.fc X2.warmed.alike) hx2.1.is (g := (mkF m 6 #[.val (.ref x)] [.ref x, .int (Int32.ofNat V.slots.size)])) rfl (by rw [hml]; rfl) c3 (argsL := []) (rest := [.int (Int32.ofNat V.slots.size)]) rfl rfl (by show 2 * 0 + (1 + 0) ≤ _; decide) (hb hbytes d6) (⟨rfl, hx2.2.2.1, hx.2.2.2.2.1.cd, s1.there X2.warmed.alike hh2, hz⟩)
  obtain ⟨rfl, q4⟩ := E4
  have c5 : Steps p.tables e below (s₁.setTop (entryFrame m #[.ref x] 1)) (T4.setTop (mkF m 10 #[.val (.ref x)] [.int (Int32.ofNat V.slots.size >>> (cd &&& 31))])) := Steps.trans g4 (by
    refine ishr X4.here hexec rfl (hb hbytes d9) rfl ?_
    exact Steps.refl _)
  rw [hx.2.2.2.2.1.len v31] at c5
  exact ⟨T4, some (.int (Int32.ofNat n)), _, _, _, X4, rfl, rfl, rfl, (fun h => by cases h), ⟨rfl, q4.trans hh2⟩, fun fs hl => c5.trans (X4.ireturnOut hexec hret rfl (Or.inl rfl) (hb hbytes d10) hl)⟩
theorem pays {l : Launch} {R : Room} {p : Program} {e : Env} {below : List Frame} {s : State} {sargs : Array Value} {len W : Nat} (x t : Addr) (V : Cell) (cd : Int32) (n : Nat) (f : Nat → Int32) (z : Int32) (htab : tab.before sargs s = true) (hfr : 2 ≤ R.frames) (hlo : W + 25 ≤ R.locals) :
    Back l R p e below s sargs yN len W (fun A₁ a₁ => A₁.cells + 0 ≤ R.cells ∧ A₁.slots + 0 ≤ R.slots ∧ P x t V cd n f z a₁ A₁.U) (fun A₁ _ v₁ B₁ => E n v₁ A₁.U B₁.U ∧ B₁.locs = A₁.locs ++ [] ∧ B₁.cells = A₁.cells + 0 ∧ B₁.slots = A₁.slots + 0) :=
  (law l x t V cd n f z).pays htab hfr (by omega)
end Len
namespace IsL
def yN : MethodName := ⟨"java/lang/String", "isLatin1", "()Z"⟩
abbrev yB : ByteArray := jdk_42_method_154_code
theorem d0 : decode yB 0 = .ok (.getstatic 38, 3) := by decide +kernel
theorem d3 : decode yB 3 = .ok (.ifCond (.eq) 14, 3) := by decide +kernel
theorem d6 : decode yB 6 = .ok (.aload_n 0, 1) := by decide +kernel
theorem d7 : decode yB 7 = .ok (.getfield 15, 3) := by decide +kernel
theorem d10 : decode yB 10 = .ok (.ifCond (.ne) 7, 3) := by decide +kernel
theorem d13 : decode yB 13 = .ok (.iconst 1, 1) := by decide +kernel
theorem d14 : decode yB 14 = .ok (.goto 4, 3) := by decide +kernel
theorem d17 : decode yB 17 = .ok (.iconst 0, 1) := by decide +kernel
theorem d18 : decode yB 18 = .ok (.ireturn, 1) := by decide +kernel
def site : List Cond := [.fieldLink "java/lang/String" 38 "java/lang/String" "COMPACT_STRINGS" "Z", .fieldLink "java/lang/String" 15 "java/lang/String" "coder" "B"]
def tab : Cond := tabOf yN yB 1 (some .boolean) site
def P (x : Addr) (cd z : Int32) (args : Array Value) (s : State) : Prop := args = #[.ref x] ∧ Has x "java/lang/String" "coder" "B" (.int cd) s ∧ (cd = 0 ∨ cd = 1) ∧ StaticIs s "java/lang/String" "COMPACT_STRINGS" "Z" (.int z) ∧ ¬ z = 0
def E (cd : Int32) (r : Option Value) (s u : State) : Prop := XT.PureE (some (.int (1 - cd))) r s u
theorem law (l : Launch) (x : Addr) (cd z : Int32) : Law l yN 1 0 0 0 yB 1 (some .boolean) site (P x cd z) (E cd) [] 0 0 := by
  refine Law.of_walk (plainFor_of_name (by decide +kernel)) (by decide +kernel) (by decide +kernel) (by decide) (fun _ _ h => by rw [h.1]; rfl) (fun _ U U' hal hh h => ⟨h.1, h.2.1.mv hal hh, h.2.2.1, h.2.2.2.1.there hal hh, h.2.2.2.2⟩) (fun r U U' V V' h1 hal h2 h => XT.PureE.mv r U U' V V' h1 hal h2 h) ?_
  intro p e s m args below meth c s₁ X0 hexec hbytes hml hret hlk hnm hown hh0 W hP
  obtain ⟨rfl, hx, hc, s1, hz⟩ := hP
  have c1 : Steps p.tables e below (s₁.setTop (entryFrame m #[.ref x] 1)) (s₁.setTop (mkF m 0 #[.val (.ref x)] [])) := entry rfl
  obtain ⟨T2, X2, q2, st2⟩ := X0.sget hexec hown (wk W (.fieldLink "java/lang/String" 38 "java/lang/String" "COMPACT_STRINGS" "Z")) s1 (fun _ _ h => by rw [hh0]; exact h) (g := (mkF m 0 #[.val (.ref x)] [])) rfl (hb hbytes d0)
  have hh2 := q2.trans hh0
  have c3 : Steps p.tables e below (s₁.setTop (entryFrame m #[.ref x] 1)) (T2.setTop (mkF m 7 #[.val (.ref x)] [.ref x])) := (c1.trans (st2 _ (Steps.refl _))).trans (by
    refine XS.ifNo X2.here hexec rfl (hb hbytes d3) rfl (i0_eq_f hz) ?_
    refine XS.aloadN X2.here hexec rfl (hb hbytes d6) rfl rfl ?_
    exact Steps.refl _)
  obtain ⟨T4, X4, q4, st4⟩ := X2.hget hexec hown (wk W (.fieldLink "java/lang/String" 15 "java/lang/String" "coder" "B")) (hx.mv X2.warmed.alike hh2) (g := (mkF m 7 #[.val (.ref x)] [.ref x])) rfl (rest := []) rfl (hb hbytes d7)
  have c5 : Steps p.tables e below (s₁.setTop (entryFrame m #[.ref x] 1)) (T4.setTop (mkF m 10 #[.val (.ref x)] [.int cd])) := c3.trans (st4 _ (Steps.refl _))
  have c6 : Steps p.tables e below (s₁.setTop (entryFrame m #[.ref x] 1)) (T4.setTop (mkF m 18 #[.val (.ref x)] [.int (1 - cd)])) := by
    rcases hc with rfl | rfl
    · exact c5.trans (by
        refine XS.ifNo X4.here hexec rfl (hb hbytes d10) rfl (i0_ne_f rfl) ?_
        refine iconstV X4.here hexec rfl 1 (hb hbytes d13) (by decide) ?_
        refine XS.goto X4.here hexec rfl (pc0 := 14) rfl (hb hbytes d14) (by decide) rfl ?_
        exact Steps.refl _)
    · exact c5.trans (by
        refine XS.ifYes X4.here hexec rfl (pc0 := 10) rfl (hb hbytes d10) rfl (i0_ne_t (by decide)) (by decide) rfl ?_
        refine iconstV X4.here hexec rfl 0 (hb hbytes d17) (by decide) ?_
        exact Steps.refl _)
  exact ⟨T4, some (.int (1 - cd)), _, _, _, X4, rfl, rfl, rfl, (fun h => by cases h), ⟨rfl, q4.trans hh2⟩, fun fs hl => c6.trans (X4.ireturnOut hexec hret (by rcases hc with rfl | rfl <;> rfl) (Or.inr (Or.inl rfl)) (hb hbytes d18) hl)⟩
end IsL
namespace LChA
def yN : MethodName := ⟨"java/lang/StringLatin1", "charAt", "([BI)C"⟩
abbrev yB : ByteArray := jdk_43_method_2_code
theorem d0 : decode yB 0 = .ok (.iload_n 1, 1) := by decide +kernel
theorem d1 : decode yB 1 = .ok (.aload_n 0, 1) := by decide +kernel
theorem d2 : decode yB 2 = .ok (.arraylength, 1) := by decide +kernel
theorem d3 : decode yB 3 = .ok (.invokestatic 9, 3) := by decide +kernel
theorem d6 : decode yB 6 = .ok (.aload_n 0, 1) := by decide +kernel
theorem d7 : decode yB 7 = .ok (.iload_n 1, 1) := by decide +kernel
theorem d8 : decode yB 8 = .ok (.baload, 1) := by decide +kernel
theorem d9 : decode yB 9 = .ok (.sipush 255, 3) := by decide +kernel
theorem d12 : decode yB 12 = .ok (.iand, 1) := by decide +kernel
theorem d13 : decode yB 13 = .ok (.i2c, 1) := by decide +kernel
theorem d14 : decode yB 14 = .ok (.ireturn, 1) := by decide +kernel
def site : List Cond := [JO.Str_checkIndex.tab] ++ staticW "java/lang/StringLatin1" 9 JO.Str_checkIndex.yN
def tab : Cond := tabOf yN yB 2 (some .char) site
def P (t : Addr) (V : Cell) (i : Nat) (u : Int32) (fm : Value) (args : Array Value) (s : State) : Prop := args = #[.ref t, .int (Int32.ofNat i)] ∧ XT.Arr .byte t V s ∧ V.slots[i]? = some (.int u) ∧ (StaticIs s "jdk/internal/util/Preconditions" "SIOOBE_FORMATTER" "Ljava/util/function/BiFunction;" fm ∧ fm.isRef = true)
def E (u : Int32) (r : Option Value) (s w : State) : Prop := XT.PureE (some (.int (chr8 u))) r s w
theorem law (l : Launch) (t : Addr) (V : Cell) (i : Nat) (u : Int32) (fm : Value) : Law l yN 2 2 2 27 yB 2 (some .char) site (P t V i u fm) (E u) [] 0 0 := by
  refine Law.of_walk (plainFor_of_name (by decide +kernel)) (by decide +kernel) (by decide +kernel) (by decide) (fun _ _ h => by rw [h.1]; rfl) (fun _ U U' hal hh h => ⟨h.1, h.2.1.mv hal hh, h.2.2.1, h.2.2.2.1.there hal hh, h.2.2.2.2⟩) (fun r U U' V V' h1 hal h2 h => XT.PureE.mv r U U' V V' h1 hal h2 h) ?_
  intro p e s m args below meth c s₁ X0 hexec hbytes hml hret hlk hnm hown hh0 W hP
  obtain ⟨rfl, hV, hu, s1, rf⟩ := hP
  have v31 := hV.2.2.2
  have hi : i < V.slots.size := (Array.getElem?_eq_some_iff.mp hu).1
  have c1 : Steps p.tables e below (s₁.setTop (entryFrame m #[.ref t, .int (Int32.ofNat i)] 2)) (s₁.setTop (mkF m 0 #[.val (.ref t), .val (.int (Int32.ofNat i))] [])) := entry rfl
  have c2 : Steps p.tables e below (s₁.setTop (entryFrame m #[.ref t, .int (Int32.ofNat i)] 2)) (s₁.setTop (mkF m 3 #[.val (.ref t), .val (.int (Int32.ofNat i))] [.int (Int32.ofNat V.slots.size), .int (Int32.ofNat i)])) := c1.trans (by
    refine XS.iloadN X0.here hexec rfl (hb hbytes d0) rfl ?_
    refine XS.aloadN X0.here hexec rfl (hb hbytes d1) rfl rfl ?_
    refine X0.alen hexec (hV.mv X0.warmed.alike hh0) rfl rfl (hb hbytes d2) ?_
    exact Steps.refl _)
  obtain ⟨v3, T3, X3, E3, g3⟩ := X0.callS hexec (JO.Str_checkIndex.law l (Int32.ofNat i) (Int32.ofNat V.slots.size) fm) hown (wks W (staticW "java/lang/StringLatin1" 9 JO.Str_checkIndex.yN)) (wk W JO.Str_checkIndex.tab) (W := 0) (Nat.le_of_ble_eq_true rfl) (Nat.le_of_ble_eq_true rfl) (Nat.le_refl _) (Nat.le_refl _) (g := (mkF m 3 #[.val (.ref t), .val (.int (Int32.ofNat i))] [.int (Int32.ofNat V.slots.size), .int (Int32.ofNat i)])) rfl (by rw [hml]; rfl) c2 (argsL := [.int (Int32.ofNat i), .int (Int32.ofNat V.slots.size)]) (rest := []) rfl rfl (by show 2 * 0 + 0 ≤ _; decide) (hb hbytes d3) (⟨rfl, rf, s1.there X0.warmed.alike hh0, Int32.ofNat_not_neg (by omega), lt32 v31 hi⟩)
  obtain ⟨rfl, q3⟩ := E3
  have hh3 := q3.trans hh0
  have c4 : Steps p.tables e below (s₁.setTop (entryFrame m #[.ref t, .int (Int32.ofNat i)] 2)) (T3.setTop (mkF m 14 #[.val (.ref t), .val (.int (Int32.ofNat i))] [.int (chr8 u)])) := Steps.trans g3 (by
    refine XS.aloadN X3.here hexec rfl (hb hbytes d6) rfl rfl ?_
    refine XS.iloadN X3.here hexec rfl (hb hbytes d7) rfl ?_
    refine X3.aget hexec (hV.mv X3.warmed.alike hh3) rfl hu rfl rfl (hb hbytes d8) ?_
    refine sipushV X3.here hexec rfl 255 (hb hbytes d9) (by decide) ?_
    refine XS.iand X3.here hexec rfl (hb hbytes d12) rfl ?_
    refine i2c X3.here hexec rfl (hb hbytes d13) rfl ?_
    exact Steps.refl _)
  exact ⟨T3, some (.int (chr8 u)), _, _, _, X3, rfl, rfl, rfl, (fun h => by cases h), ⟨rfl, hh3⟩, fun fs hl => c4.trans (X3.ireturnOut hexec hret (narrow_c _) (Or.inr (Or.inr (Or.inr (Or.inl rfl)))) (hb hbytes d14) hl)⟩
end LChA
end StrChars
namespace StrChars.Road
open Jvm Sem ClassFile Op Lib Jvm.Stand Jvm.Free Jvm.Free.XT
open Jvm.Lib.Cold (StaticIs)
theorem consq {a : Array Value} {s : State} {c : Jvm.Cond} {L : List Jvm.Cond} (h0 : c.before a s = true) (h : ∀ w ∈ L, w.before a s = true) : ∀ w ∈ c :: L, w.before a s = true := fun w hw => (List.mem_cons.mp hw).elim (fun e => e ▸ h0) (h w)
/-- the words of String.length(), either coding -/
abbrev wordsLen : List Jvm.Cond := [.code Len.yN Len.yB 1 (some .int), .initialized ST, .fieldLink ST 9 ST "value" "[B", .fieldLink ST 38 ST "COMPACT_STRINGS" "Z", .fieldLink ST 15 ST "coder" "B", .code Cdr.yN Cdr.yB 1 (some .byte), .methodLink ST 335 Cdr.yN, .declares Cdr.yN, .selects ST Cdr.yN Cdr.yN, .instanceMethod Cdr.yN]
theorem tabLen_of {a : Array Value} {s : State} (h : ∀ w ∈ wordsLen, w.before a s = true) : Len.tab.before a s = true := by
  have hc : Cdr.tab.before a s = true := unparts (wk h (.code Cdr.yN Cdr.yB 1 (some .byte))) (wks h (.initialized Cdr.yN.cls :: Cdr.site))
  have q := consq hc h
  exact unparts (wk q (.code Len.yN Len.yB 1 (some .int))) (wks q (.initialized Len.yN.cls :: Len.site))
theorem movedLen {Z s : State} {a0 args : Array Value} (hZ : Z.Warmed39 s.vm) (hw : ∀ d ∈ wordsLen, d.before a0 Z = true) : ∀ d ∈ wordsLen, d.before args s = true := fun d hd => by
  have q := hw d hd
  have t : ∀ d ∈ wordsLen, d = .arrayClass .byte ∨ (d.onTables && d.keepsFace) = true := by decide +kernel
  rcases t d hd with rfl | t
  · exact RoadKit.mvA hZ q
  · exact RoadKit.mv hZ q t
/-- the bytes of the chars cs, low before high -/
def wideBytes : List Int32 → List Value
  | [] => []
  | c :: cs => .int (lo8 c) :: .int (hi8 c) :: wideBytes cs
theorem wide_lo (d : Value) : ∀ (cs : List Int32) (j : Nat), j < cs.length → (wideBytes cs).getD (2 * j) d = .int (lo8 (cs.getD j 0))
  | [], j, h => absurd h (Nat.not_lt_zero j)
  | c :: cs, 0, _ => rfl
  | c :: cs, j + 1, h => by
    have q := wide_lo d cs j (by simpa using h)
    rw [show 2 * (j + 1) = 2 * j + 1 + 1 from by omega]
    simpa [wideBytes] using q
theorem wide_hi (d : Value) : ∀ (cs : List Int32) (j : Nat), j < cs.length → (wideBytes cs).getD (2 * j + 1) d = .int (hi8 (cs.getD j 0))
  | [], j, h => absurd h (Nat.not_lt_zero j)
  | c :: cs, 0, _ => rfl
  | c :: cs, j + 1, h => by
    have q := wide_hi d cs j (by simpa using h)
    rw [show 2 * (j + 1) + 1 = 2 * j + 1 + 1 + 1 from by omega]
    simpa [wideBytes] using q
theorem low_at (d : Value) (cs : List Int32) (j : Nat) (h : j < cs.length) : (cs.map fun c => Value.int (lo8 c)).getD j d = .int (lo8 (cs.getD j 0)) := by
  simp [List.getD_eq_getElem?_getD, h]
/-- an array of N2 bytes vs codes the chars cs by the coder cd -/
def CodA (cs : List Int32) (cd N2 : Int32) (vs : List Value) : Prop := (cd = 0 ∧ N2 = Int32.ofNat cs.length ∧ vs = (cs.map fun c => Value.int (lo8 c)) ∧ ∀ c ∈ cs, ¬ 255 < c) ∨ (cd = 1 ∧ N2 = Int32.ofNat (2 * cs.length) ∧ vs = wideBytes cs ∧ ∃ c ∈ cs, 255 < c)
theorem CodA.cod {cs : List Int32} {cd N2 : Int32} {vs : List Value} {V : Cell} (h : CodA cs cd N2 vs) (hn : 2 * cs.length < 2 ^ 31) (hs : V.slots.size = N2.toNatClampNeg) (hv : RoadKit.Has V vs (.int 0)) : Cod cd cs.length (fun j => cs.getD j 0) V := by
  rcases h with ⟨rfl, rfl, rfl, h⟩ | ⟨rfl, rfl, rfl, c, hc, hw⟩
  · rw [n32 (by omega)] at hs
    exact Or.inl ⟨rfl, hs, fun j hj => ⟨by rw [hv j (by omega), low_at _ _ _ hj], by
      have e : cs.getD j 0 = cs[j] := by simp [List.getD_eq_getElem?_getD, hj]
      show ¬ 255 < cs.getD j 0
      rw [e]; exact h _ (List.getElem_mem _)⟩⟩
  · rw [n32 (by omega)] at hs
    obtain ⟨j, hj, rfl⟩ := List.getElem_of_mem hc
    exact Or.inr ⟨rfl, hs, fun j hj => ⟨by rw [hv _ (by omega), wide_lo _ _ _ hj], by rw [hv _ (by omega), wide_hi _ _ _ hj]⟩, j, hj, by
      have e : cs.getD j 0 = cs[j] := by simp [List.getD_eq_getElem?_getD, hj]
      show 255 < cs.getD j 0
      rw [e]; exact hw⟩
/-- an object of exactly java/lang/String, its two fields found: as the laws ask it -/
theorem strObj {Z U : State} {a0 : Array Value} {kI : Nat} (wi : (Jvm.Cond.instantiable ST kI).before a0 Z = true) (al : Z.vm.Alike U.vm) {x : Addr} {v0 c0 : Value} (E : RoadKit.Exa Z U.heap x ST) (V : RoadKit.Fld Z U.heap x ST "value" "[B" v0) (C : RoadKit.Fld Z U.heap x ST "coder" "B" c0) :
    ∃ (D : Cell) (fV fC : Field), Blank ST x D U ∧ Found ST "value" "[B" fV U ∧ Found ST "coder" "B" fC U ∧ D.slots[fV.slot]? = some v0 ∧ D.slots[fC.slot]? = some c0 ∧ RoadKit.slotOf Z ST "value" "[B" = fV.slot ∧ RoadKit.slotOf Z ST "coder" "B" = fC.slot := by
  obtain ⟨D, cfV, kV, iV, fV, hD, gV, stV, knV, obV, asV, slV⟩ := V
  obtain ⟨D', cfC, kC, iC, fC, hD', gC, stC, -, -, asC, slC⟩ := C
  cases hD.symm.trans hD'
  obtain ⟨D2, kD, e1, e2, e3, e4, e5⟩ := E
  cases hD.symm.trans e1
  obtain ⟨c2, k2, i1, i2, i3, -⟩ := Cond.instantiable_spec wi
  cases e2.symm.trans i1
  cases e3.symm.trans i2
  obtain ⟨kU, u1, u2⟩ := al.2.2 _ _ e3
  exact ⟨D, fV, fC, ⟨hD, ⟨knV, fun q hq => by rw [hq] at obV; cases obV⟩, by rw [al.findClass]; exact e2, kU, u1, by rw [u2]; exact i3, by rw [u2]; exact e5 i3⟩, ⟨SBG.found_only al ⟨cfV, kV, iV, gV⟩, stV⟩, ⟨SBG.found_only al ⟨cfC, kC, iC, gC⟩, stC⟩, slV, slC, by simp [RoadKit.slotOf, gV], by simp [RoadKit.slotOf, gC]⟩
theorem sta_is {Z U : State} (al : Z.vm.Alike U.vm) {C n d : String} {v : Value} (S : RoadKit.Sta Z U.heap C n d v) : StaticIs U C n d v := by
  obtain ⟨cfS, iS, kS, fS, st, cS, t1, t2, t3, t4, t5, t6, t7⟩ := S
  exact StaticIs.there (s := { Z with heap := U.heap }) ⟨cfS, iS, kS, fS, st, cS, t1, t2, t3, t4, t5, (fun q => by rw [q] at t6; cases t6), t7⟩ al rfl
/-- **length() OF SUCH A STRING** -/
theorem lenW {p : Program} {l : Launch} {e : Env} {R : Room} {s : State} {args : Array Value} {below : List Frame} {len W : Nat} {Z : State} {a0 : Array Value} {h : Heap} (hZ : Z.Warmed39 s.vm) (hw : ∀ d ∈ wordsLen, d.before a0 Z = true) {kI : Nat} (wi : (Jvm.Cond.instantiable ST kI).before a0 Z = true)
    {x t : Addr} {kb : ClassId} {cs : List Int32} {cd N2 z : Int32} {vs : List Value} (E : RoadKit.Exa Z h x ST) (V : RoadKit.Fld Z h x ST "value" "[B" (.ref t)) (C : RoadKit.Fld Z h x ST "coder" "B" (.int cd)) (K : RoadKit.Arv Z h t kb .byte N2 vs (.int 0)) (hc : CodA cs cd N2 vs) (hb : ∀ c ∈ cs, ¬ c < 0 ∧ ¬ (65535 : Int32) < c)
    (S : RoadKit.Sta Z h ST "COMPACT_STRINGS" "Z" (.int z)) (hz : ¬ z = 0) (l2 : cs.length ≤ 4000) (hfr : 2 ≤ R.frames) (hlo : W + 25 ≤ R.locals) :
    Back l R p e below s args (⟨"java/lang/String", "length", "()I"⟩ : MethodName) len W (fun P a => a = #[.ref x] ∧ P.U.heap = h ∧ P.cells + 0 ≤ R.cells ∧ P.slots + 0 ≤ R.slots)
      (fun P _ v B => ∃ L, (v = some (.int (Int32.ofNat cs.length)) ∧ L = [] ∧ B.U.heap = h) ∧ B.locs = P.locs ++ L ∧ B.cells = P.cells + 0 ∧ B.slots = P.slots + 0) := by
  obtain ⟨A, K1, K2, K3, K4, K5, K6⟩ := K
  have hcod := hc.cod (by omega) K3 K5
  intro m meth c P g ig mk a X hg hsize hdg hW hn hp'
  obtain ⟨rfl, rfl, r1, r2⟩ := hp'
  have al : Z.vm.Alike P.U.vm := hZ.alike.trans X.warmed.alike
  obtain ⟨D, fV, fC, hB, F1, F2, g1, g2, -, -⟩ := strObj wi al E V C
  have hx : Txt x t A cd cs.length (fun j => cs.getD j 0) P.U := ⟨⟨_, hB.2.2.1, D, hB.1, rfl, by cases q : D.vm <;> first | rfl | exact absurd q (hB.2.1.2 _)⟩, Has.of hB F1 g1, Has.of hB F2 g2, ⟨K1.1, State.isArrayOf_alike al K1.2.1, K1.2.2, by rcases hcod with ⟨-, q, -⟩ | ⟨-, q, -⟩ <;> omega⟩, hcod, fun j hj => by
    have e : cs.getD j 0 = cs[j] := by simp [List.getD_eq_getElem?_getD, hj]
    show ¬ cs.getD j 0 < 0 ∧ ¬ 65535 < cs.getD j 0
    rw [e]; exact hb _ (List.getElem_mem _)⟩
  obtain ⟨v, B, X', ⟨⟨hv, hh⟩, hl, hk, hs⟩, st⟩ := Len.pays x t A cd cs.length (fun j => cs.getD j 0) z (tabLen_of (movedLen hZ hw)) hfr hlo m meth c P g ig mk _ X hg hsize hdg hW hn ⟨r1, r2, rfl, hx, sta_is al S, hz⟩
  exact ⟨v, B, X', ⟨[], ⟨hv, rfl, hh⟩, hl, hk, hs⟩, st⟩
end StrChars.Road
namespace StrChars.Road
open Jvm Sem ClassFile Op Lib Jvm.Stand Jvm.Free Jvm.Free.XT
open Jvm.Lib.Cold (StaticIs)
/-- the road's facts of a String, as the laws ask it -/
theorem txt_of {Z U : State} {a0 : Array Value} {kI : Nat} (wi : (Jvm.Cond.instantiable ST kI).before a0 Z = true) (al : Z.vm.Alike U.vm) {x t : Addr} {kb : ClassId} {cs : List Int32} {cd N2 : Int32} {vs : List Value} (E : RoadKit.Exa Z U.heap x ST) (V : RoadKit.Fld Z U.heap x ST "value" "[B" (.ref t)) (C : RoadKit.Fld Z U.heap x ST "coder" "B" (.int cd)) (K : RoadKit.Arv Z U.heap t kb .byte N2 vs (.int 0)) (hc : CodA cs cd N2 vs) (hb : ∀ c ∈ cs, ¬ c < 0 ∧ ¬ (65535 : Int32) < c) (l2 : cs.length ≤ 4000) :
    ∃ A, Txt x t A cd cs.length (fun j => cs.getD j 0) U := by
  obtain ⟨A, K1, K2, K3, K4, K5, K6⟩ := K
  have hcod := hc.cod (by omega) K3 K5
  obtain ⟨D, fV, fC, hB, F1, F2, g1, g2, -, -⟩ := strObj wi al E V C
  exact ⟨A, ⟨_, hB.2.2.1, D, hB.1, rfl, by cases q : D.vm <;> first | rfl | exact absurd q (hB.2.1.2 _)⟩, Has.of hB F1 g1, Has.of hB F2 g2, ⟨K1.1, State.isArrayOf_alike al K1.2.1, K1.2.2, by rcases hcod with ⟨-, q, -⟩ | ⟨-, q, -⟩ <;> omega⟩, hcod, fun j hj => by
    have e : cs.getD j 0 = cs[j] := by simp [List.getD_eq_getElem?_getD, hj]
    show ¬ cs.getD j 0 < 0 ∧ ¬ 65535 < cs.getD j 0
    rw [e]; exact hb _ (List.getElem_mem _)⟩
end StrChars.Road
namespace StrChars
open Jvm Sem ClassFile Op Lib Jvm.Stand Jvm.Free.XT Jvm.Free.ALB Jvm.Free.JM Jvm.Free
open Jvm.Lib.Cold (StaticIs)
namespace ChN
def yN : MethodName := ⟨"java/lang/String", "charAt", "(I)C"⟩
abbrev yB : ByteArray := jdk_42_method_56_code
theorem d0 : decode yB 0 = .ok (.aload_n 0, 1) := by decide +kernel
theorem d1 : decode yB 1 = .ok (.invokevirtual 492, 3) := by decide +kernel
theorem d4 : decode yB 4 = .ok (.ifCond (.eq) 12, 3) := by decide +kernel
theorem d7 : decode yB 7 = .ok (.aload_n 0, 1) := by decide +kernel
theorem d8 : decode yB 8 = .ok (.getfield 9, 3) := by decide +kernel
theorem d11 : decode yB 11 = .ok (.iload_n 1, 1) := by decide +kernel
theorem d12 : decode yB 12 = .ok (.invokestatic 495, 3) := by decide +kernel
theorem d15 : decode yB 15 = .ok (.ireturn, 1) := by decide +kernel
def site : List Cond := [.fieldLink "java/lang/String" 9 "java/lang/String" "value" "[B", IsL.tab, LChA.tab] ++ virtW "java/lang/String" 492 "java/lang/String" IsL.yN IsL.yN ++ staticW "java/lang/String" 495 LChA.yN
def tab : Cond := tabOf yN yB 2 (some .char) site
def P (x t : Addr) (V : Cell) (n : Nat) (f : Nat → Int32) (z : Int32) (fm : Value) (i : Nat) (args : Array Value) (s : State) : Prop := args = #[.ref x, .int (Int32.ofNat i)] ∧ Txt x t V 0 n f s ∧ i < n ∧ StaticIs s "java/lang/String" "COMPACT_STRINGS" "Z" (.int z) ∧ ¬ z = 0 ∧ StaticIs s "jdk/internal/util/Preconditions" "SIOOBE_FORMATTER" "Ljava/util/function/BiFunction;" fm ∧ fm.isRef = true
def E (f : Nat → Int32) (i : Nat) (r : Option Value) (s u : State) : Prop := XT.PureE (some (.int (f i))) r s u
/-- charAt(i) of a Latin-1 String of n chars, i < n: f i -/
theorem law (l : Launch) (x t : Addr) (V : Cell) (n : Nat) (f : Nat → Int32) (z : Int32) (fm : Value) (i : Nat) : Law l yN 2 1 3 40 yB 2 (some .char) site (P x t V n f z fm i) (E f i) [] 0 0 := by
  refine Law.of_walk (plainFor_of_name (by decide +kernel)) (by decide +kernel) (by decide +kernel) (by decide) (fun _ _ h => by rw [h.1]; rfl) (fun _ U U' hal hh h => ⟨h.1, h.2.1.mv hal hh, h.2.2.1, h.2.2.2.1.there hal hh, h.2.2.2.2.1, h.2.2.2.2.2.1.there hal hh, h.2.2.2.2.2.2⟩) (fun r U U' V V' h1 hal h2 h => XT.PureE.mv r U U' V V' h1 hal h2 h) ?_
  intro p e s m args below meth c s₁ X0 hexec hbytes hml hret hlk hnm hown hh0 W hP
  obtain ⟨rfl, hx, hi, s1, hz, s3, rf⟩ := hP
  have v31 := hx.2.2.2.1.2.2.2
  have hr := hx.2.2.2.2.2 i hi
  have hx0 := hx.mv X0.warmed.alike hh0
  have c1 : Steps p.tables e below (s₁.setTop (entryFrame m #[.ref x, .int (Int32.ofNat i)] 2)) (s₁.setTop (mkF m 1 #[.val (.ref x), .val (.int (Int32.ofNat i))] [.ref x])) := Steps.trans (entry rfl) (by
    show Steps p.tables e below (s₁.setTop (mkF m 0 #[.val (.ref x), .val (.int (Int32.ofNat i))] [])) _
    refine XS.aloadN X0.here hexec rfl (hb hbytes d0) rfl rfl ?_
    exact Steps.refl _)
  obtain ⟨v2, T2, X2, E2, g2⟩ := X0.callV hexec (IsL.law l x 0 z) hown (wks W (virtW "java/lang/String" 492 "java/lang/String" IsL.yN IsL.yN)) rfl (by decide) (wk W IsL.tab) (W := 0) (Nat.le_of_ble_eq_true rfl) (Nat.le_of_ble_eq_true rfl) (Nat.le_refl _) (Nat.le_refl _) (hx0.1.fc X0.warmed.alike) hx0.1.is (g := (mkF m 1 #[.val (.ref x), .val (.int (Int32.ofNat i))] [.ref x])) rfl (by rw [hml]; rfl) c1 (argsL := []) (rest := []) rfl rfl (by show 2 * 0 + 0 ≤ _; decide) (hb hbytes d1) (⟨rfl, hx0.2.2.1, hx.2.2.2.2.1.cd, s1.there X0.warmed.alike hh0, hz⟩)
  obtain ⟨rfl, q2⟩ := E2
  have hh2 := q2.trans hh0
  have hx2 := hx.mv X2.warmed.alike hh2
  obtain ⟨-, k1, k2⟩ | ⟨k0, -⟩ := hx.2.2.2.2.1
  · have c3 : Steps p.tables e below (s₁.setTop (entryFrame m #[.ref x, .int (Int32.ofNat i)] 2)) (T2.setTop (mkF m 8 #[.val (.ref x), .val (.int (Int32.ofNat i))] [.ref x])) := Steps.trans g2 (by
      refine XS.ifNo X2.here hexec rfl (hb hbytes d4) rfl (i0_eq_f (by decide)) ?_
      refine XS.aloadN X2.here hexec rfl (hb hbytes d7) rfl rfl ?_
      exact Steps.refl _)
    obtain ⟨T4, X4, q4, st4⟩ := X2.hget hexec hown (wk W (.fieldLink "java/lang/String" 9 "java/lang/String" "value" "[B")) hx2.2.1 (g := (mkF m 8 #[.val (.ref x), .val (.int (Int32.ofNat i))] [.ref x])) rfl (rest := []) rfl (hb hbytes d8)
    have hh4 := q4.trans hh2
    have c5 : Steps p.tables e below (s₁.setTop (entryFrame m #[.ref x, .int (Int32.ofNat i)] 2)) (T4.setTop (mkF m 12 #[.val (.ref x), .val (.int (Int32.ofNat i))] [.int (Int32.ofNat i), .ref t])) := (c3.trans (st4 _ (Steps.refl _))).trans (by
      refine XS.iloadN X4.here hexec rfl (hb hbytes d11) rfl ?_
      exact Steps.refl _)
    obtain ⟨v6, T6, X6, E6, g6⟩ := X4.callS hexec (LChA.law l t V i (lo8 (f i)) fm) hown (wks W (staticW "java/lang/String" 495 LChA.yN)) (wk W LChA.tab) (W := 0) (Nat.le_of_ble_eq_true rfl) (Nat.le_of_ble_eq_true rfl) (Nat.le_refl _) (Nat.le_refl _) (g := (mkF m 12 #[.val (.ref x), .val (.int (Int32.ofNat i))] [.int (Int32.ofNat i), .ref t])) rfl (by rw [hml]; rfl) c5 (argsL := [.ref t, .int (Int32.ofNat i)]) (rest := []) rfl rfl (by show 2 * 0 + 0 ≤ _; decide) (hb hbytes d12) (⟨rfl, hx.2.2.2.1.mv X4.warmed.alike hh4, (k2 i hi).1, s3.there X4.warmed.alike hh4, rf⟩)
    obtain ⟨rfl, q6⟩ := E6
    rw [chr8_lo8 hr.1 (k2 i hi).2] at g6
    exact ⟨T6, some (.int (f i)), _, _, _, X6, rfl, rfl, rfl, (fun h => by cases h), ⟨rfl, q6.trans hh4⟩, fun fs hl => Steps.trans g6 (X6.ireturnOut hexec hret (narrow_ch hr.1 hr.2) (Or.inr (Or.inr (Or.inr (Or.inl rfl)))) (hb hbytes d15) hl)⟩
  · exact absurd k0 (by decide)
theorem pays {l : Launch} {R : Room} {p : Program} {e : Env} {below : List Frame} {s : State} {sargs : Array Value} {len W : Nat} (x t : Addr) (V : Cell) (n : Nat) (f : Nat → Int32) (z : Int32) (fm : Value) (i : Nat) (htab : tab.before sargs s = true) (hfr : 4 ≤ R.frames) (hlo : W + 53 ≤ R.locals) :
    Back l R p e below s sargs yN len W (fun A₁ a₁ => A₁.cells + 0 ≤ R.cells ∧ A₁.slots + 0 ≤ R.slots ∧ P x t V n f z fm i a₁ A₁.U) (fun A₁ _ v₁ B₁ => E f i v₁ A₁.U B₁.U ∧ B₁.locs = A₁.locs ++ [] ∧ B₁.cells = A₁.cells + 0 ∧ B₁.slots = A₁.slots + 0) :=
  (law l x t V n f z fm i).pays htab hfr (by omega)
end ChN
end StrChars
namespace StrChars.Road
open Jvm Sem ClassFile Op Lib Jvm.Stand Jvm.Free Jvm.Free.XT
open Jvm.Lib.Cold (StaticIs)
/-- the words of String.charAt(int), the Latin-1 road alone -/
abbrev wordsChN : List Jvm.Cond := [.code ChN.yN ChN.yB 2 (some .char), .initialized ST, .fieldLink ST 9 ST "value" "[B", .fieldLink ST 38 ST "COMPACT_STRINGS" "Z", .fieldLink ST 15 ST "coder" "B", .code IsL.yN IsL.yB 1 (some .boolean), .methodLink ST 492 IsL.yN, .declares IsL.yN, .selects ST IsL.yN IsL.yN, .instanceMethod IsL.yN,
  .methodLink ST 495 LChA.yN, .static LChA.yN, .code LChA.yN LChA.yB 2 (some .char), .initialized "java/lang/StringLatin1", .methodLink "java/lang/StringLatin1" 9 JO.Str_checkIndex.yN, .static JO.Str_checkIndex.yN, .code JO.Str_checkIndex.yN JO.Str_checkIndex.yB 2 none,
  .fieldLink ST 1053 "jdk/internal/util/Preconditions" "SIOOBE_FORMATTER" "Ljava/util/function/BiFunction;", .methodLink ST 1059 JC.PreCheck.yN, .static JC.PreCheck.yN, .code JC.PreCheck.yN JC.PreCheck.yB 3 (some .int), .initialized "jdk/internal/util/Preconditions"]
theorem tabChN_of {a : Array Value} {s : State} (h : ∀ w ∈ wordsChN, w.before a s = true) : ChN.tab.before a s = true := by
  have hp : JC.PreCheck.tab.before a s = true := unparts (wk h (.code JC.PreCheck.yN JC.PreCheck.yB 3 (some .int))) (wks h (.initialized JC.PreCheck.yN.cls :: JC.PreCheck.site))
  have qk := consq hp h
  have hk : JO.Str_checkIndex.tab.before a s = true := unparts (wk qk (.code JO.Str_checkIndex.yN JO.Str_checkIndex.yB 2 none)) (wks qk (.initialized JO.Str_checkIndex.yN.cls :: JO.Str_checkIndex.site))
  have ql := consq hk h
  have hl : LChA.tab.before a s = true := unparts (wk ql (.code LChA.yN LChA.yB 2 (some .char))) (wks ql (.initialized LChA.yN.cls :: LChA.site))
  have hi : IsL.tab.before a s = true := unparts (wk h (.code IsL.yN IsL.yB 1 (some .boolean))) (wks h (.initialized IsL.yN.cls :: IsL.site))
  have q := consq hi (consq hl h)
  exact unparts (wk q (.code ChN.yN ChN.yB 2 (some .char))) (wks q (.initialized ChN.yN.cls :: ChN.site))
theorem movedChN {Z s : State} {a0 args : Array Value} (hZ : Z.Warmed39 s.vm) (hw : ∀ d ∈ wordsChN, d.before a0 Z = true) : ∀ d ∈ wordsChN, d.before args s = true := fun d hd => by
  have t : ∀ d ∈ wordsChN, (d.onTables && d.keepsFace) = true := by decide +kernel
  exact RoadKit.mv hZ (hw d hd) (t d hd)
/-- **charAt(i) OF A LATIN-1 STRING**, i < n: the char -/
theorem chN {p : Program} {l : Launch} {e : Env} {R : Room} {s : State} {args : Array Value} {below : List Frame} {len W : Nat} {Z : State} {a0 : Array Value} {h : Heap} (hZ : Z.Warmed39 s.vm) (hw : ∀ d ∈ wordsChN, d.before a0 Z = true) {kI : Nat} (wi : (Jvm.Cond.instantiable ST kI).before a0 Z = true)
    {x t : Addr} {kb : ClassId} {cs : List Int32} {N2 z : Int32} {vs : List Value} {fm : Value} {i : Nat} {j : Int32} (E : RoadKit.Exa Z h x ST) (V : RoadKit.Fld Z h x ST "value" "[B" (.ref t)) (C : RoadKit.Fld Z h x ST "coder" "B" (.int 0)) (K : RoadKit.Arv Z h t kb .byte N2 vs (.int 0)) (hc : CodA cs 0 N2 vs) (hb : ∀ c ∈ cs, ¬ c < 0 ∧ ¬ (65535 : Int32) < c)
    (S : RoadKit.Sta Z h ST "COMPACT_STRINGS" "Z" (.int z)) (hz : ¬ z = 0) (F : RoadKit.Sta Z h "jdk/internal/util/Preconditions" "SIOOBE_FORMATTER" "Ljava/util/function/BiFunction;" fm) (rf : fm.isRef = true) (l2 : cs.length ≤ 4000) (hi : i < cs.length) (hj : j = Int32.ofNat i) (hfr : 4 ≤ R.frames) (hlo : W + 53 ≤ R.locals) :
    Back l R p e below s args (⟨"java/lang/String", "charAt", "(I)C"⟩ : MethodName) len W (fun P a => a = #[.ref x, .int j] ∧ P.U.heap = h ∧ P.cells + 0 ≤ R.cells ∧ P.slots + 0 ≤ R.slots)
      (fun P _ v B => ∃ L, (v = some (.int (cs.getD i 0)) ∧ L = [] ∧ B.U.heap = h) ∧ B.locs = P.locs ++ L ∧ B.cells = P.cells + 0 ∧ B.slots = P.slots + 0) := by
  subst hj
  intro m meth c P g ig mk a X hg hsize hdg hW hn hp'
  obtain ⟨rfl, rfl, r1, r2⟩ := hp'
  have al : Z.vm.Alike P.U.vm := hZ.alike.trans X.warmed.alike
  obtain ⟨A, hx⟩ := txt_of wi al E V C K hc hb l2
  obtain ⟨v, B, X', ⟨⟨hv, hh⟩, hl, hk, hs⟩, st⟩ := ChN.pays x t A cs.length (fun j => cs.getD j 0) z fm i (tabChN_of (movedChN hZ hw)) hfr hlo m meth c P g ig mk _ X hg hsize hdg hW hn ⟨r1, r2, rfl, hx, hi, sta_is al S, hz, sta_is al F, rf⟩
  exact ⟨v, B, X', ⟨[], ⟨hv, rfl, hh⟩, hl, hk, hs⟩, st⟩
end StrChars.Road
end Jvm.Pilot.@@N@@
namespace Jvm.OwnKit
open Sem ClassFile Op Lib Bundle Jvm.Stand Jvm.Free Jvm.LawKit Jvm.RoadKit
section K
variable {p : Program} {l : Launch} {e : Env} {R : Room} {s : State} {m : MethodId} {args : Array Value} {below : List Frame} {meth : Method} {c : Code} {Z : State} {a0 : Array Value} {EL : List (String × Nat)} {n0 : Nat} {own : String} {vm0 vm1 : Vm} {T T' : State} {h h' : Heap} {L L' : List Loc} {k n k' n' : Nat} {ss : List Addr} {P : Outcome → State → Prop} {U V : State} {pc : Nat} {Ls : Array Slot} {rest : List Value}
/-- what is left of a walk that stands at U: it ends, and P holds of its end -/
def Go (p : Program) (e : Env) (below : List Frame) (P : Outcome → State → Prop) (U : State) : Prop := ∃ s₂ o, Steps p.tables e below U s₂ ∧ s₂.status = .running ∧ Ended s₂ below o ∧ P o s₂
theorem Go.st (st : ∀ target, Steps p.tables e below V target → Steps p.tables e below U target) (G : Go p e below P V) : Go p e below P U := by
  obtain ⟨s₂, o, h1, r⟩ := G
  exact ⟨s₂, o, st _ h1, r⟩
theorem Go.tr (st : Steps p.tables e below U V) (G : Go p e below P V) : Go p e below P U := by
  obtain ⟨s₂, o, h1, r⟩ := G
  exact ⟨s₂, o, st.trans h1, r⟩
/-- none of these cells is a booked literal's -/
def Saf (Z : State) (EL : List (String × Nat)) (vm : Vm) (h : Heap) (ss : List Addr) : Prop := ∀ x ∈ ss, Safe Z EL vm h x ∧ x < h.size
theorem Saf.chr (S : Saf Z EL vm0 h ss) (A : CHr Z EL vm0 h vm1 h') : Saf Z EL vm1 h' ss := fun x hx => ⟨A.safe (S x hx).2 (S x hx).1, Nat.lt_of_lt_of_le (S x hx).2 A.2.1⟩
/-- where a walk stands that may load literals: the tables vm0, the state T, its heap h, what it has written and made -/
def Wk (p : Program) (l : Launch) (e : Env) (R : Room) (s : State) (m : MethodId) (args : Array Value) (below : List Frame) (meth : Method) (c : Code) (Z : State) (a0 : Array Value) (EL : List (String × Nat)) (n0 : Nat) (own : String) (vm0 : Vm) (T : State) (h : Heap) (L : List Loc) (k n : Nat) (ss : List Addr) : Prop :=
  Stand p l e R (s.setVm vm0) m args below meth c T L k n ∧ T.heap = h ∧ (∃ j, s.Since vm0 j ∧ j ≤ h.size) ∧ Z.Warmed39 vm0 ∧ vm0.findClass own = some m.cls ∧ CHr Z EL s.vm s.heap vm0 h ∧ Fr n0 L ∧ Old Z n0 h ∧ Saf Z EL vm0 h ss ∧ p.tables.exec = Jvm.exec ∧ EW Z a0 EL ∧ meth.locks = false
theorem Wk.X (W : Wk p l e R s m args below meth c Z a0 EL n0 own vm0 T h L k n ss) : Stand p l e R (s.setVm vm0) m args below meth c T L k n := W.1
theorem Wk.hp (W : Wk p l e R s m args below meth c Z a0 EL n0 own vm0 T h L k n ss) : T.heap = h := W.2.1
theorem Wk.sc (W : Wk p l e R s m args below meth c Z a0 EL n0 own vm0 T h L k n ss) : ∃ j, s.Since vm0 j ∧ j ≤ h.size := W.2.2.1
theorem Wk.hZ (W : Wk p l e R s m args below meth c Z a0 EL n0 own vm0 T h L k n ss) : Z.Warmed39 (s.setVm vm0).vm := W.2.2.2.1
theorem Wk.ho (W : Wk p l e R s m args below meth c Z a0 EL n0 own vm0 T h L k n ss) : (s.setVm vm0).vm.findClass own = some m.cls := W.2.2.2.2.1
theorem Wk.cr (W : Wk p l e R s m args below meth c Z a0 EL n0 own vm0 T h L k n ss) : CHr Z EL s.vm s.heap vm0 h := W.2.2.2.2.2.1
theorem Wk.cv (W : Wk p l e R s m args below meth c Z a0 EL n0 own vm0 T h L k n ss) : CHv Z EL vm0 h := W.cr.1
theorem Wk.fr (W : Wk p l e R s m args below meth c Z a0 EL n0 own vm0 T h L k n ss) : Fr n0 L := W.2.2.2.2.2.2.1
theorem Wk.old (W : Wk p l e R s m args below meth c Z a0 EL n0 own vm0 T h L k n ss) : Old Z n0 h := W.2.2.2.2.2.2.2.1
theorem Wk.sf (W : Wk p l e R s m args below meth c Z a0 EL n0 own vm0 T h L k n ss) : Saf Z EL vm0 h ss := W.2.2.2.2.2.2.2.2.1
theorem Wk.ex (W : Wk p l e R s m args below meth c Z a0 EL n0 own vm0 T h L k n ss) : p.tables.exec = Jvm.exec := W.2.2.2.2.2.2.2.2.2.1
theorem Wk.ew (W : Wk p l e R s m args below meth c Z a0 EL n0 own vm0 T h L k n ss) : EW Z a0 EL := W.2.2.2.2.2.2.2.2.2.2.1
theorem Wk.nl (W : Wk p l e R s m args below meth c Z a0 EL n0 own vm0 T h L k n ss) : meth.locks = false := W.2.2.2.2.2.2.2.2.2.2.2
theorem Wk.here (W : Wk p l e R s m args below meth c Z a0 EL n0 own vm0 T h L k n ss) : At T m c below := W.1.here
theorem Wk.n0le (W : Wk p l e R s m args below meth c Z a0 EL n0 own vm0 T h L k n ss) : n0 ≤ h.size := by have := W.old.2.1; rw [W.old.1] at this; exact this
/-- the case's start's heap stands in the heap at hand -/
theorem Wk.e0 (W : Wk p l e R s m args below meth c Z a0 EL n0 own vm0 T h L k n ss) : Ext Z.heap h := W.old.2
theorem Wk.same (W : Wk p l e R s m args below meth c Z a0 EL n0 own vm0 T h L k n ss) (X : Stand p l e R (s.setVm vm0) m args below meth c T' L k' n') (q : T'.heap = h) : Wk p l e R s m args below meth c Z a0 EL n0 own vm0 T' h L k' n' ss :=
  ⟨X, q, W.2.2⟩
theorem Wk.step (W : Wk p l e R s m args below meth c Z a0 EL n0 own vm0 T h L k n ss) (X : Stand p l e R (s.setVm vm1) m args below meth c T' L' k' n') (q : T'.heap = h') (S : ∃ j, s.Since vm1 j ∧ j ≤ h'.size) (hZ : Z.Warmed39 vm1) (ho : vm1.findClass own = some m.cls) (A : CHr Z EL vm0 h vm1 h') (F : Fr n0 L') (O : Old Z n0 h') : Wk p l e R s m args below meth c Z a0 EL n0 own vm1 T' h' L' k' n' ss :=
  ⟨X, q, S, hZ, ho, W.cr.trans A, F, O, W.sf.chr A, W.ex, W.ew, W.nl⟩
theorem Wk.stepE (W : Wk p l e R s m args below meth c Z a0 EL n0 own vm0 T h L k n ss) (X : Stand p l e R (s.setVm vm0) m args below meth c T' L k' n') (q : T'.heap = h') (E : Ext h h') : Wk p l e R s m args below meth c Z a0 EL n0 own vm0 T' h' L k' n' ss := by
  obtain ⟨j, S, hj⟩ := W.sc
  exact W.step X q ⟨j, S, Nat.le_trans hj E.1⟩ W.hZ W.ho (CHr.ext E W.cv) W.fr (W.old.ext E)
theorem Wk.stepK (W : Wk p l e R s m args below meth c Z a0 EL n0 own vm0 T h L k n ss) (X : Stand p l e R (s.setVm vm0) m args below meth c T' L' k' n') (q : T'.heap = h') {ws : List Addr} (K : Keep h h' ws) (hs : ∀ x ∈ ws, x ∈ ss) (hn : ∀ x ∈ ws, n0 ≤ x) (F : Fr n0 L') : Wk p l e R s m args below meth c Z a0 EL n0 own vm0 T' h' L' k' n' ss := by
  obtain ⟨j, S, hj⟩ := W.sc
  exact W.step X q ⟨j, S, Nat.le_trans hj K.1⟩ W.hZ W.ho (CHr.keep K (fun x hx => (W.sf x (hs x hx)).1) W.cv) F (W.old.keep K hn)
theorem Wk.stepW (W : Wk p l e R s m args below meth c Z a0 EL n0 own vm0 T h L k n ss) {a : Addr} {sl : Nat} {v : Value} (X : Stand p l e R (s.setVm vm0) m args below meth c T' (L ++ [⟨a, sl⟩]) k' n') (q : T'.heap = h') (Wr : Wr h h' a sl v) (hs : a ∈ ss) (hn : n0 ≤ a) : Wk p l e R s m args below meth c Z a0 EL n0 own vm0 T' h' (L ++ [⟨a, sl⟩]) k' n' ss :=
  W.stepK X q (Keep.of_wr Wr) (allS hs all0) (allS hn all0) (Fr.snoc X W.fr hn)
theorem Wk.cons (W : Wk p l e R s m args below meth c Z a0 EL n0 own vm0 T h L k n ss) {x : Addr} (S : Safe Z EL vm0 h x) (hx : x < h.size) : Wk p l e R s m args below meth c Z a0 EL n0 own vm0 T h L k n (x :: ss) :=
  ⟨W.X, W.hp, W.sc, W.hZ, W.ho, W.cr, W.fr, W.old, allS (P := fun x => Safe Z EL vm0 h x ∧ x < h.size) ⟨S, hx⟩ W.sf, W.ex, W.ew, W.nl⟩
theorem Wk.more (W : Wk p l e R s m args below meth c Z a0 EL n0 own vm0 T h L k n ss) (hk : k ≤ k') (hn : n ≤ n') : Wk p l e R s m args below meth c Z a0 EL n0 own vm0 T h L k' n' ss := ⟨W.1.more hk hn, W.2⟩
theorem Wk.sub {ss' : List Addr} (W : Wk p l e R s m args below meth c Z a0 EL n0 own vm0 T h L k n ss) (q : ∀ x ∈ ss', x ∈ ss) : Wk p l e R s m args below meth c Z a0 EL n0 own vm0 T h L k n ss' :=
  ⟨W.X, W.hp, W.sc, W.hZ, W.ho, W.cr, W.fr, W.old, fun x hx => W.sf x (q x hx), W.ex, W.ew, W.nl⟩
/-- where roads meet -/
theorem Wk.meet (W : Wk p l e R s m args below meth c Z a0 EL n0 own vm0 T h L k n ss) (hk : k ≤ k') (hn : n ≤ n') : Wk p l e R s m args below meth c Z a0 EL n0 own vm0 T h L k' n' [] := (W.more hk hn).sub all0
theorem Wk.consA (W : Wk p l e R s m args below meth c Z a0 EL n0 own vm0 T h L k n ss) {a : Addr} {kA : ClassId} {ty : FieldType} {z : Int32} {vs : List Value} {dv : Value} (F : Arv Z h a kA ty z vs dv) (ht : ty ≠ .byte) : Wk p l e R s m args below meth c Z a0 EL n0 own vm0 T h L k n (a :: ss) := by
  obtain ⟨cl, A, -⟩ := F
  exact W.cons (Safe.arr W.hZ.alike A ht) A.lt
theorem Wk.consE (W : Wk p l e R s m args below meth c Z a0 EL n0 own vm0 T h L k n ss) {a : Addr} {C : String} (E : Exa Z h a C) (h1 : C ≠ "java/lang/String") (h2 : C ≠ "[B") : Wk p l e R s m args below meth c Z a0 EL n0 own vm0 T h L k n (a :: ss) := W.cons (Safe.exa W.hZ.alike E h1 h2) E.lt
/-! one step each -/
theorem Wk.getF (W : Wk p l e R s m args below meth c Z a0 EL n0 own vm0 T h L k n ss) {R0 O nm d : String} {index : Nat} (w : (Cond.fieldLink own index R0 nm d).before a0 Z = true) (via : Via Z R0 O nm d) {a : Addr} {v : Value} (F : Fld Z h a O nm d v) (hd : decode c.code pc = .ok (.getfield index, 3))
    (K : ∀ T', Wk p l e R s m args below meth c Z a0 EL n0 own vm0 T' h L k n ss → Go p e below P (T'.setTop (mkF m (pc + 3) Ls (v :: rest)))) : Go p e below P (T.setTop (mkF m pc Ls (.ref a :: rest))) := by
  obtain ⟨T', X', e', st⟩ := RoadKit.getF W.X W.ex W.hZ W.ho (host := "") (Or.inl w) via W.hp F (g := mkF m pc Ls (.ref a :: rest)) rfl rfl hd
  exact Go.st st (K T' (W.same X' e'))
theorem Wk.getFN (W : Wk p l e R s m args below meth c Z a0 EL n0 own vm0 T h L k n ss) {R0 O nm d host : String} {index : Nat} (w : (Cond.fieldLinkNest own index R0 nm d host).before a0 Z = true) (via : Via Z R0 O nm d) {a : Addr} {v : Value} (F : Fld Z h a O nm d v) (hd : decode c.code pc = .ok (.getfield index, 3))
    (K : ∀ T', Wk p l e R s m args below meth c Z a0 EL n0 own vm0 T' h L k n ss → Go p e below P (T'.setTop (mkF m (pc + 3) Ls (v :: rest)))) : Go p e below P (T.setTop (mkF m pc Ls (.ref a :: rest))) := by
  obtain ⟨T', X', e', st⟩ := RoadKit.getF W.X W.ex W.hZ W.ho (Or.inr w) via W.hp F (g := mkF m pc Ls (.ref a :: rest)) rfl rfl hd
  exact Go.st st (K T' (W.same X' e'))
theorem Wk.getS (W : Wk p l e R s m args below meth c Z a0 EL n0 own vm0 T h L k n ss) {R0 O nm d : String} {index : Nat} (w : (Cond.fieldLink own index R0 nm d).before a0 Z = true) (via : Via Z R0 O nm d) {v : Value} (F : Sta Z h O nm d v) (hd : decode c.code pc = .ok (.getstatic index, 3))
    (K : ∀ T', Wk p l e R s m args below meth c Z a0 EL n0 own vm0 T' h L k n ss → Go p e below P (T'.setTop (mkF m (pc + 3) Ls (v :: rest)))) : Go p e below P (T.setTop (mkF m pc Ls rest)) := by
  obtain ⟨T', X', e', st⟩ := RoadKit.getS2 W.X W.ex W.hZ W.ho (host := "") (Or.inl w) via W.hp F (g := mkF m pc Ls rest) rfl hd
  exact Go.st st (K T' (W.same X' e'))
theorem Wk.putF (W : Wk p l e R s m args below meth c Z a0 EL n0 own vm0 T h L k n ss) {R0 O nm d C : String} {index kk : Nat} {ty : FieldType} (w : (Cond.fieldLink own index R0 nm d).before a0 Z = true) (via : Via Z R0 O nm d) {a : Addr} {v old : Value} (F : Fld Z h a O nm d old) (E : Exa Z h a C) (La : (Cond.lays C O nm d).before a0 Z = true ∨ ((Cond.laysFinal C O nm d).before a0 Z = true ∧ own = O ∧ meth.name = "<init>")) (wi : (Cond.instantiable C kk).before a0 Z = true)
    (hty : parseFieldDescriptor d = some ty) (hn : narrow ty v = v) (hf : fits ty v = true) (hs : a ∈ ss) (ha : n0 ≤ a) (hd : decode c.code pc = .ok (.putfield index, 3))
    (K : ∀ T' h' L', Wk p l e R s m args below meth c Z a0 EL n0 own vm0 T' h' L' k n ss → Wr h h' a (RoadKit.slotOf Z O nm d) v → Go p e below P (T'.setTop (mkF m (pc + 3) Ls rest))) : Go p e below P (T.setTop (mkF m pc Ls (v :: .ref a :: rest))) := by
  obtain ⟨T', h', X', e', w', st⟩ := RoadKit.putF W.X W.ex W.hZ W.ho (host := "") (Or.inl w) via W.hp F E La wi hty hn hf (g := mkF m pc Ls (v :: .ref a :: rest)) rfl rfl hd
  exact Go.st st (K T' h' _ (W.stepW X' e' w' hs ha) w')
theorem Wk.putFN (W : Wk p l e R s m args below meth c Z a0 EL n0 own vm0 T h L k n ss) {R0 O nm d C : String} {index kk : Nat} {ty : FieldType} (w : (Cond.fieldLink own index R0 nm d).before a0 Z = true) (via : Via Z R0 O nm d) {a : Addr} {v v' old : Value} (F : Fld Z h a O nm d old) (E : Exa Z h a C) (La : (Cond.lays C O nm d).before a0 Z = true ∨ ((Cond.laysFinal C O nm d).before a0 Z = true ∧ own = O ∧ meth.name = "<init>")) (wi : (Cond.instantiable C kk).before a0 Z = true)
    (hty : parseFieldDescriptor d = some ty) (hn : narrow ty v = v') (hf : fits ty v' = true) (hs : a ∈ ss) (ha : n0 ≤ a) (hd : decode c.code pc = .ok (.putfield index, 3))
    (K : ∀ T' h' L', Wk p l e R s m args below meth c Z a0 EL n0 own vm0 T' h' L' k n ss → Wr h h' a (RoadKit.slotOf Z O nm d) v' → Go p e below P (T'.setTop (mkF m (pc + 3) Ls rest))) : Go p e below P (T.setTop (mkF m pc Ls (v :: .ref a :: rest))) := by
  obtain ⟨T', h', X', e', w', st⟩ := RoadKit.putFN W.X W.ex W.hZ W.ho w via W.hp F E La wi hty hn hf (g := mkF m pc Ls (v :: .ref a :: rest)) rfl rfl hd
  exact Go.st st (K T' h' _ (W.stepW X' e' w' hs ha) w')
theorem Wk.newO (W : Wk p l e R s m args below meth c Z a0 EL n0 own vm0 T h L k n ss) {C : String} {index j : Nat} (w : (Cond.classLink own index C).before a0 Z = true) (wi : (Cond.instantiable C j).before a0 Z = true) (wz : (Cond.initialized C).before a0 Z = true) (hd : decode c.code pc = .ok (.new index, 3)) (hk : k + 1 = k') (hn : n + j = n') (hc : k' ≤ R.cells) (hl : n' ≤ R.slots)
    (K : ∀ T' h' b, b = h.size → n0 ≤ b → Wk p l e R s m args below meth c Z a0 EL n0 own vm0 T' h' L k' n' (b :: ss) → Ext h h' → Exa Z h' b C → (∀ {O nm d : String} {ty : FieldType}, Laid Z a0 C O nm d → parseFieldDescriptor d = some ty → Fld Z h' b O nm d (defaultValue ty)) → Go p e below P (T'.setTop (mkF m (pc + 3) Ls (.ref b :: rest)))) : Go p e below P (T.setTop (mkF m pc Ls rest)) := by
  subst hk hn
  obtain ⟨T', h', X', e', E, A, D, -, st⟩ := RoadKit.newO W.X W.ex W.hZ W.ho w wi wz W.hp (g := mkF m pc Ls rest) rfl hd hc hl
  have W' := W.stepE X' e' E
  exact Go.st st (K T' h' _ rfl W.n0le (W'.cons ((Safe.new (Nat.le_refl _)).ext E W.cv) A.lt) E A D)
theorem Wk.newP (W : Wk p l e R s m args below meth c Z a0 EL n0 own vm0 T h L k n ss) {aty : ArrayType} {ty : FieldType} {dv : Value} (hty : newarray.typeOf aty = ty) (hdv : defaultValue ty = dv) (w : (Cond.arrayClass ty).before a0 Z = true) (hd : decode c.code pc = .ok (.newarray aty, 2)) {z : Int32} (hz : ¬ z < 0) {cap : Nat} (hcap : z.toNatClampNeg ≤ cap) (hb : cap * 8 ≤ 536870912) (hk : k + 1 = k') (hn : n + cap = n') (hc : k' ≤ R.cells) (hl : n' ≤ R.slots)
    (K : ∀ T' h' b kA, b = h.size → n0 ≤ b → Wk p l e R s m args below meth c Z a0 EL n0 own vm0 T' h' L k' n' (b :: ss) → Ext h h' → Arv Z h' b kA ty z (List.replicate cap dv) dv → Go p e below P (T'.setTop (mkF m (pc + 2) Ls (.ref b :: rest)))) : Go p e below P (T.setTop (mkF m pc Ls (.int z :: rest))) := by
  subst hk hn hty hdv
  obtain ⟨T', h', cA, X', e', E, A, st⟩ := RoadKit.newP W.X W.ex W.hZ w W.hp (g := mkF m pc Ls (.int z :: rest)) rfl hd rfl hz hcap hb hc hl
  have W' := W.stepE X' e' E
  exact Go.st st (K T' h' _ cA rfl W.n0le (W'.cons ((Safe.new (Nat.le_refl _)).ext E W.cv) A.lt) E ((Arv.new A hz).pad (pad_rep [] _ cap)))
theorem Wk.alen (W : Wk p l e R s m args below meth c Z a0 EL n0 own vm0 T h L k n ss) {a : Addr} {kA : ClassId} {ty : FieldType} {z : Int32} {vs : List Value} {dv : Value} (F : Arv Z h a kA ty z vs dv) (hd : decode c.code pc = .ok (.arraylength, 1)) (G : Go p e below P (T.setTop (mkF m (pc + 1) Ls (.int z :: rest)))) : Go p e below P (T.setTop (mkF m pc Ls (.ref a :: rest))) := by
  obtain ⟨cl, A, q1, S, N, H, Gs⟩ := F
  rw [← len_of S N] at G
  exact Go.st (fun t => W.X.arraylength W.ex (by rw [W.hp]; exact A.1) (State.isArrayOf_alike W.hZ.alike A.2.1) (g := mkF m pc Ls (.ref a :: rest)) rfl rfl hd t) G
theorem inb {cl : Cell} {z j : Int32} (S : cl.slots.size = z.toNatClampNeg) (q : ¬ j < 0 ∧ j < z) : ¬ (j < 0 ∨ cl.slots.size ≤ j.toNatClampNeg) := inb_of S q
theorem Wk.ldC (W : Wk p l e R s m args below meth c Z a0 EL n0 own vm0 T h L k n ss) {a : Addr} {kA : ClassId} {z j : Int32} {vs : List Value} {dv v : Value} (F : Arv Z h a kA .char z vs dv) (q : ¬ j < 0 ∧ j < z) (hv : vs.getD j.toNatClampNeg dv = v) (hd : decode c.code pc = .ok (.caload, 1)) (G : Go p e below P (T.setTop (mkF m (pc + 1) Ls (v :: rest)))) : Go p e below P (T.setTop (mkF m pc Ls (.int j :: .ref a :: rest))) := by
  obtain ⟨cl, A, q1, S, N, H, Gs⟩ := F
  exact Go.st (fun t => W.X.caload W.ex (by rw [W.hp]; exact A.1) (State.isArrayOf_alike W.hZ.alike A.2.1) A.2.2 (inb S q) (H.at (inb S q) hv) (g := mkF m pc Ls (.int j :: .ref a :: rest)) rfl rfl hd t) G
theorem Wk.ldB (W : Wk p l e R s m args below meth c Z a0 EL n0 own vm0 T h L k n ss) {a : Addr} {kA : ClassId} {z j : Int32} {vs : List Value} {dv v : Value} (F : Arv Z h a kA .byte z vs dv) (q : ¬ j < 0 ∧ j < z) (hv : vs.getD j.toNatClampNeg dv = v) (hd : decode c.code pc = .ok (.baload, 1)) (G : Go p e below P (T.setTop (mkF m (pc + 1) Ls (v :: rest)))) : Go p e below P (T.setTop (mkF m pc Ls (.int j :: .ref a :: rest))) := by
  obtain ⟨cl, A, q1, S, N, H, Gs⟩ := F
  exact Go.st (fun t => W.X.baloadBytes W.ex (by rw [W.hp]; exact A.1) (State.isArrayOf_alike W.hZ.alike A.2.1) A.2.2 (inb S q) (H.at (inb S q) hv) (g := mkF m pc Ls (.int j :: .ref a :: rest)) rfl rfl hd t) G
theorem Wk.ldA (W : Wk p l e R s m args below meth c Z a0 EL n0 own vm0 T h L k n ss) {a : Addr} {kA : ClassId} {ty : FieldType} {z j : Int32} {vs : List Value} {dv v : Value} (F : Arv Z h a kA ty z vs dv) (hty : ty.isReference = true) (q : ¬ j < 0 ∧ j < z) (hv : vs.getD j.toNatClampNeg dv = v) (hd : decode c.code pc = .ok (.aaload, 1)) (G : Go p e below P (T.setTop (mkF m (pc + 1) Ls (v :: rest)))) : Go p e below P (T.setTop (mkF m pc Ls (.int j :: .ref a :: rest))) := by
  obtain ⟨cl, A, q1, S, N, H, Gs⟩ := F
  exact Go.st (fun t => W.X.aaload W.ex (by rw [W.hp]; exact A.1) (State.isArrayOf_alike W.hZ.alike A.2.1) hty A.2.2 (inb S q) (H.at (inb S q) hv) (g := mkF m pc Ls (.int j :: .ref a :: rest)) rfl rfl hd t) G
theorem Wk.stC (W : Wk p l e R s m args below meth c Z a0 EL n0 own vm0 T h L k n ss) {a : Addr} {kA : ClassId} {z j x : Int32} {vs : List Value} {dv : Value} (F : Arv Z h a kA .char z vs dv) (q : ¬ j < 0 ∧ j < z) (i : Nat) (hi : j.toNatClampNeg = i) (hl : i < vs.length) (hs : a ∈ ss) (ha : n0 ≤ a) (hd : decode c.code pc = .ok (.castore, 1))
    (K : ∀ T' h' L', Wk p l e R s m args below meth c Z a0 EL n0 own vm0 T' h' L' k n ss → Wr h h' a j.toNatClampNeg (.int (nar .char x)) → Arv Z h' a kA .char z (vs.set i (.int (nar .char x))) dv → Go p e below P (T'.setTop (mkF m (pc + 1) Ls rest))) : Go p e below P (T.setTop (mkF m pc Ls (.int x :: .int j :: .ref a :: rest))) := by
  obtain ⟨cl, A, q1, S, N, H, Gs⟩ := F
  obtain ⟨T', h', X', e', w', st⟩ := RoadKit.stC W.X W.ex W.hZ W.hp A (inb S q) (g := mkF m pc Ls (.int x :: .int j :: .ref a :: rest)) rfl rfl hd
  exact Go.st st (K T' h' _ (W.stepW X' e' w' hs ha) w' (Arv.set A q1 S N H Gs (fits_nar_char _) w' i hi hl))
theorem Wk.stB (W : Wk p l e R s m args below meth c Z a0 EL n0 own vm0 T h L k n ss) {a : Addr} {kA : ClassId} {z j x : Int32} {vs : List Value} {dv : Value} (F : Arv Z h a kA .byte z vs dv) (q : ¬ j < 0 ∧ j < z) (i : Nat) (hi : j.toNatClampNeg = i) (hl : i < vs.length) (hs : a ∈ ss) (ha : n0 ≤ a) (hd : decode c.code pc = .ok (.bastore, 1))
    (K : ∀ T' h' L', Wk p l e R s m args below meth c Z a0 EL n0 own vm0 T' h' L' k n ss → Wr h h' a j.toNatClampNeg (.int (nar .byte x)) → Arv Z h' a kA .byte z (vs.set i (.int (nar .byte x))) dv → Go p e below P (T'.setTop (mkF m (pc + 1) Ls rest))) : Go p e below P (T.setTop (mkF m pc Ls (.int x :: .int j :: .ref a :: rest))) := by
  obtain ⟨cl, A, q1, S, N, H, Gs⟩ := F
  obtain ⟨T', h', X', e', w', st⟩ := RoadKit.stB W.X W.ex W.hZ W.hp A (inb S q) (g := mkF m pc Ls (.int x :: .int j :: .ref a :: rest)) rfl rfl hd
  exact Go.st st (K T' h' _ (W.stepW X' e' w' hs ha) w' (Arv.set A q1 S N H Gs (fits_nar_byte _) w' i hi hl))
theorem Wk.castY (W : Wk p l e R s m args below meth c Z a0 EL n0 own vm0 T h L k n ss) {C : String} {index : Nat} (w : (Cond.classLink own index C).before a0 Z = true) {a : Addr} (F : Ins Z h a C true) (hd : decode c.code pc = .ok (.checkcast index, 3))
    (K : ∀ T', Wk p l e R s m args below meth c Z a0 EL n0 own vm0 T' h L k n ss → Go p e below P (T'.setTop (mkF m (pc + 3) Ls (.ref a :: rest)))) : Go p e below P (T.setTop (mkF m pc Ls (.ref a :: rest))) := by
  obtain ⟨T', X', e', st⟩ := RoadKit.castY W.X W.ex W.hZ W.ho w W.hp F (g := mkF m pc Ls (.ref a :: rest)) rfl rfl hd
  exact Go.st st (K T' (W.same X' e'))
theorem Wk.instY (W : Wk p l e R s m args below meth c Z a0 EL n0 own vm0 T h L k n ss) {C : String} {index : Nat} (w : (Cond.classLink own index C).before a0 Z = true) {a : Addr} (F : Ins Z h a C true) (hd : decode c.code pc = .ok (.instanceof index, 3))
    (K : ∀ T', Wk p l e R s m args below meth c Z a0 EL n0 own vm0 T' h L k n ss → Go p e below P (T'.setTop (mkF m (pc + 3) Ls (.int 1 :: rest)))) : Go p e below P (T.setTop (mkF m pc Ls (.ref a :: rest))) := by
  obtain ⟨T', X', e', st⟩ := RoadKit.instY W.X W.ex W.hZ W.ho w W.hp F (g := mkF m pc Ls (.ref a :: rest)) rfl rfl hd
  exact Go.st st (K T' (W.same X' e'))
theorem Wk.instN (W : Wk p l e R s m args below meth c Z a0 EL n0 own vm0 T h L k n ss) {C D : String} {index : Nat} (w : (Cond.classLink own index C).before a0 Z = true) {a : Addr} (E : Exa Z h a D) (F : ∃ c t, Z.vm.findClass D = some c ∧ Z.vm.findClass C = some t ∧ Z.vm.assignable c t = false) (hd : decode c.code pc = .ok (.instanceof index, 3))
    (K : ∀ T', Wk p l e R s m args below meth c Z a0 EL n0 own vm0 T' h L k n ss → Go p e below P (T'.setTop (mkF m (pc + 3) Ls (.int 0 :: rest)))) : Go p e below P (T.setTop (mkF m pc Ls (.ref a :: rest))) := by
  obtain ⟨T', X', e', st⟩ := RoadKit.instNo W.X W.ex W.hZ W.ho w W.hp E F (g := mkF m pc Ls (.ref a :: rest)) rfl rfl hd
  exact Go.st st (K T' (W.same X' e'))
theorem Wk.initO (W : Wk p l e R s m args below meth c Z a0 EL n0 own vm0 T h L k n ss) {index : Nat} (w1 : (Cond.methodLink own index Lib.objectInit).before a0 Z = true) (w2 : (Cond.instanceMethod Lib.objectInit).before a0 Z = true) (w3 : (Cond.code Lib.objectInit ⟨#[0xb1]⟩ 1 none).before a0 Z = true) (hsz : Ls.size = c.maxLocals) {a : Addr} (hd : decode c.code pc = .ok (.invokespecial index, 3)) (hf : 1 ≤ R.frames) {Wd : Nat} (hW : (rest.map fun v => v.category).sum ≤ Wd) (hl : Wd + 12 ≤ R.locals)
    (K : ∀ T', Wk p l e R s m args below meth c Z a0 EL n0 own vm0 T' h L k n ss → Go p e below P (T'.setTop (mkF m (pc + 3) Ls rest))) : Go p e below P (T.setTop (mkF m pc Ls (.ref a :: rest))) := by
  obtain ⟨T', X', e', st⟩ := RoadKit.initO W.X W.ex W.hZ W.ho w1 w2 w3 W.hp (g := mkF m pc Ls (.ref a :: rest)) rfl hsz rfl hd hf (W := Wd) (by show 2 * 0 + _ ≤ _; omega) hl
  exact Go.st st (K T' (W.same X' e'))
/-- an array's clone() -/
theorem Wk.clone (W : Wk p l e R s m args below meth c Z a0 EL n0 own vm0 T h L k n ss) {index : Nat} {ad : String} (w1 : (Cond.methodLink own index ⟨ad, "clone", "()Ljava/lang/Object;"⟩).before a0 Z = true) (w2 : (Cond.sameMethod ad "java/lang/Object" "clone" "()Ljava/lang/Object;").before a0 Z = true) (w3 : (Cond.native ⟨"java/lang/Object", "clone", "()Ljava/lang/Object;"⟩).before a0 Z = true)
    (w4 : (Cond.instanceMethod ⟨"java/lang/Object", "clone", "()Ljava/lang/Object;"⟩).before a0 Z = true) (w5 : (Cond.selects ad ⟨ad, "clone", "()Ljava/lang/Object;"⟩ ⟨"java/lang/Object", "clone", "()Ljava/lang/Object;"⟩).before a0 Z = true) (w6 : (Cond.castable ad "java/lang/Cloneable").before a0 Z = true)
    {a : Addr} {kA : ClassId} {ty : FieldType} {z : Int32} {vs : List Value} {dv : Value} (F : Arv Z h a kA ty z vs dv) (E : Exa Z h a ad) (hsz : Ls.size = c.maxLocals) (hd : decode c.code pc = .ok (.invokevirtual index, 3)) (hf : 1 ≤ R.frames) {Wd cap : Nat} (hW : (rest.map fun v => v.category).sum ≤ Wd) (hl : Wd + 14 ≤ R.locals) (hcap : z.toNatClampNeg ≤ cap) (hk : k + 1 = k') (hn : n + cap = n') (hc : k' ≤ R.cells) (hs : n' ≤ R.slots)
    (K : ∀ T' h' b, b = h.size → n0 ≤ b → Wk p l e R s m args below meth c Z a0 EL n0 own vm0 T' h' L k' n' (b :: ss) → Ext h h' → Arv Z h' b kA ty z vs dv → Exa Z h' b ad → Go p e below P (T'.setTop (mkF m (pc + 3) Ls (.ref b :: rest)))) : Go p e below P (T.setTop (mkF m pc Ls (.ref a :: rest))) := by
  subst hk hn
  obtain ⟨T', h', X', e', ex, A, E', st⟩ := RoadKit.cloneH W.X W.ex W.hZ W.ho w1 w2 w3 w4 w5 w6 W.hp F.arh E (g := mkF m pc Ls (.ref a :: rest)) rfl hsz rfl hd hf (W := Wd) (by show 2 * 0 + _ ≤ _; omega) hl hcap hc hs
  have W' := W.stepE X' e' ex
  exact Go.st st (K T' h' _ rfl W.n0le (W'.cons ((Safe.new (Nat.le_refl _)).ext ex W.cv) A.lt) ex A E')
/-- 'ldc' of a String constant of EL, read -/
theorem Wk.ldc (W : Wk p l e R s m args below meth c Z a0 EL n0 own vm0 T h L k n ss) {text : String} {index : Nat} (w : (Cond.stringLink own index text).before a0 Z = true) (wS : ∀ a ∈ Bundle.stringAtoms, a.before a0 Z = true) (hmem : (own, index) ∈ EL) {vs : List Value} {z : Int32} (ht : (∀ c ∈ text.toList, c.toNat < 256) ∧ text.toList.map (fun c => Value.int (Jvm.Lit.byteI c.toNat.toUInt16)) = vs) (hz : ¬ z < 0) (hlz : z.toNatClampNeg = vs.length)
    (hd : decode c.code pc = .ok (.ldc index, 2)) {j : Nat} (hj : 4 * text.toList.length ≤ j) (hbig : j ≤ 536870912) (hk : k + 2 = k') (hn : n + (j + 4) = n') (hc : k' ≤ R.cells) (hl : n' ≤ R.slots)
    (K : ∀ vm1 T' h' a b kA, Wk p l e R s m args below meth c Z a0 EL n0 own vm1 T' h' L k' n' ss → Ext h h' → Exa Z h' a "java/lang/String" → Fld Z h' a "java/lang/String" "coder" "B" (.int 0) → Fld Z h' a "java/lang/String" "value" "[B" (.ref b) → Arv Z h' b kA .byte z vs (.int 0) → (∀ x ∈ ss, x ≠ a ∧ x ≠ b) → Go p e below P (T'.setTop (mkF m (pc + 2) Ls (.ref a :: rest)))) : Go p e below P (T.setTop (mkF m pc Ls rest)) := by
  subst hk hn
  obtain ⟨j0, S, hj0⟩ := W.sc
  obtain ⟨a, T', h', k1, b, kA, X', e', E, S', hk1, hZ', ho', EA, FC, FV, AV, la, lb, A, -, ne, st⟩ := RoadKit.ldcCH W.X W.ex W.hZ W.ho w wS W.hp S hj0 W.ew hmem W.cv ht hz hlz (g := mkF m pc Ls rest) rfl hd hj hbig hc hl
  have W' := W.step X' e' ⟨k1, S', hk1⟩ hZ' ho' A W.fr (W.old.ext E)
  exact Go.st st (K T'.vm T' h' a b kA W' E EA FC FV AV fun x hx => ne x (W'.sf x hx).1)
end K
section C
variable {p : Program} {l : Launch} {e : Env} {R : Room} {s : State} {m : MethodId} {args : Array Value} {below : List Frame} {meth : Method} {c : Code} {Z : State} {a0 : Array Value} {EL : List (String × Nat)} {n0 : Nat} {own : String} {vm0 vm1 : Vm} {T T' : State} {h h' : Heap} {L L' : List Loc} {k n k' n' : Nat} {ss ss' : List Addr} {P : Outcome → State → Prop} {U V : State} {pc : Nat} {Ls : Array Slot} {rest : List Value}
/-- the end that a body owes -/
def Pst (Z : State) (EL : List (String × Nat)) (n0 : Nat) (s : State) (ck cn : Nat) (Q : Option Value → Vm → Heap → Prop) (o : Outcome) (U : State) : Prop :=
  ∃ v L, o = .returned v ∧ (Q v U.vm U.heap ∧ Fr n0 L ∧ Old Z n0 U.heap) ∧ CHr Z EL s.vm s.heap U.vm U.heap ∧ ReturnedEndW s o U L ck cn
/-- a body's contract: called with as' at the heap h, the cells ss no literal's, it returns with Q -/
def Ct (l : Launch) (Z : State) (EL : List (String × Nat)) (n0 : Nat) (ws : List Cond) (y : MethodName) (bytes : ByteArray) (maxL : Nat) (ret : Option FieldType) (rm : Room) (as' : Array Value) (ss : List Addr) (h : Heap) (Q : Option Value → Vm → Heap → Prop) : Prop :=
  MetFree l y (head1 (Cond.code y bytes maxL ret :: ws) rm) (fun a U => a = as' ∧ Z.Warmed39 U.vm ∧ U.heap = h ∧ CHv Z EL U.vm h ∧ Saf Z EL U.vm h ss) (fun _ _ _ _ _ => True) (fun _ U o U' => Pst Z EL n0 U rm.cells rm.slots Q o U')
theorem Ct.intro {ws : List Cond} {y : MethodName} {bytes : ByteArray} {maxL : Nat} {ret : Option FieldType} {rm : Room} {as' : Array Value} {Q : Option Value → Vm → Heap → Prop} (hx : plainFor y = true) (O : Old Z n0 h) (hew : EW Z a0 EL)
    (body : ∀ (p : Program) (e : Env) (s : State) (m : MethodId) (below : List Frame) (meth : Method) (c : Code) (s₁ : State), Wk p l e rm s m as' below meth c Z a0 EL n0 y.cls s.vm s₁ h [] 0 0 ss → c.code = bytes → c.maxLocals = maxL → meth.sig.returnType = ret → meth.name = y.name → Go p e below (Pst Z EL n0 s rm.cells rm.slots Q) (s₁.setTop (entryFrame m as' maxL))) :
    Ct l Z EL n0 ws y bytes maxL ret rm as' ss h Q := by
  refine MetFree.of_bodySF hx hisR ?_
  intro p e s m args below meth c s₁ Bd hml0 hP hK
  obtain ⟨rfl, hZ, hh, hcv, hsf⟩ := hP
  subst hh
  have X0 : Stand p l e rm s m args below meth c s₁ [] 0 0 := Stand.of_body Bd
  have e0 : s₁.heap = s.heap := by rw [Bd.state]; rfl
  exact body p e s m below meth c s₁ ⟨X0, e0, ⟨_, (State.WarmedH.refl s).since s.heap.size, Nat.le_refl _⟩, hZ, findClass_of_methodNamed Bd.named, CHr.refl hcv, Fr.nil n0, O, hsf, Bd.exec, hew, Bd.notSynchronized⟩ Bd.bytes hml0 Bd.returns (name_of_methodNamed Bd.named Bd.method).1
theorem Ct.mono {ws : List Cond} {y : MethodName} {bytes : ByteArray} {maxL : Nat} {ret : Option FieldType} {rm : Room} {as' : Array Value} {Q Q' : Option Value → Vm → Heap → Prop} (C : Ct l Z EL n0 ws y bytes maxL ret rm as' ss h Q) (q : ∀ v vm h', Q v vm h' → Q' v vm h') : Ct l Z EL n0 ws y bytes maxL ret rm as' ss h Q' := by
  intro p e ha hc hk s m args below hf happ hP hK
  obtain ⟨n, o, h1, h2, h3, v, L, h4, ⟨h5, h6⟩, h7⟩ := C p e ha hc hk s m args below hf happ hP hK
  exact ⟨n, o, h1, h2, h3, v, L, h4, ⟨q _ _ _ h5, h6⟩, h7⟩
theorem Wk.ret {v : Option Value} {ck cn : Nat} {Q : Option Value → Vm → Heap → Prop} {g : JFrame} (W : Wk p l e R s m args below meth c Z a0 EL n0 own vm0 T h L k n ss) (hv : meth.sig.returnType = none → v = none) (hk : k ≤ ck) (hn : n ≤ cn)
    (st : ∀ fs, (∀ (f : JFrame) (acts : List Action), f.method = m → f.locked = none → f.entered = [] → (doReturn e (T.setTop f) acts v).1 = T.setFrames fs) → Steps p.tables e below (T.setTop g) (T.setFrames fs)) (q : ∀ vm1, CHr Z EL vm0 h vm1 h → Q v vm1 h) : Go p e below (Pst Z EL n0 s ck cn Q) (T.setTop g) := by
  obtain ⟨j, S, hj⟩ := W.sc
  have hj' : j ≤ T.heap.size := by rw [W.hp]; exact hj
  obtain ⟨fs, hr, hrun, hend, r1, r2, r3, r4⟩ := W.X.leaveW S hj' (v := v) hv W.nl
  have A := CHv.at W.X W.hZ W.ew W.cv
  have e1 : (T.setFrames fs).heap = h := W.hp
  refine ⟨_, _, st fs hr, hrun, hend, v, L, rfl, ⟨?_, W.fr, ?_⟩, ?_, r1, r2, r3, r4.mono hk hn⟩
  · rw [e1]; exact q _ A
  · rw [e1]; exact W.old
  · rw [e1]; exact W.cr.trans A
theorem Wk.retV {ck cn : Nat} {Q : Option Value → Vm → Heap → Prop} (W : Wk p l e R s m args below meth c Z a0 EL n0 own vm0 T h L k n ss) (hret : meth.sig.returnType = none) (hd : decode c.code pc = .ok (.return_, 1)) (hk : k ≤ ck) (hn : n ≤ cn) (q : ∀ vm1, CHr Z EL vm0 h vm1 h → Q none vm1 h) : Go p e below (Pst Z EL n0 s ck cn Q) (T.setTop (mkF m pc Ls [])) :=
  W.ret (fun _ => rfl) hk hn (fun fs hr => W.X.returnOut W.ex hret hd hr) q
theorem Wk.retA {ck cn : Nat} {Q : Option Value → Vm → Heap → Prop} {v : Value} {t : FieldType} (W : Wk p l e R s m args below meth c Z a0 EL n0 own vm0 T h L k n ss) (hret : meth.sig.returnType = some t) (ht : t.isReference = true) (hv : v.isRef = true) (hd : decode c.code pc = .ok (.areturn, 1)) (hk : k ≤ ck) (hn : n ≤ cn) (q : ∀ vm1, CHr Z EL vm0 h vm1 h → Q (some v) vm1 h) : Go p e below (Pst Z EL n0 s ck cn Q) (T.setTop (mkF m pc Ls (v :: rest))) :=
  W.ret (fun h => by rw [hret] at h; cases h) hk hn (fun fs hr => retOut W.X W.ex hret (by rcases ref_cases hv with rfl | ⟨z, rfl⟩ <;> cases t <;> first | rfl | cases ht) (Or.inr (Or.inr (Or.inr (Or.inr ⟨rfl, ht, hv⟩)))) hd hr) q
theorem Wk.retI {ck cn : Nat} {Q : Option Value → Vm → Heap → Prop} {z : Int32} (W : Wk p l e R s m args below meth c Z a0 EL n0 own vm0 T h L k n ss) (hret : meth.sig.returnType = some .int) (hd : decode c.code pc = .ok (.ireturn, 1)) (hk : k ≤ ck) (hn : n ≤ cn) (q : ∀ vm1, CHr Z EL vm0 h vm1 h → Q (some (.int z)) vm1 h) : Go p e below (Pst Z EL n0 s ck cn Q) (T.setTop (mkF m pc Ls (.int z :: rest))) :=
  W.ret (fun h => by rw [hret] at h; cases h) hk hn (fun fs hr => retOut W.X W.ex hret rfl (Or.inl ⟨rfl, Or.inl rfl, z, rfl⟩) hd hr) q
theorem Wk.retN {ck cn : Nat} {Q : Option Value → Vm → Heap → Prop} {z : Int32} {t : FieldType} (W : Wk p l e R s m args below meth c Z a0 EL n0 own vm0 T h L k n ss) (hret : meth.sig.returnType = some t) (ht : t = .boolean ∨ t = .byte ∨ t = .char ∨ t = .short) (hd : decode c.code pc = .ok (.ireturn, 1)) (hk : k ≤ ck) (hn : n ≤ cn) (q : ∀ vm1, CHr Z EL vm0 h vm1 h → Q (some (.int (nar t z))) vm1 h) : Go p e below (Pst Z EL n0 s ck cn Q) (T.setTop (mkF m pc Ls (.int z :: rest))) :=
  W.ret (fun h => by rw [hret] at h; cases h) hk hn (fun fs hr => RoadKit.retN W.X W.ex hret ht hd hr) q
/-- a contract pays a call -/
theorem Ct.back {y : MethodName} {bytes : ByteArray} {maxL : Nat} {ret : Option FieldType} {rm : Room} {as' : Array Value} {Q : Option Value → Vm → Heap → Prop} {len Wd : Nat} (C : Ct l Z EL n0 [] y bytes maxL ret rm as' ss' h Q) (W : Wk p l e R s m args below meth c Z a0 EL n0 own vm0 T h L k n ss) (wc : (Cond.code y bytes maxL ret).before a0 Z = true) (wz : (Cond.initialized y.cls).before a0 Z = true) (hss : ∀ x ∈ ss', x ∈ ss) (hf : rm.frames + 1 ≤ R.frames) (hl : Wd + (maxL + 11) + rm.locals ≤ R.locals) :
    BackS l R p e below (s.setVm vm0) args y len Wd (fun A a => a = as' ∧ A.U.heap = h ∧ A.cells + rm.cells ≤ R.cells ∧ A.slots + rm.slots ≤ R.slots)
      (fun A _ v B => ∃ L', (Q v B.U.vm B.U.heap ∧ Fr n0 L' ∧ Old Z n0 B.U.heap) ∧ B.locs = A.locs ++ L' ∧ B.cells = A.cells + rm.cells ∧ B.slots = A.slots + rm.slots ∧ CHr Z EL vm0 h B.U.vm B.U.heap) :=
  BackS.of_freeW (bytes := bytes) (maxL := maxL) (ret := ret) (E := fun _ first o t L' k' n' => k' = rm.cells ∧ n' = rm.slots ∧ (∃ v, o = .returned v ∧ (Q v t.vm t.heap ∧ Fr n0 L' ∧ Old Z n0 t.heap)) ∧ CHr Z EL first.vm first.heap t.vm t.heap) C hf hl
    (fun m' meth' c' A a Y hp => by
      have hU : Z.Warmed39 A.U.vm := wtrans (s := s.setVm vm0) W.hZ Y.warmed
      exact ⟨by show (Cond.and _ .tt).before a A.U = true; rw [Cond.before_and, mv hU wc]; rfl, mv hU wc, mv hU wz, hp.2.2.1, hp.2.2.2⟩)
    (fun m' meth' c' A a g mk Y hp => by
      have A0 : CHr Z EL vm0 h A.U.vm h := CHv.at Y W.hZ W.ew W.cv
      have A1 : Saf Z EL vm0 h ss' := fun x hx => W.sf x (hss x hx)
      exact ⟨hp.1, wtrans (s := s.setVm vm0) W.hZ Y.warmed, hp.2.1, A0.1, A1.chr A0⟩) (fun _ _ _ _ _ _ _ _ _ => trivial)
    (fun _ _ _ _ ⟨v, L', h1, h2, h3, h4⟩ => ⟨L', _, _, h4, rfl, rfl, ⟨v, h1, h2⟩, h3⟩)
    (fun m' meth' c' A a g mk v t L' k' n' Y hp _ _ ⟨e1, e2, ⟨v', e3, e4⟩, e5⟩ => by
      cases e3; subst e1 e2
      refine ⟨L', e4, rfl, rfl, rfl, (CHv.at Y W.hZ W.ew W.cv).trans ?_⟩
      rw [← hp.2.1]; exact e5)
/-- behind a call that may have interned -/
theorem Wk.behind {B : Pt} {n1 : Nat} (W : Wk p l e R s m args below meth c Z a0 EL n0 own vm0 T h L k n ss) (X : Stand p l e R ((s.setVm vm0).setVm B.U.vm) m args below meth c B.U B.locs B.cells B.slots) (S : (s.setVm vm0).Since B.U.vm B.U.heap.size) (g : T.heap.size ≤ B.U.heap.size) (hl : B.locs = L ++ L') (F : Fr n0 L') (O : Old Z n0 B.U.heap) (A : CHr Z EL vm0 h B.U.vm B.U.heap) (hk : B.cells = k') (hn : B.slots = n') : Wk p l e R s m args below meth c Z a0 EL n0 own B.U.vm B.U B.U.heap (L ++ L') k' n' ss := by
  obtain ⟨j, S0, hj⟩ := W.sc
  obtain ⟨X', S', hZ', ho'⟩ := rebS (n1 := T.heap.size) S0 (by rw [W.hp]; exact hj) X S g W.hZ W.ho
  subst hk hn
  rw [← hl]
  exact W.step X' rfl ⟨_, S', Nat.le_refl _⟩ hZ' ho' A (by rw [hl]; exact W.fr.app F) O
theorem Wk.callS (W : Wk p l e R s m args below meth c Z a0 EL n0 own vm0 T h L k n ss) {index : Nat} {y : MethodName} {bytes : ByteArray} {maxL : Nat} {ret : Option FieldType} {rm : Room} {as' : Array Value} {Q : Option Value → Vm → Heap → Prop} {Wd : Nat} {st argsL : List Value} (w1 : (Cond.methodLink own index y).before a0 Z = true) (w2 : (Cond.static y).before a0 Z = true) (w3 : (Cond.initialized y.cls).before a0 Z = true) (w4 : (Cond.code y bytes maxL ret).before a0 Z = true) (hy : y.cls ≠ "java/lang/invoke/MethodHandle" ∧ y.cls ≠ "java/lang/invoke/VarHandle")
    (C : Ct l Z EL n0 [] y bytes maxL ret rm as' ss' h Q) (hss : ∀ x ∈ ss', x ∈ ss) (hf : rm.frames + 1 ≤ R.frames) (hl : Wd + (maxL + 11) + rm.locals ≤ R.locals) (hk : k + rm.cells = k') (hn : n + rm.slots = n') (hc : k' ≤ R.cells) (hs : n' ≤ R.slots) (hsz : Ls.size = c.maxLocals) (ha : argsL.toArray = as') (hlen : ∀ sig, parseMethodDescriptor y.desc = some sig → argsL.length = sig.parameters.length) (hst : st = argsL.reverse ++ rest) (hW : (rest.map fun v => v.category).sum ≤ Wd) (hd : decode c.code pc = .ok (.invokestatic index, 3))
    (K : ∀ v vm1 T' h' L', Wk p l e R s m args below meth c Z a0 EL n0 own vm1 T' h' L' k' n' ss → Q v vm1 h' → Go p e below P (T'.setTop (mkF m (pc + 3) Ls (v.toList ++ rest)))) : Go p e below P (T.setTop (mkF m pc Ls st)) := by
  subst hk hn ha hst
  obtain ⟨v, vm₁, B, -, X', S', g', ⟨L', ⟨q1, q2, q3⟩, q4, q5, q6, q7⟩, stp⟩ := RoadKit.callSS W.X W.ex W.ho (mvT W.hZ w1) (mvT W.hZ w2) (mvT W.hZ w3) (mvT W.hZ w4) hy (C.back (len := 3) (Wd := Wd) W w4 w3 hss hf hl) (g := mkF m pc Ls (argsL.reverse ++ rest)) rfl hsz (argsL := argsL) (rest := rest) hlen rfl (by show 2 * 0 + _ ≤ _; omega) hd (fun _ _ => ⟨rfl, W.hp, hc, hs⟩)
  exact Go.tr stp (K v _ _ _ _ (W.behind (n1 := 0) X' S' g' q4 q2 q3 q7 q5 q6) q1)
theorem Wk.callI (W : Wk p l e R s m args below meth c Z a0 EL n0 own vm0 T h L k n ss) {index : Nat} {y : MethodName} {bytes : ByteArray} {maxL : Nat} {rm : Room} {as' : Array Value} {Q : Option Value → Vm → Heap → Prop} {Wd : Nat} {st argsL : List Value} {a : Addr} (hy1 : y.name = "<init>") (w1 : (Cond.methodLink own index y).before a0 Z = true) (w2 : (Cond.instanceMethod y).before a0 Z = true) (w3 : (Cond.initialized y.cls).before a0 Z = true) (w4 : (Cond.code y bytes maxL none).before a0 Z = true) (hy : y.cls ≠ "java/lang/invoke/MethodHandle" ∧ y.cls ≠ "java/lang/invoke/VarHandle")
    (C : Ct l Z EL n0 [] y bytes maxL none rm as' ss' h Q) (hss : ∀ x ∈ ss', x ∈ ss) (hf : rm.frames + 1 ≤ R.frames) (hl : Wd + (maxL + 11) + rm.locals ≤ R.locals) (hk : k + rm.cells = k') (hn : n + rm.slots = n') (hc : k' ≤ R.cells) (hs : n' ≤ R.slots) (hsz : Ls.size = c.maxLocals) (ha : (Value.ref a :: argsL).toArray = as') (hlen : ∀ sig, parseMethodDescriptor y.desc = some sig → argsL.length = sig.parameters.length) (hst : st = argsL.reverse ++ .ref a :: rest) (hW : (rest.map fun v => v.category).sum ≤ Wd) (hd : decode c.code pc = .ok (.invokespecial index, 3))
    (K : ∀ v vm1 T' h' L', Wk p l e R s m args below meth c Z a0 EL n0 own vm1 T' h' L' k' n' ss → Q v vm1 h' → Go p e below P (T'.setTop (mkF m (pc + 3) Ls (v.toList ++ rest)))) : Go p e below P (T.setTop (mkF m pc Ls st)) := by
  subst hk hn ha hst
  obtain ⟨v, vm₁, B, -, X', S', g', ⟨L', ⟨q1, q2, q3⟩, q4, q5, q6, q7⟩, stp⟩ := W.X.specialBackS W.ex hy1 W.ho (mvT W.hZ w1) (mvT W.hZ w2) (mvT W.hZ w4) hy (C.back (len := 3) (Wd := Wd) W w4 w3 hss hf hl) (g := mkF m pc Ls (argsL.reverse ++ .ref a :: rest)) rfl hsz (Steps.refl _) (argsL := argsL) (rest := rest) hlen rfl (by show 2 * 0 + _ ≤ _; omega) hd (fun _ _ => ⟨rfl, W.hp, hc, hs⟩)
  exact Go.tr stp (K v _ _ _ _ (W.behind (n1 := 0) X' S' g' q4 q2 q3 q7 q5 q6) q1)
theorem Wk.callV (W : Wk p l e R s m args below meth c Z a0 EL n0 own vm0 T h L k n ss) {D : String} {index : Nat} {y z : MethodName} {bytes : ByteArray} {maxL : Nat} {ret : Option FieldType} {rm : Room} {as' : Array Value} {Q : Option Value → Vm → Heap → Prop} {Wd : Nat} {st argsL : List Value} {a : Addr} (w1 : (Cond.methodLink own index y).before a0 Z = true) (w2 : (Cond.declares y).before a0 Z = true) (w5 : (Cond.selects D y z).before a0 Z = true) (w6 : (Cond.instanceMethod z).before a0 Z = true) (w3 : (Cond.initialized z.cls).before a0 Z = true) (w4 : (Cond.code z bytes maxL ret).before a0 Z = true) (nf : NotFace (s.setVm vm0) y) (hy : y.cls ≠ "java/lang/invoke/MethodHandle" ∧ y.cls ≠ "java/lang/invoke/VarHandle")
    (E : Exa Z h a D) (C : Ct l Z EL n0 [] z bytes maxL ret rm as' ss' h Q) (hss : ∀ x ∈ ss', x ∈ ss) (hf : rm.frames + 1 ≤ R.frames) (hl : Wd + (maxL + 11) + rm.locals ≤ R.locals) (hk : k + rm.cells = k') (hn : n + rm.slots = n') (hc : k' ≤ R.cells) (hs : n' ≤ R.slots) (hsz : Ls.size = c.maxLocals) (ha : (Value.ref a :: argsL).toArray = as') (hlen : ∀ sig, parseMethodDescriptor y.desc = some sig → argsL.length = sig.parameters.length) (hst : st = argsL.reverse ++ .ref a :: rest) (hW : (rest.map fun v => v.category).sum ≤ Wd) (hd : decode c.code pc = .ok (.invokevirtual index, 3))
    (K : ∀ v vm1 T' h' L', Wk p l e R s m args below meth c Z a0 EL n0 own vm1 T' h' L' k' n' ss → Q v vm1 h' → Go p e below P (T'.setTop (mkF m (pc + 3) Ls (v.toList ++ rest)))) : Go p e below P (T.setTop (mkF m pc Ls st)) := by
  subst hk hn ha hst
  obtain ⟨cB, kB, i1, i2, i3⟩ := isOf W.hZ W.hp E
  obtain ⟨v, vm₁, B, -, X', S', g', ⟨L', ⟨q1, q2, q3⟩, q4, q5, q6, q7⟩, stp⟩ := W.X.virtualBackS W.ex W.ho (mvT W.hZ w1) (mvT W.hZ w2) nf (mvT W.hZ w5) (mvT W.hZ w6) hy (C.back (len := 3) (Wd := Wd) W w4 w3 hss hf hl) i1 i3 (g := mkF m pc Ls (argsL.reverse ++ .ref a :: rest)) rfl hsz (Steps.refl _) (argsL := argsL) (rest := rest) hlen rfl (by show 2 * 0 + _ ≤ _; omega) hd (fun _ _ => ⟨rfl, W.hp, hc, hs⟩)
  exact Go.tr stp (K v _ _ _ _ (W.behind (n1 := 0) X' S' g' q4 q2 q3 q7 q5 q6) q1)
theorem Wk.nf (W : Wk p l e R s m args below meth c Z a0 EL n0 own vm0 T h L k n ss) {D : String} {y : MethodName} (w5 : (Cond.selects D y y).before a0 Z = true) : NotFace (s.setVm vm0) y := notFace_of_selects (args := #[]) (mvT W.hZ w5)
/-- a law of the library's pays a call -/
theorem Wk.libI (W : Wk p l e R s m args below meth c Z a0 EL n0 own vm0 T h L k n ss) {index : Nat} {y : MethodName} {bytes : ByteArray} {maxL : Nat} {as' : Array Value} {Q : Option Value → Heap → List Loc → Prop} {ws : List Addr} {Wd ck cn : Nat} {st argsL : List Value} {a : Addr} (hy1 : y.name = "<init>") (w1 : (Cond.methodLink own index y).before a0 Z = true) (w2 : (Cond.instanceMethod y).before a0 Z = true) (w4 : (Cond.code y bytes maxL none).before a0 Z = true) (hy : y.cls ≠ "java/lang/invoke/MethodHandle" ∧ y.cls ≠ "java/lang/invoke/VarHandle")
    (hB : Back l R p e below (s.setVm vm0) args y 3 Wd (fun A a => a = as' ∧ A.U.heap = h ∧ A.cells + ck ≤ R.cells ∧ A.slots + cn ≤ R.slots) (fun A _ v B => ∃ L', Q v B.U.heap L' ∧ B.locs = A.locs ++ L' ∧ B.cells = A.cells + ck ∧ B.slots = A.slots + cn)) (hQ : ∀ v h' L', Q v h' L' → Fr n0 L' ∧ Keep h h' ws) (hws : ∀ x ∈ ws, x ∈ ss) (hwn : ∀ x ∈ ws, n0 ≤ x)
    (hk : k + ck = k') (hn : n + cn = n') (hc : k' ≤ R.cells) (hs : n' ≤ R.slots) (hsz : Ls.size = c.maxLocals) (ha : (Value.ref a :: argsL).toArray = as') (hlen : ∀ sig, parseMethodDescriptor y.desc = some sig → argsL.length = sig.parameters.length) (hst : st = argsL.reverse ++ .ref a :: rest) (hW : (rest.map fun v => v.category).sum ≤ Wd) (hd : decode c.code pc = .ok (.invokespecial index, 3))
    (K : ∀ v T' h' L0 L', Wk p l e R s m args below meth c Z a0 EL n0 own vm0 T' h' L' k' n' ss → Q v h' L0 → Go p e below P (T'.setTop (mkF m (pc + 3) Ls (v.toList ++ rest)))) : Go p e below P (T.setTop (mkF m pc Ls st)) := by
  subst hk hn ha hst
  obtain ⟨v, vm₁, B, -, X', ⟨L', q1, q4, q5, q6⟩, stp⟩ := W.X.specialBack W.ex hy1 W.ho (mvT W.hZ w1) (mvT W.hZ w2) (mvT W.hZ w4) hy hB (g := mkF m pc Ls (argsL.reverse ++ .ref a :: rest)) rfl hsz (Steps.refl _) (argsL := argsL) (rest := rest) hlen rfl (by show 2 * 0 + _ ≤ _; omega) hd (fun _ _ => ⟨rfl, W.hp, hc, hs⟩)
  obtain ⟨r1, r2⟩ := hQ _ _ _ q1
  have e4 : B.locs = L ++ L' := q4
  have e5 : B.cells = k + ck := q5
  have e6 : B.slots = n + cn := q6
  rw [e5, e6] at X'
  exact Go.tr stp (K v _ _ _ _ (W.stepK X' rfl r2 hws hwn (by rw [e4]; exact W.fr.app r1)) q1)
theorem Wk.libV (W : Wk p l e R s m args below meth c Z a0 EL n0 own vm0 T h L k n ss) {D : String} {index : Nat} {y z : MethodName} {as' : Array Value} {Q : Option Value → Heap → List Loc → Prop} {ws : List Addr} {Wd ck cn : Nat} {st argsL : List Value} {a : Addr} (w1 : (Cond.methodLink own index y).before a0 Z = true) (w2 : (Cond.declares y).before a0 Z = true) (w5 : (Cond.selects D y z).before a0 Z = true) (w6 : (Cond.instanceMethod z).before a0 Z = true) (nf : NotFace (s.setVm vm0) y) (hy : y.cls ≠ "java/lang/invoke/MethodHandle" ∧ y.cls ≠ "java/lang/invoke/VarHandle") (E : Exa Z h a D)
    (hB : Back l R p e below (s.setVm vm0) args z 3 Wd (fun A a => a = as' ∧ A.U.heap = h ∧ A.cells + ck ≤ R.cells ∧ A.slots + cn ≤ R.slots) (fun A _ v B => ∃ L', Q v B.U.heap L' ∧ B.locs = A.locs ++ L' ∧ B.cells = A.cells + ck ∧ B.slots = A.slots + cn)) (hQ : ∀ v h' L', Q v h' L' → Fr n0 L' ∧ Keep h h' ws) (hws : ∀ x ∈ ws, x ∈ ss) (hwn : ∀ x ∈ ws, n0 ≤ x)
    (hk : k + ck = k') (hn : n + cn = n') (hc : k' ≤ R.cells) (hs : n' ≤ R.slots) (hsz : Ls.size = c.maxLocals) (ha : (Value.ref a :: argsL).toArray = as') (hlen : ∀ sig, parseMethodDescriptor y.desc = some sig → argsL.length = sig.parameters.length) (hst : st = argsL.reverse ++ .ref a :: rest) (hW : (rest.map fun v => v.category).sum ≤ Wd) (hd : decode c.code pc = .ok (.invokevirtual index, 3))
    (K : ∀ v T' h' L0 L', Wk p l e R s m args below meth c Z a0 EL n0 own vm0 T' h' L' k' n' ss → Q v h' L0 → Go p e below P (T'.setTop (mkF m (pc + 3) Ls (v.toList ++ rest)))) : Go p e below P (T.setTop (mkF m pc Ls st)) := by
  subst hk hn ha hst
  obtain ⟨cB, kB, i1, i2, i3⟩ := isOf W.hZ W.hp E
  obtain ⟨v, vm₁, B, -, X', ⟨L', q1, q4, q5, q6⟩, stp⟩ := W.X.virtualBack W.ex W.ho (mvT W.hZ w1) (mvT W.hZ w2) nf (mvT W.hZ w5) (mvT W.hZ w6) hy hB i1 i3 (g := mkF m pc Ls (argsL.reverse ++ .ref a :: rest)) rfl hsz (Steps.refl _) (argsL := argsL) (rest := rest) hlen rfl (by show 2 * 0 + _ ≤ _; omega) hd (fun _ _ => ⟨rfl, W.hp, hc, hs⟩)
  obtain ⟨r1, r2⟩ := hQ _ _ _ q1
  have e4 : B.locs = L ++ L' := q4
  have e5 : B.cells = k + ck := q5
  have e6 : B.slots = n + cn := q6
  rw [e5, e6] at X'
  exact Go.tr stp (K v _ _ _ _ (W.stepK X' rfl r2 hws hwn (by rw [e4]; exact W.fr.app r1)) q1)
end C
end Jvm.OwnKit
namespace Jvm.OwnKit
open Sem ClassFile Op Lib Bundle Jvm.Stand Jvm.Free Jvm.LawKit Jvm.RoadKit
section St
variable {Z : State} {h h' : Heap} {a t : Addr} {cs : List Int32}
abbrev bsOf (cs : List Int32) : List Value := (cs.map fun c => c.toInt8.toInt32).map Value.int
def Ch8 (cs : List Int32) : Prop := ∀ c ∈ cs, ¬ c < 0 ∧ ¬ (255 : Int32) < c
/-- the object at a is a String whose bytes lie at t and spell cs -/
def StrAt (Z : State) (h : Heap) (a t : Addr) (cs : List Int32) : Prop := Exa Z h a "java/lang/String" ∧ Fld Z h a "java/lang/String" "coder" "B" (.int 0) ∧ Fld Z h a "java/lang/String" "value" "[B" (.ref t) ∧ (∃ kb, Arv Z h t kb .byte (Int32.ofNat cs.length) (bsOf cs) (.int 0)) ∧ Ch8 cs ∧ cs.length ≤ 4000
theorem StrAt.E (S : StrAt Z h a t cs) : Exa Z h a "java/lang/String" := S.1
theorem StrAt.ext (S : StrAt Z h a t cs) (E : Ext h h') : StrAt Z h' a t cs := by
  obtain ⟨s1, s2, s3, ⟨kb, s4⟩, s5⟩ := S
  exact ⟨s1.ext E, s2.ext E, s3.ext E, ⟨kb, s4.ext E⟩, s5⟩
theorem StrAt.keep {ws : List Addr} (S : StrAt Z h a t cs) (K : Keep h h' ws) (q1 : a ∉ ws) (q2 : t ∉ ws) : StrAt Z h' a t cs := by
  obtain ⟨s1, s2, s3, ⟨kb, s4⟩, s5⟩ := S
  exact ⟨s1.keep K, s2.keep K q1, s3.keep K q1, ⟨kb, s4.keep K q2⟩, s5⟩
theorem StrAt.wr {b : Addr} {sl : Nat} {v : Value} (S : StrAt Z h a t cs) (W : Wr h h' b sl v) (q1 : a ≠ b) (q2 : t ≠ b) : StrAt Z h' a t cs := S.keep (Keep.of_wr W) (ninS q1 nin0) (ninS q2 nin0)
theorem StrAt.lt (S : StrAt Z h a t cs) : a < h.size := S.1.lt
theorem StrAt.ltt (S : StrAt Z h a t cs) : t < h.size := by obtain ⟨s1, s2, s3, ⟨kb, s4⟩, s5⟩ := S; exact s4.lt
theorem StrAt.neC {x : Addr} {C : String} (S : StrAt Z h a t cs) (E : Exa Z h x C) (hn : C ≠ "java/lang/String") : a ≠ x := fun q => (Exa.ne E S.1 hn) q.symm
theorem StrAt.neT {x : Addr} {C : String} {n : Nat} {a0 : Array Value} (S : StrAt Z h a t cs) (E : Exa Z h x C) (w : (Cond.instantiable C n).before a0 Z = true) : t ≠ x := by
  obtain ⟨s1, s2, s3, ⟨kb, s4⟩, s5⟩ := S
  exact fun q => (Exa.neArv E s4 w) q.symm
theorem StrAt.kb (S : StrAt Z h a t cs) : ∃ kb, Arv Z h t kb .byte (Int32.ofNat cs.length) (bsOf cs) (.int 0) := S.2.2.2.1
theorem StrAt.ch (S : StrAt Z h a t cs) : Ch8 cs := S.2.2.2.2.1
theorem StrAt.le (S : StrAt Z h a t cs) : cs.length ≤ 4000 := S.2.2.2.2.2
theorem Ch8.nil : Ch8 [] := fun _ q => nomatch q
theorem Ch8.cons {c : Int32} (h1 : ¬ c < 0 ∧ ¬ (255 : Int32) < c) (h2 : Ch8 cs) : Ch8 (c :: cs) := fun x hx => by
  rcases List.mem_cons.mp hx with rfl | hx
  · exact h1
  · exact h2 x hx
theorem Ch8.up (C : Ch8 cs) : ∀ c ∈ cs, ¬ c < 0 ∧ ¬ (65535 : Int32) < c := fun c hc => ⟨(C c hc).1, fun q => (C c hc).2 (by rw [Int32.lt_iff_toInt_lt] at q ⊢; have e1 : (65535 : Int32).toInt = 65535 := rfl; have e2 : (255 : Int32).toInt = 255 := rfl; omega)⟩
theorem Ch8.getD (C : Ch8 cs) (i : Nat) : ¬ cs.getD i 0 < 0 ∧ ¬ (255 : Int32) < cs.getD i 0 := by
  rw [List.getD_eq_getElem?_getD]
  cases h : cs[i]? with
  | none => exact ⟨by decide, by decide⟩
  | some x => exact C x (List.mem_of_getElem? h)
theorem Ch8.set {x : Int32} (C : Ch8 cs) (hx : ¬ x < 0 ∧ ¬ (255 : Int32) < x) (i : Nat) : Ch8 (cs.set i x) := fun c hc => by
  rcases List.mem_or_eq_of_mem_set hc with h | rfl
  · exact C c h
  · exact hx
theorem and255 (x : Int32) : ¬ (x &&& (255 : Int32)) < 0 ∧ ¬ (255 : Int32) < (x &&& (255 : Int32)) := by
  have q := c_and x 255 (by decide)
  have e1 : (255 : Int32).toInt = 255 := rfl
  have e0 : (0 : Int32).toInt = 0 := rfl
  rw [Int32.lt_iff_toInt_lt, Int32.lt_iff_toInt_lt, e0]
  omega
theorem nar_char {c : Int32} (h : ¬ c < 0 ∧ ¬ (255 : Int32) < c) : nar .char c = c := by
  have h1 := h.1
  have h2 := h.2
  rw [Int32.lt_iff_toInt_lt] at h1 h2
  have e1 : (255 : Int32).toInt = 255 := rfl
  have e0 : (0 : Int32).toInt = 0 := rfl
  have q := c_i2c c
  apply Int32.toInt_inj.mp
  show c.toUInt32.toUInt16.toUInt32.toInt32.toInt = c.toInt
  omega
theorem i2c_id {c : Int32} (h : ¬ c < 0 ∧ ¬ (255 : Int32) < c) : c.toUInt32.toUInt16.toUInt32.toInt32 = c := nar_char h
theorem nar_byte (c : Int32) : nar .byte c.toInt8.toInt32 = c.toInt8.toInt32 := by
  show c.toInt8.toInt32.toInt8.toInt32 = c.toInt8.toInt32
  simp
end St
end Jvm.OwnKit
namespace Jvm.OwnKit
open Sem ClassFile Op Lib Bundle Jvm.Stand Jvm.Free Jvm.LawKit Jvm.RoadKit
section En
variable {Z : State} {args : Array Value} {a b : Addr} {u : Term}
/-- the case's words on an array's elements, from place i on: ints -/
def Els (args : Array Value) (Z : State) (t : Term) : Nat → List Int32 → Prop
  | _, [] => True
  | i, x :: r => (Cond.eq (.elem t (.int (Int32.ofNat i))) (.int x)).value args Z none Z [] = some true ∧ Els args Z t (i + 1) r
theorem arrayAt_cell {cl : Cell} (h : Z.arrayAt? a = some cl) : Z.heap[a]? = some cl := by
  simp only [State.arrayAt?, Option.bind_eq_bind, Option.bind_eq_some_iff] at h
  obtain ⟨x, hx, h2⟩ := h
  split at h2
  · obtain ⟨k, -, h3⟩ := h2; cases h3
  · obtain ⟨k, hk, h3⟩ := h2
    split at h3
    · cases h3; exact hx
    · cases h3
theorem els_has {t : Term} {cl : Cell} (ev : t.eval args Z none [] Z = some (.ref b)) (ha : Z.arrayAt? b = some cl) (h31 : cl.slots.size < 2 ^ 31) : ∀ (bs : List Int32) (i : Nat), i + bs.length ≤ cl.slots.size → Els args Z t i bs → HasL cl i (bs.map Value.int)
  | [], _, _, _ => trivial
  | x :: r, i, hi, ⟨h1, h2⟩ => by
    have e1 := eqv_i (Term.int_eval x) h1
    have hlt : i < cl.slots.size := by simp only [List.length_cons] at hi; omega
    rw [SBG.elem_at (ix := .int (Int32.ofNat i)) ev ha hlt h31 rfl] at e1
    exact ⟨e1, els_has ev ha h31 r (i + 1) (by simp only [List.length_cons] at hi; omega) h2⟩
/-- a String that the case's words spell -/
theorem str_start (hf : Fit Z) {z : Int32} {cs : List Int32} (hE : (Cond.exactly u "java/lang/String").value args Z none Z [] = some true) (hC : (Cond.eq (.field u "java/lang/String" "coder" "B") (.int 0)).value args Z none Z [] = some true) (hA : (Cond.arrayOf (.field u "java/lang/String" "value" "[B") .byte).value args Z none Z [] = some true)
    (hL : (Cond.eq (.length (.field u "java/lang/String" "value" "[B")) (.int z)).value args Z none Z [] = some true) (hz : z = Int32.ofNat cs.length) (hle : cs.length ≤ 4000) (hels : Els args Z (.field u "java/lang/String" "value" "[B") 0 (cs.map fun c => c.toInt8.toInt32)) (hch : Ch8 cs) : ∃ a r, u.eval args Z none [] Z = some (.ref a) ∧ StrAt Z Z.heap a r cs := by
  obtain ⟨a, ea⟩ := exa_v hE
  have ec := eqv_i (Term.int_eval 0) hC
  have el := eqv_i (Term.int_eval z) hL
  obtain ⟨r, cl, er, hcl, hsz⟩ := Term.length_spec el
  have h31 := SBG.length_lt er hcl el
  have hc := arrayAt_cell hcl
  have A : Arr Z Z.heap r cl .byte := ⟨hc, Cond.arrayOf_spec (Cond.before_iff.mpr hA) er hc⟩
  have ez : cl.slots.size.toInt32 = z := by simpa using hsz.symm
  have hlen : (Int32.ofNat cs.length).toNatClampNeg = cs.length := by show (Int32.ofNat cs.length).toInt.toNat = _; rw [Int32.toInt_ofNat_small (by omega)]; rfl
  have hn0 : ¬ Int32.ofNat cs.length < 0 := Int32.ofNat_not_neg (show cs.length < 2 ^ 31 by omega)
  have hs : cl.slots.size = cs.length := by
    have q : (cl.slots.size.toInt32).toNatClampNeg = cl.slots.size := by show (Int32.ofNat cl.slots.size).toInt.toNat = _; rw [Int32.toInt_ofNat_small h31]; rfl
    rw [← q, ez, hz, hlen]
  subst hz
  refine ⟨a, r, ea, Exa.start ea hE, Fld.start (by simpa [Term.eval, ea] using ec), Fld.start (by simpa [Term.eval, ea] using er), ⟨cl.cls, ?_⟩, hch, hle⟩
  exact Arv.start hf A h31 ez hn0 (by rw [hlen]; simp) (els_has er hcl h31 _ 0 (by simp [hs]) hels)
/-- a field of an object that the case's words name -/
theorem fld_start {C nm d : String} {v : Value} (ea : u.eval args Z none [] Z = some (.ref a)) (ev : (Term.field u C nm d).eval args Z none [] Z = some v) : Fld Z Z.heap a C nm d v := Fld.start (by simpa [Term.eval, ea] using ev)
theorem eqv_r {X F : Term} {idx : List Nat} (hF : F.eval args Z none idx Z = some (.ref a)) (h : (Cond.eq X F).value args Z none Z idx = some true) : X.eval args Z none idx Z = some (.ref a) := by
  obtain ⟨x, y', e1, e2, k1, k2⟩ := cmp_v (Or.inl h)
  cases hF.symm.trans e2
  rw [e1]
  cases x with
  | ref q => simp only [Cond.value, e1, hF] at h; simpa using h
  | null => simp only [Cond.value, e1, hF] at h; simp at h
  | int q => obtain ⟨z, hz⟩ := k1; cases hz
  | long q => obtain ⟨z, hz⟩ := k1; cases hz
  | float q => obtain ⟨z, hz⟩ := k1; cases hz
  | double q => obtain ⟨z, hz⟩ := k1; cases hz
  | retAddr q => simp [Kin, Value.isRef] at k1
/-- the case's words on an array's elements, from place i on: objects -/
def Elr (args : Array Value) (Z : State) (t : Term) : Nat → List (Term × Addr) → Prop
  | _, [] => True
  | i, x :: r => ((Cond.eq (.elem t (.int (Int32.ofNat i))) x.1).value args Z none Z [] = some true ∧ x.1.eval args Z none [] Z = some (.ref x.2)) ∧ Elr args Z t (i + 1) r
theorem elr_has {t : Term} {cl : Cell} (ev : t.eval args Z none [] Z = some (.ref b)) (ha : Z.arrayAt? b = some cl) (h31 : cl.slots.size < 2 ^ 31) : ∀ (bs : List (Term × Addr)) (i : Nat), i + bs.length ≤ cl.slots.size → Elr args Z t i bs → HasL cl i (bs.map fun x => Value.ref x.2)
  | [], _, _, _ => trivial
  | x :: r, i, hi, ⟨⟨h1, h1'⟩, h2⟩ => by
    have e1 := eqv_r h1' h1
    have hlt : i < cl.slots.size := by simp only [List.length_cons] at hi; omega
    rw [SBG.elem_at (ix := .int (Int32.ofNat i)) ev ha hlt h31 rfl] at e1
    exact ⟨e1, elr_has ev ha h31 r (i + 1) (by simp only [List.length_cons] at hi; omega) h2⟩
/-- an array of objects that the case's words tell -/
theorem arr_start (hf : Fit Z) {z : Int32} {C ad : String} {bs : List (Term × Addr)} (hE : (Cond.exactly u ad).value args Z none Z [] = some true) (hA : (Cond.arrayOf u (.object C)).value args Z none Z [] = some true) (hL : (Cond.eq (.length u) (.int z)).value args Z none Z [] = some true) (hz : z = Int32.ofNat bs.length) (hle : bs.length ≤ 4000) (hels : Elr args Z u 0 bs) :
    ∃ a k, u.eval args Z none [] Z = some (.ref a) ∧ Exa Z Z.heap a ad ∧ Arv Z Z.heap a k (.object C) z (bs.map fun x => Value.ref x.2) .null := by
  have el := eqv_i (Term.int_eval z) hL
  obtain ⟨r, cl, er, hcl, hsz⟩ := Term.length_spec el
  have h31 := SBG.length_lt er hcl el
  have hc := arrayAt_cell hcl
  have A : Arr Z Z.heap r cl (.object C) := ⟨hc, Cond.arrayOf_spec (Cond.before_iff.mpr hA) er hc⟩
  have ez : cl.slots.size.toInt32 = z := by simpa using hsz.symm
  have hlen : (Int32.ofNat bs.length).toNatClampNeg = bs.length := by show (Int32.ofNat bs.length).toInt.toNat = _; rw [Int32.toInt_ofNat_small (by omega)]; rfl
  have hn0 : ¬ Int32.ofNat bs.length < 0 := Int32.ofNat_not_neg (show bs.length < 2 ^ 31 by omega)
  have hs : cl.slots.size = bs.length := by
    have q : (cl.slots.size.toInt32).toNatClampNeg = cl.slots.size := by show (Int32.ofNat cl.slots.size).toInt.toNat = _; rw [Int32.toInt_ofNat_small h31]; rfl
    rw [← q, ez, hz, hlen]
  subst hz
  exact ⟨r, cl.cls, er, Exa.start er hE, Arv.start hf A h31 ez hn0 (by rw [hlen]; simp) (elr_has er hcl h31 _ 0 (by simp [hs]) hels)⟩
end En
end Jvm.OwnKit
namespace Jvm.OwnKit
open Sem ClassFile Op Lib Bundle Jvm.Stand Jvm.Free Jvm.LawKit Jvm.RoadKit
theorem idxn (x n : Int32) (d : Int) (hd : n.toInt = d) (h0 : 0 < d) : ¬ ((x &&& (2147483647 : Int32)) % n) < 0 ∧ ((x &&& (2147483647 : Int32)) % n) < n := by
  have q := c_and x 2147483647 (by decide)
  have r := (c_irem (x &&& 2147483647) n d hd).1 q.1
  rw [Int32.lt_iff_toInt_lt, Int32.lt_iff_toInt_lt, r, hd]
  have e0 : (0 : Int32).toInt = 0 := rfl
  have l1 := Int.emod_nonneg (x &&& 2147483647).toInt (show d ≠ 0 by omega)
  have l2 := Int.emod_lt_of_pos (x &&& 2147483647).toInt h0
  omega
theorem natn {j n : Int32} {d : Nat} (hd : n.toInt = (d : Int)) (h : ¬ j < 0 ∧ j < n) : j.toNatClampNeg < d := by
  have h1 := h.1
  have h2 := h.2
  rw [Int32.lt_iff_toInt_lt] at h1 h2
  have e0 : (0 : Int32).toInt = 0 := rfl
  show j.toInt.toNat < d
  omega
theorem map_getD (cs : List Int32) (i : Nat) : (cs.map Value.int).getD i (.int 0) = .int (cs.getD i 0) := by
  simp only [List.getD_eq_getElem?_getD, List.getElem?_map]
  cases cs[i]? <;> rfl
theorem and3 (x : Int32) : (x &&& 3) = 0 ∨ (x &&& 3) = 1 ∨ (x &&& 3) = 2 ∨ (x &&& 3) = 3 := by
  have q := c_and x 3 (by decide)
  have e3 : (3 : Int32).toInt = 3 := rfl
  rw [e3] at q
  have e : (x &&& 3).toInt = 0 ∨ (x &&& 3).toInt = 1 ∨ (x &&& 3).toInt = 2 ∨ (x &&& 3).toInt = 3 := by omega
  rcases e with e | e | e | e
  · exact Or.inl (Int32.toInt_inj.mp (by rw [e]; rfl))
  · exact Or.inr (Or.inl (Int32.toInt_inj.mp (by rw [e]; rfl)))
  · exact Or.inr (Or.inr (Or.inl (Int32.toInt_inj.mp (by rw [e]; rfl))))
  · exact Or.inr (Or.inr (Or.inr (Int32.toInt_inj.mp (by rw [e]; rfl))))
/-- a small number is one of the first d -/
theorem below_lit {j n : Int32} {d : Nat} (hd : n.toInt = (d : Int)) (h : ¬ j < 0 ∧ j < n) : ∃ i, i < d ∧ j = Int32.ofNat i := by
  refine ⟨j.toNatClampNeg, natn hd h, ?_⟩
  have h1 := h.1
  rw [Int32.lt_iff_toInt_lt] at h1
  have e0 : (0 : Int32).toInt = 0 := rfl
  have hb := j.toInt_lt
  apply Int32.toInt_inj.mp
  show j.toInt = (Int32.ofNat j.toInt.toNat).toInt
  rw [Int32.toInt_ofNat_small (by omega)]
  omega
end Jvm.OwnKit
namespace Jvm.OwnKit
open Sem ClassFile Op Lib Bundle Jvm.Stand Jvm.Free Jvm.LawKit Jvm.RoadKit
section M
variable {p : Program} {l : Launch} {e : Env} {R : Room} {s : State} {m : MethodId} {args : Array Value} {below : List Frame} {meth : Method} {c : Code} {Z : State} {a0 : Array Value} {EL : List (String × Nat)} {n0 : Nat} {own : String} {vm0 vm1 : Vm} {T T' : State} {h h' : Heap} {L L' : List Loc} {k n k' n' : Nat} {ss ss' : List Addr} {P : Outcome → State → Prop} {U V : State} {pc : Nat} {Ls : Array Slot} {rest : List Value}
/-- anewarray -/
theorem Wk.newR (W : Wk p l e R s m args below meth c Z a0 EL n0 own vm0 T h L k n ss) {C : String} {index : Nat} (w1 : (Cond.classLink own index C).before a0 Z = true) (w2 : (Cond.arrayOver (.object C)).before a0 Z = true) (hd : decode c.code pc = .ok (.anewarray index, 3)) {z : Int32} (hz : ¬ z < 0) {cap : Nat} (hcap : z.toNatClampNeg ≤ cap) (hb : cap * 8 ≤ 536870912) (hk : k + 1 = k') (hn : n + cap = n') (hc : k' ≤ R.cells) (hl : n' ≤ R.slots)
    (K : ∀ T' h' b kA, b = h.size → n0 ≤ b → Wk p l e R s m args below meth c Z a0 EL n0 own vm0 T' h' L k' n' (b :: ss) → Ext h h' → Arv Z h' b kA (.object C) z (List.replicate cap .null) .null → Ovr Z kA C → Go p e below P (T'.setTop (mkF m (pc + 3) Ls (.ref b :: rest)))) : Go p e below P (T.setTop (mkF m pc Ls (.int z :: rest))) := by
  subst hk hn
  obtain ⟨T', h', cA, X', e', E, A, O, st⟩ := RoadKit.newR W.X W.ex W.hZ W.ho w1 w2 W.hp (g := mkF m pc Ls (.int z :: rest)) rfl hd rfl hz hcap hb hc hl
  have W' := W.stepE X' e' E
  exact Go.st st (K T' h' _ cA rfl W.n0le (W'.cons ((Safe.new (Nat.le_refl _)).ext E W.cv) A.lt) E ((Arv.new A hz).pad (pad_rep [] _ cap)) O)
/-- aastore -/
theorem Wk.stR (W : Wk p l e R s m args below meth c Z a0 EL n0 own vm0 T h L k n ss) {a y : Addr} {kA : ClassId} {C : String} {z j : Int32} {vs : List Value} {dv : Value} (F : Arv Z h a kA (.object C) z vs dv) (O : Ovr Z kA C) (I : Ins Z h y C true) (q : ¬ j < 0 ∧ j < z) (i : Nat) (hi : j.toNatClampNeg = i) (hl : i < vs.length) (hs : a ∈ ss) (ha : n0 ≤ a) (hd : decode c.code pc = .ok (.aastore, 1))
    (K : ∀ T' h' L', Wk p l e R s m args below meth c Z a0 EL n0 own vm0 T' h' L' k n ss → Wr h h' a j.toNatClampNeg (.ref y) → Arv Z h' a kA (.object C) z (vs.set i (.ref y)) dv → Go p e below P (T'.setTop (mkF m (pc + 1) Ls rest))) : Go p e below P (T.setTop (mkF m pc Ls (.ref y :: .int j :: .ref a :: rest))) := by
  obtain ⟨cl, A, q1, S, N, H, Gs⟩ := F
  obtain ⟨T', h', X', e', w', st⟩ := RoadKit.stR W.X W.ex W.hZ W.hp A (inb S q) rfl (Sto.ofV A q1 O I) (g := mkF m pc Ls (.ref y :: .int j :: .ref a :: rest)) rfl rfl hd
  exact Go.st st (K T' h' _ (W.stepW X' e' w' hs ha) w' (Arv.set A q1 S N H Gs rfl w' i hi hl))
/-- System.arraycopy of a primitive kind -/
theorem Wk.cpP (W : Wk p l e R s m args below meth c Z a0 EL n0 own vm0 T h L k n ss) {index : Nat} (w1 : (Cond.methodLink own index Jvm.Stand.acN).before a0 Z = true) (w2 : (Cond.native Jvm.Stand.acN).before a0 Z = true) (w3 : (Cond.static Jvm.Stand.acN).before a0 Z = true) (w4 : (Cond.initialized "java/lang/System").before a0 Z = true)
    {a b : Addr} {kA kB : ClassId} {ty : FieldType} {z z' sp dp nn : Int32} {vs vd us : List Value} {dv dd : Value} (A : Arv Z h a kA ty z vs dv) (B : Arv Z h b kB ty z' vd dd) (hty : refKind ty = false) (h1 : ¬ sp < 0) (h2 : ¬ dp < 0) (h3 : ¬ nn < 0) (h4 : sp.toNatClampNeg + nn.toNatClampNeg ≤ z.toNatClampNeg) (h5 : dp.toNatClampNeg + nn.toNatClampNeg ≤ z'.toNatClampNeg)
    (hus : us = (List.range nn.toNatClampNeg).map fun i => vs.getD (sp.toNatClampNeg + i) dv) (hlv : dp.toNatClampNeg + nn.toNatClampNeg ≤ vd.length) (hs : b ∈ ss) (ge : n0 ≤ b) (hsz : Ls.size = c.maxLocals) (hd : decode c.code pc = .ok (.invokestatic index, 3)) (hf : 1 ≤ R.frames) {Wd : Nat} (hW : (rest.map fun v => v.category).sum ≤ Wd) (hlo : Wd + (nativeFrameWords "java/lang/System" "arraycopy" 5 + 11) ≤ R.locals)
    (K : ∀ T' h' L', Wk p l e R s m args below meth c Z a0 EL n0 own vm0 T' h' L' k n ss → Keep h h' [b] → Arv Z h' b kB ty z' (vd.take dp.toNatClampNeg ++ us ++ vd.drop (dp.toNatClampNeg + nn.toNatClampNeg)) dd → Go p e below P (T'.setTop (mkF m (pc + 3) Ls rest))) : Go p e below P (T.setTop (mkF m pc Ls (.int nn :: .int dp :: .ref b :: .int sp :: .ref a :: rest))) := by
  obtain ⟨T', h', L', X', e', N', K', B', st⟩ := RoadKit.cpA W.X W.ex W.hZ W.ho w1 w2 w3 w4 W.hp A B (Or.inl ⟨rfl, hty⟩) h1 h2 h3 h4 h5 hus hlv W.fr ge (g := mkF m pc Ls (.int nn :: .int dp :: .ref b :: .int sp :: .ref a :: rest)) rfl hsz rfl hd hf (W := Wd) (by show 2 * 0 + _ ≤ _; omega) hlo
  exact Go.st st (K T' h' L' (W.stepK X' e' K' (allS hs all0) (allS ge all0) N') K' B')
/-- a private method, by invokevirtual -/
theorem Wk.callP (W : Wk p l e R s m args below meth c Z a0 EL n0 own vm0 T h L k n ss) {D : String} {index : Nat} {y : MethodName} {bytes : ByteArray} {maxL : Nat} {ret : Option FieldType} {rm : Room} {as' : Array Value} {Q : Option Value → Vm → Heap → Prop} {Wd : Nat} {st argsL : List Value} {a : Addr} (w1 : (Cond.methodLink own index y).before a0 Z = true) (w2 : (Cond.privateMethod y).before a0 Z = true) (w5 : (Cond.selects y.cls y y).before a0 Z = true) (w6 : (Cond.instanceMethod y).before a0 Z = true) (w3 : (Cond.initialized y.cls).before a0 Z = true) (w4 : (Cond.code y bytes maxL ret).before a0 Z = true) (hy : y.cls ≠ "java/lang/invoke/MethodHandle" ∧ y.cls ≠ "java/lang/invoke/VarHandle")
    (E : Exa Z h a D) (C : Ct l Z EL n0 [] y bytes maxL ret rm as' ss' h Q) (hss : ∀ x ∈ ss', x ∈ ss) (hf : rm.frames + 1 ≤ R.frames) (hl : Wd + (maxL + 11) + rm.locals ≤ R.locals) (hk : k + rm.cells = k') (hn : n + rm.slots = n') (hc : k' ≤ R.cells) (hs : n' ≤ R.slots) (hsz : Ls.size = c.maxLocals) (ha : (Value.ref a :: argsL).toArray = as') (hlen : ∀ sig, parseMethodDescriptor y.desc = some sig → argsL.length = sig.parameters.length) (hst : st = argsL.reverse ++ .ref a :: rest) (hW : (rest.map fun v => v.category).sum ≤ Wd) (hd : decode c.code pc = .ok (.invokevirtual index, 3))
    (K : ∀ v vm1 T' h' L', Wk p l e R s m args below meth c Z a0 EL n0 own vm1 T' h' L' k' n' ss → Q v vm1 h' → Go p e below P (T'.setTop (mkF m (pc + 3) Ls (v.toList ++ rest)))) : Go p e below P (T.setTop (mkF m pc Ls st)) := by
  subst hk hn ha hst
  obtain ⟨cell, c1, c2⟩ := E.cell
  obtain ⟨v, vm₁, B, -, X', S', g', ⟨L', ⟨q1, q2, q3⟩, q4, q5, q6, q7⟩, stp⟩ := W.X.privateBackS W.ex W.ho (mvT W.hZ w1) (mvT W.hZ w6) (mvT W.hZ w5) (Cond.privateMethod_at (mvP W.hZ w2 (args := #[]))) (mvT W.hZ w4) hy (C.back (len := 3) (Wd := Wd) W w4 w3 hss hf hl) (g := mkF m pc Ls (argsL.reverse ++ .ref a :: rest)) rfl hsz (Steps.refl _) (a := a) (cell := cell) (by rw [W.hp]; exact c1) c2 (argsL := argsL) (rest := rest) hlen rfl (by show 2 * 0 + _ ≤ _; omega) hd (fun _ _ => ⟨rfl, W.hp, hc, hs⟩)
  exact Go.tr stp (K v _ _ _ _ (W.behind (n1 := 0) X' S' g' q4 q2 q3 q7 q5 q6) q1)
/-- an interface's method -/
theorem Wk.callF (W : Wk p l e R s m args below meth c Z a0 EL n0 own vm0 T h L k n ss) {D : String} {index count : Nat} {x y : MethodName} {bytes : ByteArray} {maxL : Nat} {ret : Option FieldType} {rm : Room} {as' : Array Value} {Q : Option Value → Vm → Heap → Prop} {Wd : Nat} {st argsL : List Value} {a : Addr} (w1 : (Cond.methodLink own index x).before a0 Z = true) (w2 : (Cond.declares x).before a0 Z = true) (w7 : (Cond.interfaceMethod x.cls x.cls x.name x.desc).before args (s.setVm vm0) = true) (w5 : (Cond.selects D x y).before a0 Z = true) (w6 : (Cond.instanceMethod y).before a0 Z = true) (w8 : (Cond.publicMethod y).before a0 Z = true) (w9 : (Cond.unhidden D x.name x.desc).before a0 Z = true) (w10 : (Cond.castable D x.cls).before a0 Z = true) (w3 : (Cond.initialized y.cls).before a0 Z = true) (w4 : (Cond.code y bytes maxL ret).before a0 Z = true) (hy : x.cls ≠ "java/lang/invoke/MethodHandle" ∧ x.cls ≠ "java/lang/invoke/VarHandle")
    (E : Exa Z h a D) (C : Ct l Z EL n0 [] y bytes maxL ret rm as' ss' h Q) (hss : ∀ x ∈ ss', x ∈ ss) (hf : rm.frames + 1 ≤ R.frames) (hl : Wd + (maxL + 11) + rm.locals ≤ R.locals) (hk : k + rm.cells = k') (hn : n + rm.slots = n') (hc : k' ≤ R.cells) (hs : n' ≤ R.slots) (hsz : Ls.size = c.maxLocals) (ha : (Value.ref a :: argsL).toArray = as') (hlen : ∀ sig, parseMethodDescriptor x.desc = some sig → argsL.length = sig.parameters.length) (hst : st = argsL.reverse ++ .ref a :: rest) (hW : (rest.map fun v => v.category).sum ≤ Wd) (hd : decode c.code pc = .ok (.invokeinterface index count, 5))
    (K : ∀ v vm1 T' h' L', Wk p l e R s m args below meth c Z a0 EL n0 own vm1 T' h' L' k' n' ss → Q v vm1 h' → Go p e below P (T'.setTop (mkF m (pc + 5) Ls (v.toList ++ rest)))) : Go p e below P (T.setTop (mkF m pc Ls st)) := by
  subst hk hn ha hst
  obtain ⟨cB, kB, i1, i2, i3⟩ := isOf W.hZ W.hp E
  obtain ⟨v, vm₁, B, -, X', S', g', ⟨L', ⟨q1, q2, q3⟩, q4, q5, q6, q7⟩, stp⟩ := W.X.interfaceBackS W.ex W.ho (mvT W.hZ w1) (mvT W.hZ w2) w7 (mvT W.hZ w5) (mvT W.hZ w6) (mvT W.hZ w8) (mvT W.hZ w9) (mvT W.hZ w10) hy (C.back (len := 5) (Wd := Wd) W w4 w3 hss hf hl) i1 i2 i3 (g := mkF m pc Ls (argsL.reverse ++ .ref a :: rest)) rfl hsz (Steps.refl _) (argsL := argsL) (rest := rest) hlen rfl (by show 2 * 0 + _ ≤ _; omega) hd (fun _ _ => ⟨rfl, W.hp, hc, hs⟩)
  exact Go.tr stp (K v _ _ _ _ (W.behind (n1 := 0) X' S' g' q4 q2 q3 q7 q5 q6) q1)
end M
end Jvm.OwnKit
namespace Jvm.OwnKit
open Sem ClassFile Op Lib Bundle Jvm.Stand Jvm.Free Jvm.LawKit Jvm.RoadKit
section B
variable {p : Program} {l : Launch} {e : Env} {R : Room} {s : State} {m : MethodId} {args : Array Value} {below : List Frame} {meth : Method} {c : Code} {Z : State} {a0 : Array Value} {EL : List (String × Nat)} {n0 : Nat} {own : String} {vm0 vm1 : Vm} {T T' : State} {h h' : Heap} {L L' : List Loc} {k n k' n' : Nat} {ss ss' : List Addr} {P : Outcome → State → Prop} {U V : State} {pc : Nat} {Ls : Array Slot} {rest : List Value}
theorem ofn_add (n k : Nat) : Int32.ofNat n + Int32.ofNat k = Int32.ofNat (n + k) := (Int32.ofNat_add n k).symm
theorem ofn_nat {n : Nat} (h : n < 2 ^ 31) : (Int32.ofNat n).toNatClampNeg = n := by show (Int32.ofNat n).toInt.toNat = _; rw [Int32.toInt_ofNat_small h]; rfl
theorem ofn_in {n : Nat} {z : Int32} (h : n < z.toNatClampNeg) : ¬ Int32.ofNat n < 0 ∧ Int32.ofNat n < z := by
  have hz := z.toInt_lt
  have h' : n < z.toInt.toNat := h
  have hn : n < 2 ^ 31 := by omega
  refine ⟨Int32.ofNat_not_neg hn, ?_⟩
  rw [Int32.lt_iff_toInt_lt, Int32.toInt_ofNat_small hn]
  omega
theorem set_last (bs : List Int32) (v : Value) : ((bs ++ [0]).map Value.int).set bs.length v = bs.map Value.int ++ [v] := by
  rw [List.map_append, List.set_append_right _ _ (by simp)]
  simp
/-- bastore right behind what is written -/
theorem Wk.stA (W : Wk p l e R s m args below meth c Z a0 EL n0 own vm0 T h L k n ss) {a : Addr} {kA : ClassId} {z x : Int32} {n1 : Nat} {bs : List Int32} (F : Arv Z h a kA .byte z (bs.map Value.int) (.int 0)) (hn : n1 = bs.length) (hl : bs.length < z.toNatClampNeg) (hs : a ∈ ss) (ha : n0 ≤ a) (hd : decode c.code pc = .ok (.bastore, 1))
    (K : ∀ T' h' L' sl v, Wk p l e R s m args below meth c Z a0 EL n0 own vm0 T' h' L' k n ss → Wr h h' a sl v → Arv Z h' a kA .byte z ((bs ++ [nar .byte x]).map Value.int) (.int 0) → Go p e below P (T'.setTop (mkF m (pc + 1) Ls rest))) : Go p e below P (T.setTop (mkF m pc Ls (.int x :: .int (Int32.ofNat n1) :: .ref a :: rest))) := by
  subst hn
  have hz := z.toInt_lt
  have hl' : bs.length < z.toInt.toNat := hl
  refine W.stB (F.pad (vs' := (bs ++ [0]).map Value.int) (fun i => by rw [List.map_append]; exact pad_rep _ _ 1 i)) (j := Int32.ofNat bs.length) (x := x) (ofn_in hl) bs.length (ofn_nat (by omega)) (by simp) hs ha hd ?_
  intro T' h' L' W' w' V'
  rw [set_last] at V'
  exact K T' h' L' _ _ W' w' (by rw [List.map_append]; exact V')
theorem selP {D : String} {y y' : MethodName} (ws : (Cond.selects D y' y').before a0 Z = true) (hc : y.cls = y'.cls) (wp : (Cond.privateMethod y).before a0 Z = true) (w6 : (Cond.instanceMethod y).before a0 Z = true) (hy : y.cls ≠ "java/lang/invoke/MethodHandle" ∧ y.cls ≠ "java/lang/invoke/VarHandle") : (Cond.selects y.cls y y).before a0 Z = true := by
  obtain ⟨c2, r2, m2, -, -, q3, -, kP, hkP, hkPi⟩ := Cond.selects_spec ws
  have e1 := findClass_of_methodNamed q3
  rw [← hc] at e1
  exact selects_self_of_private e1 hkP hkPi (Cond.privateMethod_at wp) w6 hy
/-! a copy of what is written -/
theorem cp_us {bs : List Int32} (hb : bs.length < 2 ^ 31) : bs.map Value.int = (List.range (Int32.ofNat bs.length).toNatClampNeg).map fun i => (bs.map Value.int).getD ((0 : Int32).toNatClampNeg + i) (.int 0) := by
  rw [ofn_nat hb]
  apply List.ext_getElem
  · simp
  · intro i h1 h2
    have e0 : (0 : Int32).toNatClampNeg = 0 := rfl
    have hi : i < bs.length := by simpa using h1
    simp [e0, List.getD_eq_getElem?_getD, hi]
theorem cp_pad {bs : List Int32} {cap : Nat} (hb : bs.length < 2 ^ 31) (i : Nat) : (bs.map Value.int).getD i (.int 0) = ((List.replicate cap (Value.int 0)).take (0 : Int32).toNatClampNeg ++ bs.map Value.int ++ (List.replicate cap (Value.int 0)).drop ((0 : Int32).toNatClampNeg + (Int32.ofNat bs.length).toNatClampNeg)).getD i (.int 0) := by
  have e0 : (0 : Int32).toNatClampNeg = 0 := rfl
  rw [e0, List.take_zero, List.nil_append, List.drop_replicate]
  exact (pad_rep _ _ _ i).symm
theorem nar_char16 {c : Int32} (h : ¬ c < 0 ∧ ¬ (65535 : Int32) < c) : nar .char c = c := by
  have h1 := h.1
  have h2 := h.2
  rw [Int32.lt_iff_toInt_lt] at h1 h2
  have e1 : (65535 : Int32).toInt = 65535 := rfl
  have e0 : (0 : Int32).toInt = 0 := rfl
  have q := c_i2c c
  apply Int32.toInt_inj.mp
  show c.toUInt32.toUInt16.toUInt32.toInt32.toInt = c.toInt
  omega
theorem ch16 (x : Int32) : ¬ x.toUInt32.toUInt16.toUInt32.toInt32 < 0 ∧ ¬ (65535 : Int32) < x.toUInt32.toUInt16.toUInt32.toInt32 := by
  have q := c_i2c x
  have e1 : (65535 : Int32).toInt = 65535 := rfl
  have e0 : (0 : Int32).toInt = 0 := rfl
  rw [Int32.lt_iff_toInt_lt, Int32.lt_iff_toInt_lt, e0, e1]
  omega
/-! bits -/
theorem or_add {a b : Int32} {k : Nat} (hk : k ≤ 31) (ha : a.toInt % (2 ^ k : Nat) = 0) (h0 : 0 ≤ b.toInt) (h1 : b.toInt < (2 ^ k : Nat)) : a ||| b = a + b := by
  have q := c_or a b k hk _ rfl ha h0 h1
  have r := Int.bmod_emod (x := a.toInt + b.toInt) (m := 2 ^ 32)
  rw [← Int32.toInt_add] at r
  have l1 := (a ||| b).le_toInt
  have l2 := (a ||| b).toInt_lt
  have l3 := (a + b).le_toInt
  have l4 := (a + b).toInt_lt
  apply Int32.toInt_inj.mp
  omega
theorem shr_div {c q y : Int32} {k : Nat} (h : 0 ≤ c.toInt) (hk : q.toBitVec.toNat % 32 = k) (hy : y.toInt = (2 ^ k : Nat)) (hn : y ≠ -1) : c >>> (q &&& 31) = c / y := by
  apply Int32.toInt_inj.mp
  rw [c_ishr c q k hk, (c_idiv c y _ hy hn).1 h]
theorem and_mod {c m y : Int32} {k : Nat} (h : 0 ≤ c.toInt) (hk : k ≤ 31) (hm : m.toBitVec.toNat = 2 ^ k - 1) (hy : y.toInt = (2 ^ k : Nat)) : c &&& m = c % y := by
  apply Int32.toInt_inj.mp
  rw [c_mask c m k hk hm, (c_irem c y _ hy).1 h]
end B
end Jvm.OwnKit
namespace Jvm.Pilot.@@N@@
open Jvm Jvm.ClassFile Sem Op Lib Jvm.Free Jvm.Stand Jvm.LawKit Jvm.RoadKit Jvm.OwnKit Bundle Jvm.Pilot.@@N@@.Jvm.D
set_option maxRecDepth 65536
set_option maxHeartbeats 4000000
def hexL : List Int32 := [48, 49, 50, 51, 52, 53, 54, 55, 56, 57, 65, 66, 67, 68, 69, 70]
def Ctx (Z : State) (a0 : Array Value) (n0 : Nat) (g1 : Int32) (gf : Value) (hxa : Addr) (khx : ClassId) : Prop := (∀ d ∈ tables_1, d.before a0 Z = true) ∧ EW Z a0 consts_1 ∧ Sta Z Z.heap "java/lang/String" "COMPACT_STRINGS" "Z" (.int g1) ∧ ¬ g1 = 0 ∧ Sta Z Z.heap "jdk/internal/util/Preconditions" "SIOOBE_FORMATTER" "Ljava/util/function/BiFunction;" gf ∧ gf.isRef = true ∧ (Sta Z Z.heap "java/lang/StringUTF16" "$assertionsDisabled" "Z" (.int 1)) ∧ (Sta Z Z.heap "java/lang/StringUTF16" "HI_BYTE_SHIFT" "I" (.int 0)) ∧ (Sta Z Z.heap "java/lang/StringUTF16" "LO_BYTE_SHIFT" "I" (.int 8)) ∧ (Sta Z Z.heap "com/example/dijtabla/dijtabla/JsonText" "HEX" "[B" (.ref hxa)) ∧ (Arv Z Z.heap hxa khx .byte 16 (hexL.map Value.int) (.int 0)) ∧ True
theorem Ctx.words {Z : State} {a0 : Array Value} {n0 : Nat} {g1 : Int32} {gf : Value} {hxa : Addr} {khx : ClassId} (cx : Ctx Z a0 n0 g1 gf hxa khx) : (∀ d ∈ tables_1, d.before a0 Z = true) := cx.1
theorem Ctx.ew {Z : State} {a0 : Array Value} {n0 : Nat} {g1 : Int32} {gf : Value} {hxa : Addr} {khx : ClassId} (cx : Ctx Z a0 n0 g1 gf hxa khx) : EW Z a0 consts_1 := cx.2.1
theorem Ctx.cmp {Z : State} {a0 : Array Value} {n0 : Nat} {g1 : Int32} {gf : Value} {hxa : Addr} {khx : ClassId} (cx : Ctx Z a0 n0 g1 gf hxa khx) : Sta Z Z.heap "java/lang/String" "COMPACT_STRINGS" "Z" (.int g1) := cx.2.2.1
theorem Ctx.g1 {Z : State} {a0 : Array Value} {n0 : Nat} {g1 : Int32} {gf : Value} {hxa : Addr} {khx : ClassId} (cx : Ctx Z a0 n0 g1 gf hxa khx) : ¬ g1 = 0 := cx.2.2.2.1
theorem Ctx.fmt {Z : State} {a0 : Array Value} {n0 : Nat} {g1 : Int32} {gf : Value} {hxa : Addr} {khx : ClassId} (cx : Ctx Z a0 n0 g1 gf hxa khx) : Sta Z Z.heap "jdk/internal/util/Preconditions" "SIOOBE_FORMATTER" "Ljava/util/function/BiFunction;" gf := cx.2.2.2.2.1
theorem Ctx.fref {Z : State} {a0 : Array Value} {n0 : Nat} {g1 : Int32} {gf : Value} {hxa : Addr} {khx : ClassId} (cx : Ctx Z a0 n0 g1 gf hxa khx) : gf.isRef = true := cx.2.2.2.2.2.1
theorem Ctx.asr {Z : State} {a0 : Array Value} {n0 : Nat} {g1 : Int32} {gf : Value} {hxa : Addr} {khx : ClassId} (cx : Ctx Z a0 n0 g1 gf hxa khx) : (Sta Z Z.heap "java/lang/StringUTF16" "$assertionsDisabled" "Z" (.int 1)) := cx.2.2.2.2.2.2.1
theorem Ctx.hib {Z : State} {a0 : Array Value} {n0 : Nat} {g1 : Int32} {gf : Value} {hxa : Addr} {khx : ClassId} (cx : Ctx Z a0 n0 g1 gf hxa khx) : (Sta Z Z.heap "java/lang/StringUTF16" "HI_BYTE_SHIFT" "I" (.int 0)) := cx.2.2.2.2.2.2.2.1
theorem Ctx.lob {Z : State} {a0 : Array Value} {n0 : Nat} {g1 : Int32} {gf : Value} {hxa : Addr} {khx : ClassId} (cx : Ctx Z a0 n0 g1 gf hxa khx) : (Sta Z Z.heap "java/lang/StringUTF16" "LO_BYTE_SHIFT" "I" (.int 8)) := cx.2.2.2.2.2.2.2.2.1
theorem Ctx.hex {Z : State} {a0 : Array Value} {n0 : Nat} {g1 : Int32} {gf : Value} {hxa : Addr} {khx : ClassId} (cx : Ctx Z a0 n0 g1 gf hxa khx) : (Sta Z Z.heap "com/example/dijtabla/dijtabla/JsonText" "HEX" "[B" (.ref hxa)) := cx.2.2.2.2.2.2.2.2.2.1
theorem Ctx.hexv {Z : State} {a0 : Array Value} {n0 : Nat} {g1 : Int32} {gf : Value} {hxa : Addr} {khx : ClassId} (cx : Ctx Z a0 n0 g1 gf hxa khx) : (Arv Z Z.heap hxa khx .byte 16 (hexL.map Value.int) (.int 0)) := cx.2.2.2.2.2.2.2.2.2.2.1
theorem Ctx.w {Z : State} {a0 : Array Value} {n0 : Nat} {g1 : Int32} {gf : Value} {hxa : Addr} {khx : ClassId} (cx : Ctx Z a0 n0 g1 gf hxa khx) (k : Nat) {d : Jvm.Cond} (hd : tables_1[k]? = some d) : d.before a0 Z = true := cx.1 _ (List.mem_of_getElem? hd)
theorem Ctx.str {Z : State} {a0 : Array Value} {n0 : Nat} {g1 : Int32} {gf : Value} {hxa : Addr} {khx : ClassId} (cx : Ctx Z a0 n0 g1 gf hxa khx) : ∀ a ∈ Bundle.stringAtoms, a.before a0 Z = true := fun d hd => cx.1 d ((by decide +kernel : ∀ d ∈ Bundle.stringAtoms, d ∈ tables_1) d hd)
def litV (k : Nat) : List Value := match tables_1[k]? with | some (.stringLink _ _ t) => t.toList.map (fun c => Value.int (Jvm.Lit.byteI c.toNat.toUInt16)) | _ => []
def litC (k : Nat) : List Int32 := match tables_1[k]? with | some (.stringLink _ _ t) => t.toList.map (fun c => Int32.ofNat c.toNat) | _ => []
abbrev lo8 (x : Int32) : Int32 := x.toInt8.toInt32
abbrev hi8 (x : Int32) : Int32 := (x >>> ((8 : Int32) &&& 31)).toInt8.toInt32
def R16 (c : Int32) : Prop := ¬ c < 0 ∧ ¬ (65535 : Int32) < c
theorem R16.nn {c : Int32} (h : R16 c) : 0 ≤ c.toInt ∧ c.toInt ≤ 65535 := by
  have h1 := h.1
  have h2 := h.2
  rw [Int32.lt_iff_toInt_lt] at h1 h2
  have e1 : (65535 : Int32).toInt = 65535 := rfl
  have e0 : (0 : Int32).toInt = 0 := rfl
  omega
theorem getc {c : Int32} (h : R16 c) : nar .char (((((lo8 c) &&& (255 : Int32)) <<< ((0 : Int32) &&& 31)) ||| (((hi8 c) &&& (255 : Int32)) <<< ((8 : Int32) &&& 31))).toUInt32.toUInt16.toUInt32.toInt32) = c := by
  have q : (((((lo8 c) &&& (255 : Int32)) <<< ((0 : Int32) &&& 31)) ||| (((hi8 c) &&& (255 : Int32)) <<< ((8 : Int32) &&& 31))).toUInt32.toUInt16.toUInt32.toInt32) = c := StrChars.pair_says h.1 h.2
  rw [q]; exact nar_char16 h
theorem getl {c : Int32} (h : R16 c) (h1 : ¬ (255 : Int32) < c) : nar .char ((lo8 c) &&& (255 : Int32)) = c := by
  have q : (lo8 c) &&& (255 : Int32) = c := StrChars.lo8_mask h.1 h1
  rw [q]; exact nar_char16 h
/-- the object at q is a String of the two chars x, y -/
def Str2 (Z : State) (h : Heap) (q t : Addr) (x y : Int32) : Prop := Exa Z h q "java/lang/String" ∧ Fld Z h q "java/lang/String" "value" "[B" (.ref t) ∧ ((Fld Z h q "java/lang/String" "coder" "B" (.int 0) ∧ (∃ kb, Arv Z h t kb .byte 2 [.int (lo8 x), .int (lo8 y)] (.int 0)) ∧ ¬ (255 : Int32) < x ∧ ¬ (255 : Int32) < y) ∨ (Fld Z h q "java/lang/String" "coder" "B" (.int 1) ∧ ∃ kb, Arv Z h t kb .byte 4 [.int (lo8 x), .int (hi8 x), .int (lo8 y), .int (hi8 y)] (.int 0)))
theorem Str2.E {Z : State} {h : Heap} {q t : Addr} {x y : Int32} (S : Str2 Z h q t x y) : Exa Z h q "java/lang/String" := S.1
theorem Str2.ext {Z : State} {h h' : Heap} {q t : Addr} {x y : Int32} (S : Str2 Z h q t x y) (E : Ext h h') : Str2 Z h' q t x y := by
  obtain ⟨s1, s2, ⟨s3, ⟨kb, s4⟩, s5⟩ | ⟨s3, kb, s4⟩⟩ := S
  · exact ⟨s1.ext E, s2.ext E, Or.inl ⟨s3.ext E, ⟨kb, s4.ext E⟩, s5⟩⟩
  · exact ⟨s1.ext E, s2.ext E, Or.inr ⟨s3.ext E, kb, s4.ext E⟩⟩
theorem Str2.keep {Z : State} {h h' : Heap} {q t : Addr} {x y : Int32} {ws : List Addr} (S : Str2 Z h q t x y) (K : Keep h h' ws) (q1 : q ∉ ws) (q2 : t ∉ ws) : Str2 Z h' q t x y := by
  obtain ⟨s1, s2, ⟨s3, ⟨kb, s4⟩, s5⟩ | ⟨s3, kb, s4⟩⟩ := S
  · exact ⟨s1.keep K, s2.keep K q1, Or.inl ⟨s3.keep K q1, ⟨kb, s4.keep K q2⟩, s5⟩⟩
  · exact ⟨s1.keep K, s2.keep K q1, Or.inr ⟨s3.keep K q1, kb, s4.keep K q2⟩⟩
theorem Str2.wr {Z : State} {h h' : Heap} {q t b : Addr} {x y : Int32} {sl : Nat} {v : Value} (S : Str2 Z h q t x y) (W : Wr h h' b sl v) (q1 : q ≠ b) (q2 : t ≠ b) : Str2 Z h' q t x y := S.keep (Keep.of_wr W) (ninS q1 nin0) (ninS q2 nin0)
theorem Str2.lt {Z : State} {h : Heap} {q t : Addr} {x y : Int32} (S : Str2 Z h q t x y) : q < h.size := S.1.lt
theorem Str2.ltt {Z : State} {h : Heap} {q t : Addr} {x y : Int32} (S : Str2 Z h q t x y) : t < h.size := by
  obtain ⟨s1, s2, ⟨s3, ⟨kb, s4⟩, s5⟩ | ⟨s3, kb, s4⟩⟩ := S
  · exact s4.lt
  · exact s4.lt
theorem Str2.neC {Z : State} {h : Heap} {q t b : Addr} {x y : Int32} {C : String} (S : Str2 Z h q t x y) (E : Exa Z h b C) (hn : C ≠ "java/lang/String") : q ≠ b := fun e => (Exa.ne E S.1 hn) e.symm
theorem Str2.neT {Z : State} {h : Heap} {q t b : Addr} {x y : Int32} {C : String} {n : Nat} {a0 : Array Value} (S : Str2 Z h q t x y) (E : Exa Z h b C) (w : (Cond.instantiable C n).before a0 Z = true) : t ≠ b := by
  obtain ⟨s1, s2, ⟨s3, ⟨kb, s4⟩, s5⟩ | ⟨s3, kb, s4⟩⟩ := S
  · exact fun e => (Exa.neArv E s4 w) e.symm
  · exact fun e => (Exa.neArv E s4 w) e.symm
/-- the object at j is a JsonText that has written bs into the array at b -/
def JT (Z : State) (h : Heap) (j b : Addr) (kb : ClassId) (bs : List Int32) (f : Int32) : Prop := Exa Z h j "com/example/dijtabla/dijtabla/JsonText" ∧ Fld Z h j "com/example/dijtabla/dijtabla/JsonText" "bytes" "[B" (.ref b) ∧ Fld Z h j "com/example/dijtabla/dijtabla/JsonText" "length" "I" (.int (Int32.ofNat bs.length)) ∧ Fld Z h j "com/example/dijtabla/dijtabla/JsonText" "first" "Z" (.int f) ∧ Arv Z h b kb .byte 4096 (bs.map Value.int) (.int 0)
/-! what a char is written as -/
def hx (d : Int32) : Int32 := if d < 10 then ((48 : Int32) + d).toInt8.toInt32 else ((55 : Int32) + d).toInt8.toInt32
theorem nar_hx (d : Int32) : nar .byte (hx d) = hx d := by
  by_cases q : d < 10
  · rw [show hx d = ((48 : Int32) + d).toInt8.toInt32 from if_pos q]; exact nar_byte _
  · rw [show hx d = ((55 : Int32) + d).toInt8.toInt32 from if_neg q]; exact nar_byte _
theorem hexL_hx {j : Int32} (h : ¬ j < 0 ∧ j < 16) : nar .byte (hexL.getD j.toNatClampNeg 0) = hx j := by
  obtain ⟨i, hi, rfl⟩ := below_lit (d := 16) rfl h
  exact (by decide +kernel : ∀ i : Fin 16, nar .byte (hexL.getD (Int32.ofNat i.val).toNatClampNeg 0) = hx (Int32.ofNat i.val)) ⟨i, hi⟩
def Ec (c : Int32) : List Int32 :=
  if c = 34 ∨ c = 92 then [92, c.toInt8.toInt32] else
  if c = 8 then [92, 98] else if c = 9 then [92, 116] else if c = 10 then [92, 110] else if c = 12 then [92, 102] else if c = 13 then [92, 114] else
  if c < 32 ∨ (¬ c < 55296 ∧ ¬ (57343 : Int32) < c) then [92, 117, hx (c / 4096), hx ((c / 256) % 16), hx ((c / 16) % 16), hx (c % 16)] else
  if c < 128 then [c.toInt8.toInt32] else
  if c < 2048 then [((192 : Int32) + c / 64).toInt8.toInt32, ((128 : Int32) + c % 64).toInt8.toInt32] else
  [((224 : Int32) + c / 4096).toInt8.toInt32, ((128 : Int32) + (c / 64) % 64).toInt8.toInt32, ((128 : Int32) + c % 64).toInt8.toInt32]
theorem Ec_q {c : Int32} (h : c = 34 ∨ c = 92) : Ec c = [92, c.toInt8.toInt32] := if_pos h
def NoE (c : Int32) : Prop := ¬ c = 34 ∧ ¬ c = 92 ∧ ¬ c = 8 ∧ ¬ c = 9 ∧ ¬ c = 10 ∧ ¬ c = 12 ∧ ¬ c = 13
theorem Ec_no {c : Int32} (h : NoE c) : Ec c = if c < 32 ∨ (¬ c < 55296 ∧ ¬ (57343 : Int32) < c) then [92, 117, hx (c / 4096), hx ((c / 256) % 16), hx ((c / 16) % 16), hx (c % 16)] else
  if c < 128 then [c.toInt8.toInt32] else
  if c < 2048 then [((192 : Int32) + c / 64).toInt8.toInt32, ((128 : Int32) + c % 64).toInt8.toInt32] else
  [((224 : Int32) + c / 4096).toInt8.toInt32, ((128 : Int32) + (c / 64) % 64).toInt8.toInt32, ((128 : Int32) + c % 64).toInt8.toInt32] := by
  obtain ⟨h1, h2, h3, h4, h5, h6, h7⟩ := h
  exact (if_neg (fun q => q.elim h1 h2)).trans ((if_neg h3).trans ((if_neg h4).trans ((if_neg h5).trans ((if_neg h6).trans (if_neg h7)))))
theorem Ec_u {c : Int32} (h : NoE c) (hu : c < 32 ∨ (¬ c < 55296 ∧ ¬ (57343 : Int32) < c)) : Ec c = [92, 117, hx (c / 4096), hx ((c / 256) % 16), hx ((c / 16) % 16), hx (c % 16)] := (Ec_no h).trans (if_pos hu)
theorem Ec_1 {c : Int32} (h : NoE c) (hu : ¬ (c < 32 ∨ (¬ c < 55296 ∧ ¬ (57343 : Int32) < c))) (h1 : c < 128) : Ec c = [c.toInt8.toInt32] := (Ec_no h).trans ((if_neg hu).trans (if_pos h1))
theorem Ec_2 {c : Int32} (h : NoE c) (hu : ¬ (c < 32 ∨ (¬ c < 55296 ∧ ¬ (57343 : Int32) < c))) (h1 : ¬ c < 128) (h2 : c < 2048) : Ec c = [((192 : Int32) + c / 64).toInt8.toInt32, ((128 : Int32) + c % 64).toInt8.toInt32] := (Ec_no h).trans ((if_neg hu).trans ((if_neg h1).trans (if_pos h2)))
theorem Ec_3 {c : Int32} (h : NoE c) (hu : ¬ (c < 32 ∨ (¬ c < 55296 ∧ ¬ (57343 : Int32) < c))) (h1 : ¬ c < 128) (h2 : ¬ c < 2048) : Ec c = [((224 : Int32) + c / 4096).toInt8.toInt32, ((128 : Int32) + (c / 64) % 64).toInt8.toInt32, ((128 : Int32) + c % 64).toInt8.toInt32] := (Ec_no h).trans ((if_neg hu).trans ((if_neg h1).trans (if_neg h2)))
theorem Ec_len (c : Int32) : (Ec c).length ≤ 6 := by
  unfold Ec
  repeat' split
  all_goals (simp only [List.length_cons, List.length_nil]; decide)
theorem toIntK (n : Nat) (h : n < 2 ^ 31) : (Int32.ofNat n).toInt = n := Int32.toInt_ofNat_small h
/-- a plain sign -/
theorem Ec_pl {c : Int32} (h1 : ¬ c < 32) (h2 : c < 128) (h3 : ¬ c = 34) (h4 : ¬ c = 92) : Ec c = [c.toInt8.toInt32] := by
  have g1 := h1
  have g2 := h2
  rw [Int32.lt_iff_toInt_lt] at g1 g2
  have e1 : (32 : Int32).toInt = 32 := rfl
  have e2 : (128 : Int32).toInt = 128 := rfl
  refine Ec_1 ⟨h3, h4, ?_, ?_, ?_, ?_, ?_⟩ ?_ h2
  · rintro rfl; exact h1 (by decide)
  · rintro rfl; exact h1 (by decide)
  · rintro rfl; exact h1 (by decide)
  · rintro rfl; exact h1 (by decide)
  · rintro rfl; exact h1 (by decide)
  · rintro (q | ⟨q, -⟩)
    · exact h1 q
    · rw [Int32.lt_iff_toInt_lt] at q
      have e3 : (55296 : Int32).toInt = 55296 := rfl
      omega
/-! the same by shifts -/
theorem d12 {c : Int32} (h : R16 c) : (c >>> ((12 : Int32) &&& 31)) &&& (15 : Int32) = c / 4096 := by
  have q := h.nn
  rw [shr_div (k := 12) q.1 (by decide) (y := 4096) (by decide) (by decide)]
  have e := (c_idiv c 4096 4096 rfl (by decide)).1 q.1
  apply Int32.toInt_inj.mp
  rw [c_mask _ 15 4 (by decide) (by decide), e]
  omega
theorem dmod {c : Int32} (h : R16 c) {q y : Int32} {k : Nat} (hk : q.toBitVec.toNat % 32 = k) (hy : y.toInt = (2 ^ k : Nat)) (hn : y ≠ -1) : (c >>> (q &&& 31)) &&& (15 : Int32) = (c / y) % 16 := by
  rw [shr_div (k := k) h.nn.1 hk hy hn]
  refine and_mod (k := 4) ?_ (by decide) (by decide) (by decide)
  rw [(c_idiv c y _ hy hn).1 h.nn.1]
  exact Int.ediv_nonneg h.nn.1 (Int.natCast_nonneg _)
theorem d0 {c : Int32} (h : R16 c) : (c >>> ((0 : Int32) &&& 31)) &&& (15 : Int32) = c % 16 := by
  rw [StrChars.shr0]
  exact and_mod (k := 4) h.nn.1 (by decide) (by decide) (by decide)
theorem din (x : Int32) : ¬ (x &&& (15 : Int32)) < 0 ∧ (x &&& (15 : Int32)) < 16 := by
  have q := c_and x 15 (by decide)
  have e1 : (15 : Int32).toInt = 15 := rfl
  have e2 : (16 : Int32).toInt = 16 := rfl
  have e0 : (0 : Int32).toInt = 0 := rfl
  rw [Int32.lt_iff_toInt_lt, Int32.lt_iff_toInt_lt, e0, e2]
  omega
theorem o63 {c : Int32} (h : 0 ≤ c.toInt) : (128 : Int32) ||| (c &&& (63 : Int32)) = (128 : Int32) + c % 64 := by
  rw [and_mod (k := 6) h (by decide) (by decide) (y := 64) (by decide)]
  have e := (c_irem c 64 64 rfl).1 h
  have l1 := Int.emod_nonneg c.toInt (show (64 : Int) ≠ 0 by decide)
  have l2 := Int.emod_lt_of_pos c.toInt (show (0 : Int) < 64 by decide)
  exact or_add (k := 7) (by decide) (by decide) (by rw [e]; exact l1) (by rw [e]; show c.toInt % 64 < 128; omega)
theorem o2 {c : Int32} (h : R16 c) (h2 : c < 2048) : (192 : Int32) ||| (c >>> ((6 : Int32) &&& 31)) = (192 : Int32) + c / 64 := by
  have q := h.nn
  rw [shr_div (k := 6) q.1 (by decide) (y := 64) (by decide) (by decide)]
  have e := (c_idiv c 64 64 rfl (by decide)).1 q.1
  rw [Int32.lt_iff_toInt_lt] at h2
  have e2 : (2048 : Int32).toInt = 2048 := rfl
  exact or_add (k := 6) (by decide) (by decide) (by rw [e]; omega) (by rw [e]; show c.toInt / 64 < 64; omega)
theorem o3 {c : Int32} (h : R16 c) : (224 : Int32) ||| (c >>> ((12 : Int32) &&& 31)) = (224 : Int32) + c / 4096 := by
  have q := h.nn
  rw [shr_div (k := 12) q.1 (by decide) (y := 4096) (by decide) (by decide)]
  have e := (c_idiv c 4096 4096 rfl (by decide)).1 q.1
  exact or_add (k := 5) (by decide) (by decide) (by rw [e]; omega) (by rw [e]; show c.toInt / 4096 < 32; omega)
theorem o33 {c : Int32} (h : R16 c) : (128 : Int32) ||| ((c >>> ((6 : Int32) &&& 31)) &&& (63 : Int32)) = (128 : Int32) + (c / 64) % 64 := by
  have q := h.nn
  rw [shr_div (k := 6) q.1 (by decide) (y := 64) (by decide) (by decide)]
  refine o63 ?_
  rw [(c_idiv c 64 64 rfl (by decide)).1 q.1]; omega
/-! room, places -/
theorem room_ok {n k : Nat} (h : n + k ≤ 4096) : ¬ (4096 : Int32) < Int32.ofNat n + Int32.ofNat k := by
  rw [ofn_add, Int32.lt_iff_toInt_lt, Int32.toInt_ofNat_small (by omega)]
  have e : (4096 : Int32).toInt = 4096 := rfl
  omega
theorem rmB {bs xs : List Int32} {k : Nat} (hk : xs.length = k) (h : bs.length + k < 4096) : (bs ++ xs).length < (4096 : Int32).toNatClampNeg := by rw [List.length_append, hk]; exact h
theorem rmB0 {bs : List Int32} (h : bs.length < 4096) : bs.length < (4096 : Int32).toNatClampNeg := h
theorem rmE {bs xs : List Int32} {k : Nat} (hk : xs.length = k) (h : bs.length + k < 32) : (bs ++ xs).length < (32 : Int32).toNatClampNeg := by rw [List.length_append, hk]; exact h
theorem rmE0 {bs : List Int32} (h : bs.length < 32) : bs.length < (32 : Int32).toNatClampNeg := h
theorem ln {bs xs : List Int32} {k : Nat} (hk : xs.length = k) : bs.length + k = (bs ++ xs).length := by rw [List.length_append, hk]
theorem lnI {bs xs : List Int32} {k : Nat} (hk : xs.length = k) : Int32.ofNat (bs.length + k) = Int32.ofNat (bs ++ xs).length := congrArg Int32.ofNat (ln hk)
theorem lnV {bs xs ys : List Int32} {k : Nat} (hk : xs.length = k) (he : ys = xs) : some (Value.int (Int32.ofNat (bs.length + k))) = some (Value.int (Int32.ofNat (bs ++ ys).length)) := by rw [he, ← ln hk]
/-! the HEX array as the case's words say it -/
theorem all_e {args : Array Value} {s : State} {t : Term} {c : Jvm.Cond} {a : Addr} {cell : Cell} (ht : t.eval args s none [] s = some (.ref a)) (ha : s.arrayAt? a = some cell) (h : (Jvm.Cond.all t c).value args s none s [] = some true) : ∀ i, i < cell.slots.size → c.value args s none s [i] = some true := by
  simp only [Cond.value, ht, ha] at h
  exact Example.SumArray.foldl_all _ _ (fun _ => rfl) (fun x _ hx => by
    cases x with
    | none => rfl
    | some b => cases b <;> first | rfl | exact absurd rfl hx) _ h
theorem eq_longs {args : Array Value} {s : State} {idx : List Nat} {a b : Term} {x y : Int64} (ha : a.eval args s none idx s = some (.long x)) (hb : b.eval args s none idx s = some (.long y)) : (Jvm.Cond.eq a b).value args s none s idx = some (decide (x = y)) := by simp [Cond.value, ha, hb]
abbrev HEXT : Term := .static "com/example/dijtabla/dijtabla/JsonText" "HEX" "[B"
theorem hex_el {Z : State} {args : Array Value} {r : Addr} {cl : Cell} (er : ∀ idx, HEXT.eval args Z none idx Z = some (.ref r)) (hcl : Z.arrayAt? r = some cl) (h31 : cl.slots.size < 2 ^ 31) {i : Nat} (hi : i < cl.slots.size) {x : Int32} (hx : cl.slots[i]? = some (.int x)) {k : Int64} :
    (Jvm.Cond.eq (.op1 .i2l (.elem HEXT (.index 0))) (.op2 .ladd (.op1 .i2l (.index 0)) (.long k))).value args Z none Z [i] = some (decide (x.toInt64 = (Int32.ofNat i).toInt64 + k)) := by
  have e1 : (Term.elem HEXT (.index 0)).eval args Z none [i] Z = some (.int x) := (SBG.elem_at (er [i]) hcl hi h31 rfl).trans hx
  exact eq_longs (by simp only [Term.eval] at e1 ⊢; simp only [e1]; rfl) rfl
theorem hex_num {i : Nat} {x : Int32} {k : Int64} (h : x.toInt64 = (Int32.ofNat i).toInt64 + k) : x = ((Int32.ofNat i).toInt64 + k).toInt32 := by
  have q := congrArg Int64.toInt32 h
  rwa [Int32.toInt32_toInt64] at q
theorem hex_fin1 : ∀ i : Fin 16, ¬ (10 : Int32) ≤ Int32.ofNat i.val → ((Int32.ofNat i.val).toInt64 + 48).toInt32 = hexL.getD i.val 0 := by decide +kernel
theorem hex_fin2 : ∀ i : Fin 16, ¬ (Int32.ofNat i.val < (10 : Int32)) → ((Int32.ofNat i.val).toInt64 + 55).toInt32 = hexL.getD i.val 0 := by decide +kernel
theorem hex_fin3 : ∀ i : Fin 16, (10 : Int32) ≤ Int32.ofNat i.val → ¬ (Int32.ofNat i.val < (10 : Int32)) := by decide +kernel
theorem hasL_of {cl : Cell} : ∀ (bs : List Int32) (i : Nat), (∀ j, j < bs.length → cl.slots[i + j]? = some (.int (bs.getD j 0))) → HasL cl i (bs.map Value.int)
  | [], _, _ => trivial
  | x :: r, i, h => ⟨h 0 (Nat.succ_pos _), hasL_of r (i + 1) fun j hj => by
      have q := h (j + 1) (Nat.succ_lt_succ hj)
      rw [show i + 1 + j = i + (j + 1) by omega]
      exact q⟩
theorem hex_start {Z : State} {args : Array Value} (hf : Fit Z) (hn : narrow_1.value args Z none Z [] = some true) : ∃ a k, HEXT.eval args Z none [] Z = some (.ref a) ∧ Arv Z Z.heap a k .byte 16 (hexL.map Value.int) (.int 0) := by
  obtain ⟨hA, hn⟩ := and_e hn
  obtain ⟨hL, hn⟩ := and_e hn
  obtain ⟨h1, h2⟩ := and_e hn
  have el := eqv_i (Term.int_eval 16) hL
  obtain ⟨r, cl, er, hcl, hsz⟩ := Term.length_spec el
  have h31 := SBG.length_lt er hcl el
  have hc := arrayAt_cell hcl
  have A : Arr Z Z.heap r cl .byte := ⟨hc, Cond.arrayOf_spec (Cond.before_iff.mpr hA) er hc⟩
  have ez : cl.slots.size.toInt32 = 16 := by simpa using hsz.symm
  have hs : cl.slots.size = 16 := by
    have q : (cl.slots.size.toInt32).toNatClampNeg = cl.slots.size := by show (Int32.ofNat cl.slots.size).toInt.toNat = _; rw [Int32.toInt_ofNat_small h31]; rfl
    rw [← q, ez]; rfl
  have er' : ∀ idx, HEXT.eval args Z none idx Z = some (.ref r) := fun idx => by simpa only [Term.eval] using er
  refine ⟨r, cl.cls, er, Arv.start hf A h31 ez (by decide) rfl ?_⟩
  refine hasL_of hexL 0 fun j hj => ?_
  rw [Nat.zero_add]
  have hj16 : j < 16 := hj
  have hjs : j < cl.slots.size := by rw [hs]; exact hj16
  have hj31 : j < 2 ^ 31 := by omega
  obtain ⟨v, hv⟩ : ∃ v, cl.slots[j]? = some v := ⟨_, Array.getElem?_eq_getElem hjs⟩
  have e1 : (Nat.toInt32 j).toNatClampNeg = j := by show (Int32.ofNat j).toInt.toNat = _; rw [Int32.toInt_ofNat_small hj31]; rfl
  have ff := elem_fits (j := Nat.toInt32 j) hf A (idx_in hjs h31) (by rw [e1]; exact hv)
  obtain ⟨x, rfl⟩ : ∃ x, v = .int x := by cases v <;> first | exact ⟨_, rfl⟩ | cases ff
  have a1 := or_e2 (Cond.le_ints (Term.int_eval 10) (show (Term.index 0).eval args Z none [j] Z = some (.int (Int32.ofNat j)) from rfl)) (hex_el er' hcl h31 hjs hv) (all_e er hcl h1 j hjs)
  have a2 := or_e2 (Cond.lt_ints (show (Term.index 0).eval args Z none [j] Z = some (.int (Int32.ofNat j)) from rfl) (Term.int_eval 10)) (hex_el er' hcl h31 hjs hv) (all_e er hcl h2 j hjs)
  rw [hv]
  rcases a1 with a1 | a1
  · rcases a2 with a2 | a2
    · exact absurd a2 (hex_fin3 ⟨j, hj16⟩ a1)
    · rw [hex_num a2, hex_fin2 ⟨j, hj16⟩ (hex_fin3 ⟨j, hj16⟩ a1)]
  · rcases a2 with a2 | a2
    · rw [hex_num a1]
      exact congrArg (fun z => some (Value.int z)) (hex_fin1 ⟨j, hj16⟩ (fun q => hex_fin3 ⟨j, hj16⟩ q a2))
    · by_cases q : (10 : Int32) ≤ Int32.ofNat j
      · rw [hex_num a2, hex_fin2 ⟨j, hj16⟩ (hex_fin3 ⟨j, hj16⟩ q)]
      · rw [hex_num a1, hex_fin1 ⟨j, hj16⟩ q]
theorem fld_ln {Z : State} {h : Heap} {a : Addr} {C n d : String} {bs xs : List Int32} {k : Nat} (F : Fld Z h a C n d (.int (Int32.ofNat (bs.length + k)))) (hk : xs.length = k) : Fld Z h a C n d (.int (Int32.ofNat (bs ++ xs).length)) := by rw [← ln hk]; exact F
theorem fld_nl {Z : State} {h : Heap} {a : Addr} {C n d : String} {bs xs : List Int32} {k : Nat} (F : Fld Z h a C n d (.int (Int32.ofNat (bs ++ xs).length))) (hk : xs.length = k) : Fld Z h a C n d (.int (Int32.ofNat (bs.length + k))) := by rw [ln hk]; exact F
theorem lnE {bs xs ys : List Int32} {k : Nat} (he : ys = xs) (hk : xs.length = k) : some (Value.int (Int32.ofNat (bs.length + k))) = some (Value.int (Int32.ofNat (bs ++ ys).length)) := by rw [he, ← ln hk]
theorem hlA {bs xs : List Int32} {k m : Nat} (hk : xs.length = k) (h : bs.length + k ≤ m) : (bs ++ xs).length ≤ m := by rw [List.length_append, hk]; exact h
theorem nosur {c : Int32} (h : ¬ c < 32) (hs : c < 55296 ∨ ¬ c < 57344) : ¬ (c < 32 ∨ (¬ c < 55296 ∧ ¬ (57343 : Int32) < c)) := by
  rintro (q | ⟨q1, q2⟩)
  · exact h q
  · rcases hs with s | s
    · exact q1 s
    · rw [Int32.lt_iff_toInt_lt] at q2 s
      have e1 : (57344 : Int32).toInt = 57344 := rfl
      have e2 : (57343 : Int32).toInt = 57343 := rfl
      omega
theorem issur {c : Int32} (h1 : ¬ c < 55296) (h2 : c < 57344) : c < 32 ∨ (¬ c < 55296 ∧ ¬ (57343 : Int32) < c) := Or.inr ⟨h1, fun q => by
  rw [Int32.lt_iff_toInt_lt] at q h2
  have e1 : (57344 : Int32).toInt = 57344 := rfl
  have e2 : (57343 : Int32).toInt = 57343 := rfl
  omega⟩
theorem ofn_lt {n : Nat} (h : n ≤ 24) : Int32.ofNat n < 4096 := by
  rw [Int32.lt_iff_toInt_lt, Int32.toInt_ofNat_small (by omega)]
  have e : (4096 : Int32).toInt = 4096 := rfl
  omega
theorem ofn_ne {n : Nat} (h : n ≤ 24) : ¬ (Int32.ofNat n = 4096) := fun q => by
  have r := ofn_lt h
  rw [q] at r
  exact absurd r (by decide)
theorem head91 {bs : List Int32} (hd : bs = [] ∨ ∃ r, bs = 91 :: r) (h : (0 : Int32) < Int32.ofNat bs.length) : bs.getD (0 : Int32).toNatClampNeg 0 = 91 ∧ 0 < (bs.map Value.int).length := by
  rcases hd with rfl | ⟨r, rfl⟩
  · exact absurd h (by decide)
  · exact ⟨rfl, Nat.succ_pos _⟩
theorem JT.E {Z : State} {h : Heap} {j b : Addr} {kb : ClassId} {bs : List Int32} {f : Int32} (J : JT Z h j b kb bs f) : Exa Z h j "com/example/dijtabla/dijtabla/JsonText" := J.1
theorem JT.ext {Z : State} {h h' : Heap} {j b : Addr} {kb : ClassId} {bs : List Int32} {f : Int32} (J : JT Z h j b kb bs f) (E : Ext h h') : JT Z h' j b kb bs f := by
  obtain ⟨j1, j2, j3, j4, j5⟩ := J
  exact ⟨j1.ext E, j2.ext E, j3.ext E, j4.ext E, j5.ext E⟩
theorem JT.keep {Z : State} {h h' : Heap} {j b : Addr} {kb : ClassId} {bs : List Int32} {f : Int32} {ws : List Addr} (J : JT Z h j b kb bs f) (K : Keep h h' ws) (q1 : j ∉ ws) (q2 : b ∉ ws) : JT Z h' j b kb bs f := by
  obtain ⟨j1, j2, j3, j4, j5⟩ := J
  exact ⟨j1.keep K, j2.keep K q1, j3.keep K q1, j4.keep K q1, j5.keep K q2⟩
theorem JT.wr {Z : State} {h h' : Heap} {j b a : Addr} {kb : ClassId} {bs : List Int32} {f : Int32} {sl : Nat} {v : Value} (J : JT Z h j b kb bs f) (W : Wr h h' a sl v) (q1 : j ≠ a) (q2 : b ≠ a) : JT Z h' j b kb bs f := J.keep (Keep.of_wr W) (ninS q1 nin0) (ninS q2 nin0)
theorem JT.lt {Z : State} {h : Heap} {j b : Addr} {kb : ClassId} {bs : List Int32} {f : Int32} (J : JT Z h j b kb bs f) : j < h.size := J.1.lt
theorem JT.ltt {Z : State} {h : Heap} {j b : Addr} {kb : ClassId} {bs : List Int32} {f : Int32} (J : JT Z h j b kb bs f) : b < h.size := J.2.2.2.2.lt
theorem JT.of {Z : State} {h : Heap} {j b : Addr} {kb : ClassId} {bs cs : List Int32} {f : Int32} (J : JT Z h j b kb bs f) (q : bs = cs) : JT Z h j b kb cs f := q ▸ J
theorem litV_n : litV 165 = [.int 110, .int 117, .int 108, .int 108] := by first | rfl | decide +kernel
theorem litV_b : litV 197 = [.int 98, .int 116, .int 110, .int 32, .int 102, .int 114] := by first | rfl | decide +kernel
abbrev Y1 : MethodName := ⟨"com/example/dijtabla/dijtabla/JsonText", "bytes", "()[B"⟩
abbrev Y3 : MethodName := ⟨"com/example/dijtabla/dijtabla/JsonText", "endArray", "()Lcom/example/dijtabla/dijtabla/JsonText;"⟩
abbrev Y4 : MethodName := ⟨"com/example/dijtabla/dijtabla/JsonText", "escaped", "(CI)I"⟩
abbrev Y6 : MethodName := ⟨"com/example/dijtabla/dijtabla/JsonText", "nullValue", "()Lcom/example/dijtabla/dijtabla/JsonText;"⟩
abbrev Y8 : MethodName := ⟨"com/example/dijtabla/dijtabla/JsonText", "put", "(C)V"⟩
abbrev Y10 : MethodName := ⟨"com/example/dijtabla/dijtabla/JsonText", "room", "(I)V"⟩
abbrev Y11 : MethodName := ⟨"com/example/dijtabla/dijtabla/JsonText", "startArray", "()Lcom/example/dijtabla/dijtabla/JsonText;"⟩
abbrev Y12 : MethodName := ⟨"com/example/dijtabla/dijtabla/JsonText", "string", "(Ljava/lang/String;)Lcom/example/dijtabla/dijtabla/JsonText;"⟩
abbrev Y13 : MethodName := ⟨"com/example/dijtabla/dijtabla/JsonText", "value", "()V"⟩
abbrev Y14 : MethodName := ⟨"com/example/dijtabla/dijtabla/JsonTextBytesPinLaw", "enc", "([BIC)I"⟩
abbrev Y15 : MethodName := ⟨"com/example/dijtabla/dijtabla/JsonTextBytesPinLaw", "esc", "([BIC)I"⟩
abbrev Y16 : MethodName := ⟨"com/example/dijtabla/dijtabla/JsonTextBytesPinLaw", "hex", "(I)B"⟩
abbrev Y17 : MethodName := ⟨"com/example/dijtabla/dijtabla/JsonTextBytesPinLaw", "same", "([B[BII)Z"⟩
abbrev Y22 : MethodName := ⟨"java/lang/String", "charAt", "(I)C"⟩
abbrev Y23 : MethodName := ⟨"java/lang/String", "checkIndex", "(II)V"⟩
abbrev Y24 : MethodName := ⟨"java/lang/String", "coder", "()B"⟩
abbrev Y25 : MethodName := ⟨"java/lang/String", "isLatin1", "()Z"⟩
abbrev Y26 : MethodName := ⟨"java/lang/String", "length", "()I"⟩
abbrev Y28 : MethodName := ⟨"java/lang/StringUTF16", "charAt", "([BI)C"⟩
abbrev Y29 : MethodName := ⟨"java/lang/StringUTF16", "checkIndex", "(I[B)V"⟩
abbrev Y30 : MethodName := ⟨"java/lang/StringUTF16", "coderFromArrayLen", "([BI)B"⟩
abbrev Y32 : MethodName := ⟨"java/lang/StringUTF16", "compress", "([CI[BII)I"⟩
abbrev Y33 : MethodName := ⟨"java/lang/StringUTF16", "getChar", "([BI)C"⟩
abbrev Y34 : MethodName := ⟨"java/lang/StringUTF16", "length", "([B)I"⟩
abbrev Y37 : MethodName := ⟨"java/lang/StringUTF16", "putChar", "([BII)V"⟩
abbrev Y38 : MethodName := ⟨"java/lang/StringUTF16", "toBytes", "([CII)[B"⟩
theorem d1_0 : decode jdk_42_method_3_code 0 = .ok (.aload_n 0, 1) := by decide +kernel
theorem d1_1 : decode jdk_42_method_3_code 1 = .ok (.aload_n 1, 1) := by decide +kernel
theorem d1_2 : decode jdk_42_method_3_code 2 = .ok (.iconst 0, 1) := by decide +kernel
theorem d1_3 : decode jdk_42_method_3_code 3 = .ok (.aload_n 1, 1) := by decide +kernel
theorem d1_4 : decode jdk_42_method_3_code 4 = .ok (.arraylength, 1) := by decide +kernel
theorem d1_5 : decode jdk_42_method_3_code 5 = .ok (.aconst_null, 1) := by decide +kernel
theorem d1_6 : decode jdk_42_method_3_code 6 = .ok (.invokespecial 27, 3) := by decide +kernel
theorem d1_9 : decode jdk_42_method_3_code 9 = .ok (.return_, 1) := by decide +kernel
theorem d2_0 : decode jdk_42_method_149_code 0 = .ok (.aload_n 0, 1) := by decide +kernel
theorem d2_1 : decode jdk_42_method_149_code 1 = .ok (.invokespecial 1, 3) := by decide +kernel
theorem d2_4 : decode jdk_42_method_149_code 4 = .ok (.iload_n 3, 1) := by decide +kernel
theorem d2_5 : decode jdk_42_method_149_code 5 = .ok (.ifCond .ne 22, 3) := by decide +kernel
theorem d2_27 : decode jdk_42_method_149_code 27 = .ok (.getstatic 38, 3) := by decide +kernel
theorem d2_30 : decode jdk_42_method_149_code 30 = .ok (.ifCond .eq 28, 3) := by decide +kernel
theorem d2_33 : decode jdk_42_method_149_code 33 = .ok (.aload_n 1, 1) := by decide +kernel
theorem d2_34 : decode jdk_42_method_149_code 34 = .ok (.iload_n 2, 1) := by decide +kernel
theorem d2_35 : decode jdk_42_method_149_code 35 = .ok (.iload_n 3, 1) := by decide +kernel
theorem d2_36 : decode jdk_42_method_149_code 36 = .ok (.invokestatic 177, 3) := by decide +kernel
theorem d2_39 : decode jdk_42_method_149_code 39 = .ok (.astore 5, 2) := by decide +kernel
theorem d2_41 : decode jdk_42_method_149_code 41 = .ok (.aload_n 0, 1) := by decide +kernel
theorem d2_42 : decode jdk_42_method_149_code 42 = .ok (.aload 5, 2) := by decide +kernel
theorem d2_44 : decode jdk_42_method_149_code 44 = .ok (.iload_n 3, 1) := by decide +kernel
theorem d2_45 : decode jdk_42_method_149_code 45 = .ok (.invokestatic 47, 3) := by decide +kernel
theorem d2_48 : decode jdk_42_method_149_code 48 = .ok (.putfield 15, 3) := by decide +kernel
theorem d2_51 : decode jdk_42_method_149_code 51 = .ok (.aload_n 0, 1) := by decide +kernel
theorem d2_52 : decode jdk_42_method_149_code 52 = .ok (.aload 5, 2) := by decide +kernel
theorem d2_54 : decode jdk_42_method_149_code 54 = .ok (.putfield 9, 3) := by decide +kernel
theorem d2_57 : decode jdk_42_method_149_code 57 = .ok (.return_, 1) := by decide +kernel
theorem d4_0 : decode jdk_52_method_16_code 0 = .ok (.iload_n 2, 1) := by decide +kernel
theorem d4_1 : decode jdk_52_method_16_code 1 = .ok (.newarray .byte, 2) := by decide +kernel
theorem d4_3 : decode jdk_52_method_16_code 3 = .ok (.astore_n 3, 1) := by decide +kernel
theorem d4_4 : decode jdk_52_method_16_code 4 = .ok (.aload_n 0, 1) := by decide +kernel
theorem d4_5 : decode jdk_52_method_16_code 5 = .ok (.iload_n 1, 1) := by decide +kernel
theorem d4_6 : decode jdk_52_method_16_code 6 = .ok (.aload_n 3, 1) := by decide +kernel
theorem d4_7 : decode jdk_52_method_16_code 7 = .ok (.iconst 0, 1) := by decide +kernel
theorem d4_8 : decode jdk_52_method_16_code 8 = .ok (.iload_n 2, 1) := by decide +kernel
theorem d4_9 : decode jdk_52_method_16_code 9 = .ok (.invokestatic 115, 3) := by decide +kernel
theorem d4_12 : decode jdk_52_method_16_code 12 = .ok (.istore 4, 2) := by decide +kernel
theorem d4_14 : decode jdk_52_method_16_code 14 = .ok (.iload 4, 2) := by decide +kernel
theorem d4_16 : decode jdk_52_method_16_code 16 = .ok (.iload_n 2, 1) := by decide +kernel
theorem d4_17 : decode jdk_52_method_16_code 17 = .ok (.if_icmp .eq 40, 3) := by decide +kernel
theorem d4_20 : decode jdk_52_method_16_code 20 = .ok (.aload_n 0, 1) := by decide +kernel
theorem d4_21 : decode jdk_52_method_16_code 21 = .ok (.iload_n 1, 1) := by decide +kernel
theorem d4_22 : decode jdk_52_method_16_code 22 = .ok (.iload_n 2, 1) := by decide +kernel
theorem d4_23 : decode jdk_52_method_16_code 23 = .ok (.invokestatic 119, 3) := by decide +kernel
theorem d4_26 : decode jdk_52_method_16_code 26 = .ok (.astore 5, 2) := by decide +kernel
theorem d4_28 : decode jdk_52_method_16_code 28 = .ok (.aload 5, 2) := by decide +kernel
theorem d4_30 : decode jdk_52_method_16_code 30 = .ok (.iload 4, 2) := by decide +kernel
theorem d4_32 : decode jdk_52_method_16_code 32 = .ok (.invokestatic 71, 3) := by decide +kernel
theorem d4_35 : decode jdk_52_method_16_code 35 = .ok (.sipush 255, 3) := by decide +kernel
theorem d4_38 : decode jdk_52_method_16_code 38 = .ok (.if_icmp .gt 16, 3) := by decide +kernel
theorem d4_54 : decode jdk_52_method_16_code 54 = .ok (.aload 5, 2) := by decide +kernel
theorem d4_56 : decode jdk_52_method_16_code 56 = .ok (.areturn, 1) := by decide +kernel
theorem d4_57 : decode jdk_52_method_16_code 57 = .ok (.aload_n 3, 1) := by decide +kernel
theorem d4_58 : decode jdk_52_method_16_code 58 = .ok (.areturn, 1) := by decide +kernel
theorem d5_0 : decode jdk_52_method_21_code 0 = .ok (.iconst 0, 1) := by decide +kernel
theorem d5_1 : decode jdk_52_method_21_code 1 = .ok (.istore 5, 2) := by decide +kernel
theorem d5_3 : decode jdk_52_method_21_code 3 = .ok (.iload 5, 2) := by decide +kernel
theorem d5_5 : decode jdk_52_method_21_code 5 = .ok (.iload 4, 2) := by decide +kernel
theorem d5_7 : decode jdk_52_method_21_code 7 = .ok (.if_icmp .ge 37, 3) := by decide +kernel
theorem d5_10 : decode jdk_52_method_21_code 10 = .ok (.aload_n 0, 1) := by decide +kernel
theorem d5_11 : decode jdk_52_method_21_code 11 = .ok (.iload_n 1, 1) := by decide +kernel
theorem d5_12 : decode jdk_52_method_21_code 12 = .ok (.caload, 1) := by decide +kernel
theorem d5_13 : decode jdk_52_method_21_code 13 = .ok (.istore 6, 2) := by decide +kernel
theorem d5_15 : decode jdk_52_method_21_code 15 = .ok (.iload 6, 2) := by decide +kernel
theorem d5_17 : decode jdk_52_method_21_code 17 = .ok (.sipush 255, 3) := by decide +kernel
theorem d5_20 : decode jdk_52_method_21_code 20 = .ok (.if_icmp .le 6, 3) := by decide +kernel
theorem d5_23 : decode jdk_52_method_21_code 23 = .ok (.iload 5, 2) := by decide +kernel
theorem d5_25 : decode jdk_52_method_21_code 25 = .ok (.ireturn, 1) := by decide +kernel
theorem d5_26 : decode jdk_52_method_21_code 26 = .ok (.aload_n 2, 1) := by decide +kernel
theorem d5_27 : decode jdk_52_method_21_code 27 = .ok (.iload_n 3, 1) := by decide +kernel
theorem d5_28 : decode jdk_52_method_21_code 28 = .ok (.iload 6, 2) := by decide +kernel
theorem d5_30 : decode jdk_52_method_21_code 30 = .ok (.i2b, 1) := by decide +kernel
theorem d5_31 : decode jdk_52_method_21_code 31 = .ok (.bastore, 1) := by decide +kernel
theorem d5_32 : decode jdk_52_method_21_code 32 = .ok (.iinc 1 1, 3) := by decide +kernel
theorem d5_35 : decode jdk_52_method_21_code 35 = .ok (.iinc 3 1, 3) := by decide +kernel
theorem d5_38 : decode jdk_52_method_21_code 38 = .ok (.iinc 5 1, 3) := by decide +kernel
theorem d5_41 : decode jdk_52_method_21_code 41 = .ok (.goto (-38), 3) := by decide +kernel
theorem d5_44 : decode jdk_52_method_21_code 44 = .ok (.iload 4, 2) := by decide +kernel
theorem d5_46 : decode jdk_52_method_21_code 46 = .ok (.ireturn, 1) := by decide +kernel
theorem d6_0 : decode jdk_52_method_15_code 0 = .ok (.iload_n 1, 1) := by decide +kernel
theorem d6_1 : decode jdk_52_method_15_code 1 = .ok (.aload_n 0, 1) := by decide +kernel
theorem d6_2 : decode jdk_52_method_15_code 2 = .ok (.arraylength, 1) := by decide +kernel
theorem d6_3 : decode jdk_52_method_15_code 3 = .ok (.isub, 1) := by decide +kernel
theorem d6_4 : decode jdk_52_method_15_code 4 = .ok (.bipush 31, 2) := by decide +kernel
theorem d6_6 : decode jdk_52_method_15_code 6 = .ok (.iushr, 1) := by decide +kernel
theorem d6_7 : decode jdk_52_method_15_code 7 = .ok (.i2b, 1) := by decide +kernel
theorem d6_8 : decode jdk_52_method_15_code 8 = .ok (.ireturn, 1) := by decide +kernel
theorem d7_0 : decode prog_10_method_1_code 0 = .ok (.aload_n 0, 1) := by decide +kernel
theorem d7_1 : decode prog_10_method_1_code 1 = .ok (.invokespecial 1, 3) := by decide +kernel
theorem d7_4 : decode prog_10_method_1_code 4 = .ok (.aload_n 0, 1) := by decide +kernel
theorem d7_5 : decode prog_10_method_1_code 5 = .ok (.sipush 4096, 3) := by decide +kernel
theorem d7_8 : decode prog_10_method_1_code 8 = .ok (.newarray .byte, 2) := by decide +kernel
theorem d7_10 : decode prog_10_method_1_code 10 = .ok (.putfield 7, 3) := by decide +kernel
theorem d7_13 : decode prog_10_method_1_code 13 = .ok (.aload_n 0, 1) := by decide +kernel
theorem d7_14 : decode prog_10_method_1_code 14 = .ok (.iconst 1, 1) := by decide +kernel
theorem d7_15 : decode prog_10_method_1_code 15 = .ok (.putfield 13, 3) := by decide +kernel
theorem d7_18 : decode prog_10_method_1_code 18 = .ok (.return_, 1) := by decide +kernel
theorem d8_0 : decode prog_10_method_11_code 0 = .ok (.aload_n 0, 1) := by decide +kernel
theorem d8_1 : decode prog_10_method_11_code 1 = .ok (.getfield 7, 3) := by decide +kernel
theorem d8_4 : decode prog_10_method_11_code 4 = .ok (.aload_n 0, 1) := by decide +kernel
theorem d8_5 : decode prog_10_method_11_code 5 = .ok (.getfield 34, 3) := by decide +kernel
theorem d8_8 : decode prog_10_method_11_code 8 = .ok (.invokestatic 86, 3) := by decide +kernel
theorem d8_11 : decode prog_10_method_11_code 11 = .ok (.areturn, 1) := by decide +kernel
theorem d9_0 : decode jdk_65_method_121_code 0 = .ok (.iload_n 1, 1) := by decide +kernel
theorem d9_1 : decode jdk_65_method_121_code 1 = .ok (.aload_n 0, 1) := by decide +kernel
theorem d9_2 : decode jdk_65_method_121_code 2 = .ok (.arraylength, 1) := by decide +kernel
theorem d9_3 : decode jdk_65_method_121_code 3 = .ok (.if_icmp .ne 11, 3) := by decide +kernel
theorem d9_14 : decode jdk_65_method_121_code 14 = .ok (.iload_n 1, 1) := by decide +kernel
theorem d9_15 : decode jdk_65_method_121_code 15 = .ok (.newarray .byte, 2) := by decide +kernel
theorem d9_17 : decode jdk_65_method_121_code 17 = .ok (.astore_n 2, 1) := by decide +kernel
theorem d9_18 : decode jdk_65_method_121_code 18 = .ok (.aload_n 0, 1) := by decide +kernel
theorem d9_19 : decode jdk_65_method_121_code 19 = .ok (.iconst 0, 1) := by decide +kernel
theorem d9_20 : decode jdk_65_method_121_code 20 = .ok (.aload_n 2, 1) := by decide +kernel
theorem d9_21 : decode jdk_65_method_121_code 21 = .ok (.iconst 0, 1) := by decide +kernel
theorem d9_22 : decode jdk_65_method_121_code 22 = .ok (.aload_n 0, 1) := by decide +kernel
theorem d9_23 : decode jdk_65_method_121_code 23 = .ok (.arraylength, 1) := by decide +kernel
theorem d9_24 : decode jdk_65_method_121_code 24 = .ok (.iload_n 1, 1) := by decide +kernel
theorem d9_25 : decode jdk_65_method_121_code 25 = .ok (.invokestatic 304, 3) := by decide +kernel
theorem d9_28 : decode jdk_65_method_121_code 28 = .ok (.invokestatic 150, 3) := by decide +kernel
theorem d9_31 : decode jdk_65_method_121_code 31 = .ok (.aload_n 2, 1) := by decide +kernel
theorem d9_32 : decode jdk_65_method_121_code 32 = .ok (.areturn, 1) := by decide +kernel
theorem d10_0 : decode jdk_29_method_69_code 0 = .ok (.iload_n 0, 1) := by decide +kernel
theorem d10_1 : decode jdk_29_method_69_code 1 = .ok (.iload_n 1, 1) := by decide +kernel
theorem d10_2 : decode jdk_29_method_69_code 2 = .ok (.if_icmp .gt 7, 3) := by decide +kernel
theorem d10_9 : decode jdk_29_method_69_code 9 = .ok (.iload_n 1, 1) := by decide +kernel
theorem d10_10 : decode jdk_29_method_69_code 10 = .ok (.ireturn, 1) := by decide +kernel
theorem d11_0 : decode method_3_code 0 = .ok (.iload_n 2, 1) := by decide +kernel
theorem d11_1 : decode method_3_code 1 = .ok (.iload_n 3, 1) := by decide +kernel
theorem d11_2 : decode method_3_code 2 = .ok (.if_icmp .lt 5, 3) := by decide +kernel
theorem d11_5 : decode method_3_code 5 = .ok (.iconst 1, 1) := by decide +kernel
theorem d11_6 : decode method_3_code 6 = .ok (.ireturn, 1) := by decide +kernel
theorem d11_7 : decode method_3_code 7 = .ok (.iload_n 2, 1) := by decide +kernel
theorem d11_8 : decode method_3_code 8 = .ok (.aload_n 0, 1) := by decide +kernel
theorem d11_9 : decode method_3_code 9 = .ok (.arraylength, 1) := by decide +kernel
theorem d11_10 : decode method_3_code 10 = .ok (.if_icmp .ge 22, 3) := by decide +kernel
theorem d11_13 : decode method_3_code 13 = .ok (.iload_n 2, 1) := by decide +kernel
theorem d11_14 : decode method_3_code 14 = .ok (.aload_n 1, 1) := by decide +kernel
theorem d11_15 : decode method_3_code 15 = .ok (.arraylength, 1) := by decide +kernel
theorem d11_16 : decode method_3_code 16 = .ok (.if_icmp .ge 16, 3) := by decide +kernel
theorem d11_19 : decode method_3_code 19 = .ok (.aload_n 0, 1) := by decide +kernel
theorem d11_20 : decode method_3_code 20 = .ok (.iload_n 2, 1) := by decide +kernel
theorem d11_21 : decode method_3_code 21 = .ok (.baload, 1) := by decide +kernel
theorem d11_22 : decode method_3_code 22 = .ok (.aload_n 1, 1) := by decide +kernel
theorem d11_23 : decode method_3_code 23 = .ok (.iload_n 2, 1) := by decide +kernel
theorem d11_24 : decode method_3_code 24 = .ok (.baload, 1) := by decide +kernel
theorem d11_25 : decode method_3_code 25 = .ok (.if_icmp .ne 7, 3) := by decide +kernel
theorem d11_28 : decode method_3_code 28 = .ok (.iconst 1, 1) := by decide +kernel
theorem d11_29 : decode method_3_code 29 = .ok (.goto 4, 3) := by decide +kernel
theorem d11_33 : decode method_3_code 33 = .ok (.ireturn, 1) := by decide +kernel
theorem d12_0 : decode jdk_52_method_14_code 0 = .ok (.iload_n 2, 1) := by decide +kernel
theorem d12_1 : decode jdk_52_method_14_code 1 = .ok (.invokestatic 107, 3) := by decide +kernel
theorem d12_4 : decode jdk_52_method_14_code 4 = .ok (.astore_n 3, 1) := by decide +kernel
theorem d12_5 : decode jdk_52_method_14_code 5 = .ok (.iconst 0, 1) := by decide +kernel
theorem d12_6 : decode jdk_52_method_14_code 6 = .ok (.istore 4, 2) := by decide +kernel
theorem d12_8 : decode jdk_52_method_14_code 8 = .ok (.iload 4, 2) := by decide +kernel
theorem d12_10 : decode jdk_52_method_14_code 10 = .ok (.iload_n 2, 1) := by decide +kernel
theorem d12_11 : decode jdk_52_method_14_code 11 = .ok (.if_icmp .ge 21, 3) := by decide +kernel
theorem d12_14 : decode jdk_52_method_14_code 14 = .ok (.aload_n 3, 1) := by decide +kernel
theorem d12_15 : decode jdk_52_method_14_code 15 = .ok (.iload 4, 2) := by decide +kernel
theorem d12_17 : decode jdk_52_method_14_code 17 = .ok (.aload_n 0, 1) := by decide +kernel
theorem d12_18 : decode jdk_52_method_14_code 18 = .ok (.iload_n 1, 1) := by decide +kernel
theorem d12_19 : decode jdk_52_method_14_code 19 = .ok (.caload, 1) := by decide +kernel
theorem d12_20 : decode jdk_52_method_14_code 20 = .ok (.invokestatic 111, 3) := by decide +kernel
theorem d12_23 : decode jdk_52_method_14_code 23 = .ok (.iinc 1 1, 3) := by decide +kernel
theorem d12_26 : decode jdk_52_method_14_code 26 = .ok (.iinc 4 1, 3) := by decide +kernel
theorem d12_29 : decode jdk_52_method_14_code 29 = .ok (.goto (-21), 3) := by decide +kernel
theorem d12_32 : decode jdk_52_method_14_code 32 = .ok (.aload_n 3, 1) := by decide +kernel
theorem d12_33 : decode jdk_52_method_14_code 33 = .ok (.areturn, 1) := by decide +kernel
theorem d13_0 : decode jdk_52_method_2_code 0 = .ok (.iload_n 0, 1) := by decide +kernel
theorem d13_1 : decode jdk_52_method_2_code 1 = .ok (.invokestatic 11, 3) := by decide +kernel
theorem d13_4 : decode jdk_52_method_2_code 4 = .ok (.newarray .byte, 2) := by decide +kernel
theorem d13_6 : decode jdk_52_method_2_code 6 = .ok (.areturn, 1) := by decide +kernel
theorem d14_0 : decode jdk_52_method_3_code 0 = .ok (.iload_n 0, 1) := by decide +kernel
theorem d14_1 : decode jdk_52_method_3_code 1 = .ok (.ifCond .ge 11, 3) := by decide +kernel
theorem d14_12 : decode jdk_52_method_3_code 12 = .ok (.iload_n 0, 1) := by decide +kernel
theorem d14_13 : decode jdk_52_method_3_code 13 = .ok (.ldc 20, 2) := by decide +kernel
theorem d14_15 : decode jdk_52_method_3_code 15 = .ok (.if_icmp .lt 40, 3) := by decide +kernel
theorem d14_55 : decode jdk_52_method_3_code 55 = .ok (.iload_n 0, 1) := by decide +kernel
theorem d14_56 : decode jdk_52_method_3_code 56 = .ok (.iconst 1, 1) := by decide +kernel
theorem d14_57 : decode jdk_52_method_3_code 57 = .ok (.ishl, 1) := by decide +kernel
theorem d14_58 : decode jdk_52_method_3_code 58 = .ok (.ireturn, 1) := by decide +kernel
theorem d15_0 : decode jdk_52_method_4_code 0 = .ok (.getstatic 44, 3) := by decide +kernel
theorem d15_3 : decode jdk_52_method_4_code 3 = .ok (.ifCond .ne 25, 3) := by decide +kernel
theorem d15_28 : decode jdk_52_method_4_code 28 = .ok (.iload_n 1, 1) := by decide +kernel
theorem d15_29 : decode jdk_52_method_4_code 29 = .ok (.iconst 1, 1) := by decide +kernel
theorem d15_30 : decode jdk_52_method_4_code 30 = .ok (.ishl, 1) := by decide +kernel
theorem d15_31 : decode jdk_52_method_4_code 31 = .ok (.istore_n 1, 1) := by decide +kernel
theorem d15_32 : decode jdk_52_method_4_code 32 = .ok (.aload_n 0, 1) := by decide +kernel
theorem d15_33 : decode jdk_52_method_4_code 33 = .ok (.iload_n 1, 1) := by decide +kernel
theorem d15_34 : decode jdk_52_method_4_code 34 = .ok (.iinc 1 1, 3) := by decide +kernel
theorem d15_37 : decode jdk_52_method_4_code 37 = .ok (.iload_n 2, 1) := by decide +kernel
theorem d15_38 : decode jdk_52_method_4_code 38 = .ok (.getstatic 59, 3) := by decide +kernel
theorem d15_41 : decode jdk_52_method_4_code 41 = .ok (.ishr, 1) := by decide +kernel
theorem d15_42 : decode jdk_52_method_4_code 42 = .ok (.i2b, 1) := by decide +kernel
theorem d15_43 : decode jdk_52_method_4_code 43 = .ok (.bastore, 1) := by decide +kernel
theorem d15_44 : decode jdk_52_method_4_code 44 = .ok (.aload_n 0, 1) := by decide +kernel
theorem d15_45 : decode jdk_52_method_4_code 45 = .ok (.iload_n 1, 1) := by decide +kernel
theorem d15_46 : decode jdk_52_method_4_code 46 = .ok (.iload_n 2, 1) := by decide +kernel
theorem d15_47 : decode jdk_52_method_4_code 47 = .ok (.getstatic 63, 3) := by decide +kernel
theorem d15_50 : decode jdk_52_method_4_code 50 = .ok (.ishr, 1) := by decide +kernel
theorem d15_51 : decode jdk_52_method_4_code 51 = .ok (.i2b, 1) := by decide +kernel
theorem d15_52 : decode jdk_52_method_4_code 52 = .ok (.bastore, 1) := by decide +kernel
theorem d15_53 : decode jdk_52_method_4_code 53 = .ok (.return_, 1) := by decide +kernel
theorem d16_0 : decode jdk_52_method_5_code 0 = .ok (.getstatic 44, 3) := by decide +kernel
theorem d16_3 : decode jdk_52_method_5_code 3 = .ok (.ifCond .ne 25, 3) := by decide +kernel
theorem d16_28 : decode jdk_52_method_5_code 28 = .ok (.iload_n 1, 1) := by decide +kernel
theorem d16_29 : decode jdk_52_method_5_code 29 = .ok (.iconst 1, 1) := by decide +kernel
theorem d16_30 : decode jdk_52_method_5_code 30 = .ok (.ishl, 1) := by decide +kernel
theorem d16_31 : decode jdk_52_method_5_code 31 = .ok (.istore_n 1, 1) := by decide +kernel
theorem d16_32 : decode jdk_52_method_5_code 32 = .ok (.aload_n 0, 1) := by decide +kernel
theorem d16_33 : decode jdk_52_method_5_code 33 = .ok (.iload_n 1, 1) := by decide +kernel
theorem d16_34 : decode jdk_52_method_5_code 34 = .ok (.iinc 1 1, 3) := by decide +kernel
theorem d16_37 : decode jdk_52_method_5_code 37 = .ok (.baload, 1) := by decide +kernel
theorem d16_38 : decode jdk_52_method_5_code 38 = .ok (.sipush 255, 3) := by decide +kernel
theorem d16_41 : decode jdk_52_method_5_code 41 = .ok (.iand, 1) := by decide +kernel
theorem d16_42 : decode jdk_52_method_5_code 42 = .ok (.getstatic 59, 3) := by decide +kernel
theorem d16_45 : decode jdk_52_method_5_code 45 = .ok (.ishl, 1) := by decide +kernel
theorem d16_46 : decode jdk_52_method_5_code 46 = .ok (.aload_n 0, 1) := by decide +kernel
theorem d16_47 : decode jdk_52_method_5_code 47 = .ok (.iload_n 1, 1) := by decide +kernel
theorem d16_48 : decode jdk_52_method_5_code 48 = .ok (.baload, 1) := by decide +kernel
theorem d16_49 : decode jdk_52_method_5_code 49 = .ok (.sipush 255, 3) := by decide +kernel
theorem d16_52 : decode jdk_52_method_5_code 52 = .ok (.iand, 1) := by decide +kernel
theorem d16_53 : decode jdk_52_method_5_code 53 = .ok (.getstatic 63, 3) := by decide +kernel
theorem d16_56 : decode jdk_52_method_5_code 56 = .ok (.ishl, 1) := by decide +kernel
theorem d16_57 : decode jdk_52_method_5_code 57 = .ok (.ior, 1) := by decide +kernel
theorem d16_58 : decode jdk_52_method_5_code 58 = .ok (.i2c, 1) := by decide +kernel
theorem d16_59 : decode jdk_52_method_5_code 59 = .ok (.ireturn, 1) := by decide +kernel
theorem d17_0 : decode prog_10_method_4_code 0 = .ok (.aload_n 0, 1) := by decide +kernel
theorem d17_1 : decode prog_10_method_4_code 1 = .ok (.bipush 91, 2) := by decide +kernel
theorem d17_3 : decode prog_10_method_4_code 3 = .ok (.invokevirtual 17, 3) := by decide +kernel
theorem d17_6 : decode prog_10_method_4_code 6 = .ok (.areturn, 1) := by decide +kernel
theorem d18_0 : decode prog_10_method_12_code 0 = .ok (.aload_n 0, 1) := by decide +kernel
theorem d18_1 : decode prog_10_method_12_code 1 = .ok (.invokevirtual 24, 3) := by decide +kernel
theorem d18_4 : decode prog_10_method_12_code 4 = .ok (.aload_n 0, 1) := by decide +kernel
theorem d18_5 : decode prog_10_method_12_code 5 = .ok (.iload_n 1, 1) := by decide +kernel
theorem d18_6 : decode prog_10_method_12_code 6 = .ok (.invokevirtual 92, 3) := by decide +kernel
theorem d18_9 : decode prog_10_method_12_code 9 = .ok (.aload_n 0, 1) := by decide +kernel
theorem d18_10 : decode prog_10_method_12_code 10 = .ok (.iconst 1, 1) := by decide +kernel
theorem d18_11 : decode prog_10_method_12_code 11 = .ok (.putfield 13, 3) := by decide +kernel
theorem d18_14 : decode prog_10_method_12_code 14 = .ok (.aload_n 0, 1) := by decide +kernel
theorem d18_15 : decode prog_10_method_12_code 15 = .ok (.areturn, 1) := by decide +kernel
theorem d19_0 : decode prog_10_method_16_code 0 = .ok (.aload_n 0, 1) := by decide +kernel
theorem d19_1 : decode prog_10_method_16_code 1 = .ok (.getfield 13, 3) := by decide +kernel
theorem d19_4 : decode prog_10_method_16_code 4 = .ok (.ifCond .ne 9, 3) := by decide +kernel
theorem d19_7 : decode prog_10_method_16_code 7 = .ok (.aload_n 0, 1) := by decide +kernel
theorem d19_8 : decode prog_10_method_16_code 8 = .ok (.bipush 44, 2) := by decide +kernel
theorem d19_10 : decode prog_10_method_16_code 10 = .ok (.invokevirtual 92, 3) := by decide +kernel
theorem d19_13 : decode prog_10_method_16_code 13 = .ok (.aload_n 0, 1) := by decide +kernel
theorem d19_14 : decode prog_10_method_16_code 14 = .ok (.iconst 0, 1) := by decide +kernel
theorem d19_15 : decode prog_10_method_16_code 15 = .ok (.putfield 13, 3) := by decide +kernel
theorem d19_18 : decode prog_10_method_16_code 18 = .ok (.return_, 1) := by decide +kernel
theorem d20_0 : decode prog_10_method_19_code 0 = .ok (.aload_n 0, 1) := by decide +kernel
theorem d20_1 : decode prog_10_method_19_code 1 = .ok (.iconst 1, 1) := by decide +kernel
theorem d20_2 : decode prog_10_method_19_code 2 = .ok (.invokevirtual 30, 3) := by decide +kernel
theorem d20_5 : decode prog_10_method_19_code 5 = .ok (.aload_n 0, 1) := by decide +kernel
theorem d20_6 : decode prog_10_method_19_code 6 = .ok (.getfield 7, 3) := by decide +kernel
theorem d20_9 : decode prog_10_method_19_code 9 = .ok (.aload_n 0, 1) := by decide +kernel
theorem d20_10 : decode prog_10_method_19_code 10 = .ok (.dup, 1) := by decide +kernel
theorem d20_11 : decode prog_10_method_19_code 11 = .ok (.getfield 34, 3) := by decide +kernel
theorem d20_14 : decode prog_10_method_19_code 14 = .ok (.dup_x1, 1) := by decide +kernel
theorem d20_15 : decode prog_10_method_19_code 15 = .ok (.iconst 1, 1) := by decide +kernel
theorem d20_16 : decode prog_10_method_19_code 16 = .ok (.iadd, 1) := by decide +kernel
theorem d20_17 : decode prog_10_method_19_code 17 = .ok (.putfield 34, 3) := by decide +kernel
theorem d20_20 : decode prog_10_method_19_code 20 = .ok (.iload_n 1, 1) := by decide +kernel
theorem d20_21 : decode prog_10_method_19_code 21 = .ok (.i2b, 1) := by decide +kernel
theorem d20_22 : decode prog_10_method_19_code 22 = .ok (.bastore, 1) := by decide +kernel
theorem d20_23 : decode prog_10_method_19_code 23 = .ok (.return_, 1) := by decide +kernel
theorem d21_0 : decode prog_10_method_20_code 0 = .ok (.aload_n 0, 1) := by decide +kernel
theorem d21_1 : decode prog_10_method_20_code 1 = .ok (.getfield 34, 3) := by decide +kernel
theorem d21_4 : decode prog_10_method_20_code 4 = .ok (.iload_n 1, 1) := by decide +kernel
theorem d21_5 : decode prog_10_method_20_code 5 = .ok (.iadd, 1) := by decide +kernel
theorem d21_6 : decode prog_10_method_20_code 6 = .ok (.aload_n 0, 1) := by decide +kernel
theorem d21_7 : decode prog_10_method_20_code 7 = .ok (.getfield 7, 3) := by decide +kernel
theorem d21_10 : decode prog_10_method_20_code 10 = .ok (.arraylength, 1) := by decide +kernel
theorem d21_11 : decode prog_10_method_20_code 11 = .ok (.if_icmp .le 30, 3) := by decide +kernel
theorem d21_41 : decode prog_10_method_20_code 41 = .ok (.return_, 1) := by decide +kernel
theorem d22_0 : decode prog_10_method_7_code 0 = .ok (.aload_n 1, 1) := by decide +kernel
theorem d22_1 : decode prog_10_method_7_code 1 = .ok (.ifnonnull 10, 3) := by decide +kernel
theorem d22_11 : decode prog_10_method_7_code 11 = .ok (.aload_n 0, 1) := by decide +kernel
theorem d22_12 : decode prog_10_method_7_code 12 = .ok (.invokevirtual 24, 3) := by decide +kernel
theorem d22_15 : decode prog_10_method_7_code 15 = .ok (.aload_n 0, 1) := by decide +kernel
theorem d22_16 : decode prog_10_method_7_code 16 = .ok (.aload_n 1, 1) := by decide +kernel
theorem d22_17 : decode prog_10_method_7_code 17 = .ok (.iconst 0, 1) := by decide +kernel
theorem d22_18 : decode prog_10_method_7_code 18 = .ok (.invokevirtual 50, 3) := by decide +kernel
theorem d22_21 : decode prog_10_method_7_code 21 = .ok (.aload_n 0, 1) := by decide +kernel
theorem d22_22 : decode prog_10_method_7_code 22 = .ok (.areturn, 1) := by decide +kernel
theorem d23_0 : decode prog_10_method_15_code 0 = .ok (.aload_n 0, 1) := by decide +kernel
theorem d23_1 : decode prog_10_method_15_code 1 = .ok (.bipush 6, 2) := by decide +kernel
theorem d23_3 : decode prog_10_method_15_code 3 = .ok (.aload_n 1, 1) := by decide +kernel
theorem d23_4 : decode prog_10_method_15_code 4 = .ok (.invokevirtual 96, 3) := by decide +kernel
theorem d23_7 : decode prog_10_method_15_code 7 = .ok (.imul, 1) := by decide +kernel
theorem d23_8 : decode prog_10_method_15_code 8 = .ok (.iconst 2, 1) := by decide +kernel
theorem d23_9 : decode prog_10_method_15_code 9 = .ok (.iadd, 1) := by decide +kernel
theorem d23_10 : decode prog_10_method_15_code 10 = .ok (.iload_n 2, 1) := by decide +kernel
theorem d23_11 : decode prog_10_method_15_code 11 = .ok (.iadd, 1) := by decide +kernel
theorem d23_12 : decode prog_10_method_15_code 12 = .ok (.invokevirtual 30, 3) := by decide +kernel
theorem d23_15 : decode prog_10_method_15_code 15 = .ok (.aload_n 0, 1) := by decide +kernel
theorem d23_16 : decode prog_10_method_15_code 16 = .ok (.getfield 7, 3) := by decide +kernel
theorem d23_19 : decode prog_10_method_15_code 19 = .ok (.astore_n 3, 1) := by decide +kernel
theorem d23_20 : decode prog_10_method_15_code 20 = .ok (.aload_n 0, 1) := by decide +kernel
theorem d23_21 : decode prog_10_method_15_code 21 = .ok (.getfield 34, 3) := by decide +kernel
theorem d23_24 : decode prog_10_method_15_code 24 = .ok (.istore 4, 2) := by decide +kernel
theorem d23_26 : decode prog_10_method_15_code 26 = .ok (.aload_n 3, 1) := by decide +kernel
theorem d23_27 : decode prog_10_method_15_code 27 = .ok (.iload 4, 2) := by decide +kernel
theorem d23_29 : decode prog_10_method_15_code 29 = .ok (.iinc 4 1, 3) := by decide +kernel
theorem d23_32 : decode prog_10_method_15_code 32 = .ok (.bipush 34, 2) := by decide +kernel
theorem d23_34 : decode prog_10_method_15_code 34 = .ok (.bastore, 1) := by decide +kernel
theorem d23_35 : decode prog_10_method_15_code 35 = .ok (.iconst 0, 1) := by decide +kernel
theorem d23_36 : decode prog_10_method_15_code 36 = .ok (.istore 5, 2) := by decide +kernel
theorem d23_38 : decode prog_10_method_15_code 38 = .ok (.iload 5, 2) := by decide +kernel
theorem d23_40 : decode prog_10_method_15_code 40 = .ok (.aload_n 1, 1) := by decide +kernel
theorem d23_41 : decode prog_10_method_15_code 41 = .ok (.invokevirtual 96, 3) := by decide +kernel
theorem d23_44 : decode prog_10_method_15_code 44 = .ok (.if_icmp .ge 69, 3) := by decide +kernel
theorem d23_47 : decode prog_10_method_15_code 47 = .ok (.aload_n 1, 1) := by decide +kernel
theorem d23_48 : decode prog_10_method_15_code 48 = .ok (.iload 5, 2) := by decide +kernel
theorem d23_50 : decode prog_10_method_15_code 50 = .ok (.invokevirtual 100, 3) := by decide +kernel
theorem d23_53 : decode prog_10_method_15_code 53 = .ok (.istore 6, 2) := by decide +kernel
theorem d23_55 : decode prog_10_method_15_code 55 = .ok (.iload 6, 2) := by decide +kernel
theorem d23_57 : decode prog_10_method_15_code 57 = .ok (.bipush 32, 2) := by decide +kernel
theorem d23_59 : decode prog_10_method_15_code 59 = .ok (.if_icmp .lt 38, 3) := by decide +kernel
theorem d23_62 : decode prog_10_method_15_code 62 = .ok (.iload 6, 2) := by decide +kernel
theorem d23_64 : decode prog_10_method_15_code 64 = .ok (.sipush 128, 3) := by decide +kernel
theorem d23_67 : decode prog_10_method_15_code 67 = .ok (.if_icmp .ge 30, 3) := by decide +kernel
theorem d23_70 : decode prog_10_method_15_code 70 = .ok (.iload 6, 2) := by decide +kernel
theorem d23_72 : decode prog_10_method_15_code 72 = .ok (.bipush 34, 2) := by decide +kernel
theorem d23_74 : decode prog_10_method_15_code 74 = .ok (.if_icmp .eq 23, 3) := by decide +kernel
theorem d23_77 : decode prog_10_method_15_code 77 = .ok (.iload 6, 2) := by decide +kernel
theorem d23_79 : decode prog_10_method_15_code 79 = .ok (.bipush 92, 2) := by decide +kernel
theorem d23_81 : decode prog_10_method_15_code 81 = .ok (.if_icmp .eq 16, 3) := by decide +kernel
theorem d23_84 : decode prog_10_method_15_code 84 = .ok (.aload_n 3, 1) := by decide +kernel
theorem d23_85 : decode prog_10_method_15_code 85 = .ok (.iload 4, 2) := by decide +kernel
theorem d23_87 : decode prog_10_method_15_code 87 = .ok (.iinc 4 1, 3) := by decide +kernel
theorem d23_90 : decode prog_10_method_15_code 90 = .ok (.iload 6, 2) := by decide +kernel
theorem d23_92 : decode prog_10_method_15_code 92 = .ok (.i2b, 1) := by decide +kernel
theorem d23_93 : decode prog_10_method_15_code 93 = .ok (.bastore, 1) := by decide +kernel
theorem d23_94 : decode prog_10_method_15_code 94 = .ok (.goto 13, 3) := by decide +kernel
theorem d23_97 : decode prog_10_method_15_code 97 = .ok (.aload_n 0, 1) := by decide +kernel
theorem d23_98 : decode prog_10_method_15_code 98 = .ok (.iload 6, 2) := by decide +kernel
theorem d23_100 : decode prog_10_method_15_code 100 = .ok (.iload 4, 2) := by decide +kernel
theorem d23_102 : decode prog_10_method_15_code 102 = .ok (.invokevirtual 104, 3) := by decide +kernel
theorem d23_105 : decode prog_10_method_15_code 105 = .ok (.istore 4, 2) := by decide +kernel
theorem d23_107 : decode prog_10_method_15_code 107 = .ok (.iinc 5 1, 3) := by decide +kernel
theorem d23_110 : decode prog_10_method_15_code 110 = .ok (.goto (-72), 3) := by decide +kernel
theorem d23_113 : decode prog_10_method_15_code 113 = .ok (.aload_n 3, 1) := by decide +kernel
theorem d23_114 : decode prog_10_method_15_code 114 = .ok (.iload 4, 2) := by decide +kernel
theorem d23_116 : decode prog_10_method_15_code 116 = .ok (.iinc 4 1, 3) := by decide +kernel
theorem d23_119 : decode prog_10_method_15_code 119 = .ok (.bipush 34, 2) := by decide +kernel
theorem d23_121 : decode prog_10_method_15_code 121 = .ok (.bastore, 1) := by decide +kernel
theorem d23_122 : decode prog_10_method_15_code 122 = .ok (.aload_n 0, 1) := by decide +kernel
theorem d23_123 : decode prog_10_method_15_code 123 = .ok (.iload 4, 2) := by decide +kernel
theorem d23_125 : decode prog_10_method_15_code 125 = .ok (.putfield 34, 3) := by decide +kernel
theorem d23_128 : decode prog_10_method_15_code 128 = .ok (.return_, 1) := by decide +kernel
theorem d24_0 : decode jdk_42_method_54_code 0 = .ok (.aload_n 0, 1) := by decide +kernel
theorem d24_1 : decode jdk_42_method_54_code 1 = .ok (.getfield 9, 3) := by decide +kernel
theorem d24_4 : decode jdk_42_method_54_code 4 = .ok (.arraylength, 1) := by decide +kernel
theorem d24_5 : decode jdk_42_method_54_code 5 = .ok (.aload_n 0, 1) := by decide +kernel
theorem d24_6 : decode jdk_42_method_54_code 6 = .ok (.invokevirtual 335, 3) := by decide +kernel
theorem d24_9 : decode jdk_42_method_54_code 9 = .ok (.ishr, 1) := by decide +kernel
theorem d24_10 : decode jdk_42_method_54_code 10 = .ok (.ireturn, 1) := by decide +kernel
theorem d25_0 : decode jdk_42_method_152_code 0 = .ok (.getstatic 38, 3) := by decide +kernel
theorem d25_3 : decode jdk_42_method_152_code 3 = .ok (.ifCond .eq 10, 3) := by decide +kernel
theorem d25_6 : decode jdk_42_method_152_code 6 = .ok (.aload_n 0, 1) := by decide +kernel
theorem d25_7 : decode jdk_42_method_152_code 7 = .ok (.getfield 15, 3) := by decide +kernel
theorem d25_10 : decode jdk_42_method_152_code 10 = .ok (.goto 4, 3) := by decide +kernel
theorem d25_14 : decode jdk_42_method_152_code 14 = .ok (.ireturn, 1) := by decide +kernel
theorem d26_0 : decode jdk_42_method_56_code 0 = .ok (.aload_n 0, 1) := by decide +kernel
theorem d26_1 : decode jdk_42_method_56_code 1 = .ok (.invokevirtual 492, 3) := by decide +kernel
theorem d26_4 : decode jdk_42_method_56_code 4 = .ok (.ifCond .eq 12, 3) := by decide +kernel
theorem d26_7 : decode jdk_42_method_56_code 7 = .ok (.aload_n 0, 1) := by decide +kernel
theorem d26_8 : decode jdk_42_method_56_code 8 = .ok (.getfield 9, 3) := by decide +kernel
theorem d26_11 : decode jdk_42_method_56_code 11 = .ok (.iload_n 1, 1) := by decide +kernel
theorem d26_12 : decode jdk_42_method_56_code 12 = .ok (.invokestatic 495, 3) := by decide +kernel
theorem d26_15 : decode jdk_42_method_56_code 15 = .ok (.ireturn, 1) := by decide +kernel
theorem d26_16 : decode jdk_42_method_56_code 16 = .ok (.aload_n 0, 1) := by decide +kernel
theorem d26_17 : decode jdk_42_method_56_code 17 = .ok (.getfield 9, 3) := by decide +kernel
theorem d26_20 : decode jdk_42_method_56_code 20 = .ok (.iload_n 1, 1) := by decide +kernel
theorem d26_21 : decode jdk_42_method_56_code 21 = .ok (.invokestatic 498, 3) := by decide +kernel
theorem d26_24 : decode jdk_42_method_56_code 24 = .ok (.ireturn, 1) := by decide +kernel
theorem d27_0 : decode jdk_42_method_154_code 0 = .ok (.getstatic 38, 3) := by decide +kernel
theorem d27_3 : decode jdk_42_method_154_code 3 = .ok (.ifCond .eq 14, 3) := by decide +kernel
theorem d27_6 : decode jdk_42_method_154_code 6 = .ok (.aload_n 0, 1) := by decide +kernel
theorem d27_7 : decode jdk_42_method_154_code 7 = .ok (.getfield 15, 3) := by decide +kernel
theorem d27_10 : decode jdk_42_method_154_code 10 = .ok (.ifCond .ne 7, 3) := by decide +kernel
theorem d27_13 : decode jdk_42_method_154_code 13 = .ok (.iconst 1, 1) := by decide +kernel
theorem d27_14 : decode jdk_42_method_154_code 14 = .ok (.goto 4, 3) := by decide +kernel
theorem d27_17 : decode jdk_42_method_154_code 17 = .ok (.iconst 0, 1) := by decide +kernel
theorem d27_18 : decode jdk_42_method_154_code 18 = .ok (.ireturn, 1) := by decide +kernel
theorem d28_0 : decode jdk_52_method_83_code 0 = .ok (.iload_n 1, 1) := by decide +kernel
theorem d28_1 : decode jdk_52_method_83_code 1 = .ok (.aload_n 0, 1) := by decide +kernel
theorem d28_2 : decode jdk_52_method_83_code 2 = .ok (.invokestatic 67, 3) := by decide +kernel
theorem d28_5 : decode jdk_52_method_83_code 5 = .ok (.aload_n 0, 1) := by decide +kernel
theorem d28_6 : decode jdk_52_method_83_code 6 = .ok (.iload_n 1, 1) := by decide +kernel
theorem d28_7 : decode jdk_52_method_83_code 7 = .ok (.invokestatic 71, 3) := by decide +kernel
theorem d28_10 : decode jdk_52_method_83_code 10 = .ok (.ireturn, 1) := by decide +kernel
theorem d29_0 : decode jdk_52_method_91_code 0 = .ok (.iload_n 0, 1) := by decide +kernel
theorem d29_1 : decode jdk_52_method_91_code 1 = .ok (.aload_n 1, 1) := by decide +kernel
theorem d29_2 : decode jdk_52_method_91_code 2 = .ok (.invokestatic 48, 3) := by decide +kernel
theorem d29_5 : decode jdk_52_method_91_code 5 = .ok (.invokestatic 414, 3) := by decide +kernel
theorem d29_8 : decode jdk_52_method_91_code 8 = .ok (.return_, 1) := by decide +kernel
theorem d30_0 : decode jdk_52_method_6_code 0 = .ok (.aload_n 0, 1) := by decide +kernel
theorem d30_1 : decode jdk_52_method_6_code 1 = .ok (.arraylength, 1) := by decide +kernel
theorem d30_2 : decode jdk_52_method_6_code 2 = .ok (.iconst 1, 1) := by decide +kernel
theorem d30_3 : decode jdk_52_method_6_code 3 = .ok (.ishr, 1) := by decide +kernel
theorem d30_4 : decode jdk_52_method_6_code 4 = .ok (.ireturn, 1) := by decide +kernel
theorem d31_0 : decode jdk_42_method_155_code 0 = .ok (.iload_n 0, 1) := by decide +kernel
theorem d31_1 : decode jdk_42_method_155_code 1 = .ok (.iload_n 1, 1) := by decide +kernel
theorem d31_2 : decode jdk_42_method_155_code 2 = .ok (.getstatic 1053, 3) := by decide +kernel
theorem d31_5 : decode jdk_42_method_155_code 5 = .ok (.invokestatic 1059, 3) := by decide +kernel
theorem d31_8 : decode jdk_42_method_155_code 8 = .ok (.pop, 1) := by decide +kernel
theorem d31_9 : decode jdk_42_method_155_code 9 = .ok (.return_, 1) := by decide +kernel
theorem d32_0 : decode jdk_41_method_11_code 0 = .ok (.iload_n 0, 1) := by decide +kernel
theorem d32_1 : decode jdk_41_method_11_code 1 = .ok (.ifCond .lt 8, 3) := by decide +kernel
theorem d32_4 : decode jdk_41_method_11_code 4 = .ok (.iload_n 0, 1) := by decide +kernel
theorem d32_5 : decode jdk_41_method_11_code 5 = .ok (.iload_n 1, 1) := by decide +kernel
theorem d32_6 : decode jdk_41_method_11_code 6 = .ok (.if_icmp .lt 10, 3) := by decide +kernel
theorem d32_16 : decode jdk_41_method_11_code 16 = .ok (.iload_n 0, 1) := by decide +kernel
theorem d32_17 : decode jdk_41_method_11_code 17 = .ok (.ireturn, 1) := by decide +kernel
theorem d33_0 : decode prog_10_method_17_code 0 = .ok (.iload_n 2, 1) := by decide +kernel
theorem d33_1 : decode prog_10_method_17_code 1 = .ok (.istore_n 3, 1) := by decide +kernel
theorem d33_2 : decode prog_10_method_17_code 2 = .ok (.iload_n 1, 1) := by decide +kernel
theorem d33_3 : decode prog_10_method_17_code 3 = .ok (.bipush 34, 2) := by decide +kernel
theorem d33_5 : decode prog_10_method_17_code 5 = .ok (.if_icmp .eq 9, 3) := by decide +kernel
theorem d33_8 : decode prog_10_method_17_code 8 = .ok (.iload_n 1, 1) := by decide +kernel
theorem d33_9 : decode prog_10_method_17_code 9 = .ok (.bipush 92, 2) := by decide +kernel
theorem d33_11 : decode prog_10_method_17_code 11 = .ok (.if_icmp .ne 28, 3) := by decide +kernel
theorem d33_14 : decode prog_10_method_17_code 14 = .ok (.aload_n 0, 1) := by decide +kernel
theorem d33_15 : decode prog_10_method_17_code 15 = .ok (.getfield 7, 3) := by decide +kernel
theorem d33_18 : decode prog_10_method_17_code 18 = .ok (.iload_n 3, 1) := by decide +kernel
theorem d33_19 : decode prog_10_method_17_code 19 = .ok (.iinc 3 1, 3) := by decide +kernel
theorem d33_22 : decode prog_10_method_17_code 22 = .ok (.bipush 92, 2) := by decide +kernel
theorem d33_24 : decode prog_10_method_17_code 24 = .ok (.bastore, 1) := by decide +kernel
theorem d33_25 : decode prog_10_method_17_code 25 = .ok (.aload_n 0, 1) := by decide +kernel
theorem d33_26 : decode prog_10_method_17_code 26 = .ok (.getfield 7, 3) := by decide +kernel
theorem d33_29 : decode prog_10_method_17_code 29 = .ok (.iload_n 3, 1) := by decide +kernel
theorem d33_30 : decode prog_10_method_17_code 30 = .ok (.iinc 3 1, 3) := by decide +kernel
theorem d33_33 : decode prog_10_method_17_code 33 = .ok (.iload_n 1, 1) := by decide +kernel
theorem d33_34 : decode prog_10_method_17_code 34 = .ok (.i2b, 1) := by decide +kernel
theorem d33_35 : decode prog_10_method_17_code 35 = .ok (.bastore, 1) := by decide +kernel
theorem d33_36 : decode prog_10_method_17_code 36 = .ok (.goto 242, 3) := by decide +kernel
theorem d33_39 : decode prog_10_method_17_code 39 = .ok (.iload_n 1, 1) := by decide +kernel
theorem d33_40 : decode prog_10_method_17_code 40 = .ok (.bipush 8, 2) := by decide +kernel
theorem d33_42 : decode prog_10_method_17_code 42 = .ok (.if_icmp .eq 27, 3) := by decide +kernel
theorem d33_45 : decode prog_10_method_17_code 45 = .ok (.iload_n 1, 1) := by decide +kernel
theorem d33_46 : decode prog_10_method_17_code 46 = .ok (.bipush 9, 2) := by decide +kernel
theorem d33_48 : decode prog_10_method_17_code 48 = .ok (.if_icmp .eq 21, 3) := by decide +kernel
theorem d33_51 : decode prog_10_method_17_code 51 = .ok (.iload_n 1, 1) := by decide +kernel
theorem d33_52 : decode prog_10_method_17_code 52 = .ok (.bipush 10, 2) := by decide +kernel
theorem d33_54 : decode prog_10_method_17_code 54 = .ok (.if_icmp .eq 15, 3) := by decide +kernel
theorem d33_57 : decode prog_10_method_17_code 57 = .ok (.iload_n 1, 1) := by decide +kernel
theorem d33_58 : decode prog_10_method_17_code 58 = .ok (.bipush 12, 2) := by decide +kernel
theorem d33_60 : decode prog_10_method_17_code 60 = .ok (.if_icmp .eq 9, 3) := by decide +kernel
theorem d33_63 : decode prog_10_method_17_code 63 = .ok (.iload_n 1, 1) := by decide +kernel
theorem d33_64 : decode prog_10_method_17_code 64 = .ok (.bipush 13, 2) := by decide +kernel
theorem d33_66 : decode prog_10_method_17_code 66 = .ok (.if_icmp .ne 36, 3) := by decide +kernel
theorem d33_69 : decode prog_10_method_17_code 69 = .ok (.aload_n 0, 1) := by decide +kernel
theorem d33_70 : decode prog_10_method_17_code 70 = .ok (.getfield 7, 3) := by decide +kernel
theorem d33_73 : decode prog_10_method_17_code 73 = .ok (.iload_n 3, 1) := by decide +kernel
theorem d33_74 : decode prog_10_method_17_code 74 = .ok (.iinc 3 1, 3) := by decide +kernel
theorem d33_77 : decode prog_10_method_17_code 77 = .ok (.bipush 92, 2) := by decide +kernel
theorem d33_79 : decode prog_10_method_17_code 79 = .ok (.bastore, 1) := by decide +kernel
theorem d33_80 : decode prog_10_method_17_code 80 = .ok (.aload_n 0, 1) := by decide +kernel
theorem d33_81 : decode prog_10_method_17_code 81 = .ok (.getfield 7, 3) := by decide +kernel
theorem d33_84 : decode prog_10_method_17_code 84 = .ok (.iload_n 3, 1) := by decide +kernel
theorem d33_85 : decode prog_10_method_17_code 85 = .ok (.iinc 3 1, 3) := by decide +kernel
theorem d33_88 : decode prog_10_method_17_code 88 = .ok (.ldc 108, 2) := by decide +kernel
theorem d33_90 : decode prog_10_method_17_code 90 = .ok (.iload_n 1, 1) := by decide +kernel
theorem d33_91 : decode prog_10_method_17_code 91 = .ok (.bipush 8, 2) := by decide +kernel
theorem d33_93 : decode prog_10_method_17_code 93 = .ok (.isub, 1) := by decide +kernel
theorem d33_94 : decode prog_10_method_17_code 94 = .ok (.invokevirtual 100, 3) := by decide +kernel
theorem d33_97 : decode prog_10_method_17_code 97 = .ok (.i2b, 1) := by decide +kernel
theorem d33_98 : decode prog_10_method_17_code 98 = .ok (.bastore, 1) := by decide +kernel
theorem d33_99 : decode prog_10_method_17_code 99 = .ok (.goto 179, 3) := by decide +kernel
theorem d33_102 : decode prog_10_method_17_code 102 = .ok (.iload_n 1, 1) := by decide +kernel
theorem d33_103 : decode prog_10_method_17_code 103 = .ok (.bipush 32, 2) := by decide +kernel
theorem d33_105 : decode prog_10_method_17_code 105 = .ok (.if_icmp .lt 10, 3) := by decide +kernel
theorem d33_108 : decode prog_10_method_17_code 108 = .ok (.iload_n 1, 1) := by decide +kernel
theorem d33_109 : decode prog_10_method_17_code 109 = .ok (.invokestatic 110, 3) := by decide +kernel
theorem d33_112 : decode prog_10_method_17_code 112 = .ok (.ifCond .eq 63, 3) := by decide +kernel
theorem d33_115 : decode prog_10_method_17_code 115 = .ok (.aload_n 0, 1) := by decide +kernel
theorem d33_116 : decode prog_10_method_17_code 116 = .ok (.getfield 7, 3) := by decide +kernel
theorem d33_119 : decode prog_10_method_17_code 119 = .ok (.iload_n 3, 1) := by decide +kernel
theorem d33_120 : decode prog_10_method_17_code 120 = .ok (.iinc 3 1, 3) := by decide +kernel
theorem d33_123 : decode prog_10_method_17_code 123 = .ok (.bipush 92, 2) := by decide +kernel
theorem d33_125 : decode prog_10_method_17_code 125 = .ok (.bastore, 1) := by decide +kernel
theorem d33_126 : decode prog_10_method_17_code 126 = .ok (.aload_n 0, 1) := by decide +kernel
theorem d33_127 : decode prog_10_method_17_code 127 = .ok (.getfield 7, 3) := by decide +kernel
theorem d33_130 : decode prog_10_method_17_code 130 = .ok (.iload_n 3, 1) := by decide +kernel
theorem d33_131 : decode prog_10_method_17_code 131 = .ok (.iinc 3 1, 3) := by decide +kernel
theorem d33_134 : decode prog_10_method_17_code 134 = .ok (.bipush 117, 2) := by decide +kernel
theorem d33_136 : decode prog_10_method_17_code 136 = .ok (.bastore, 1) := by decide +kernel
theorem d33_137 : decode prog_10_method_17_code 137 = .ok (.bipush 12, 2) := by decide +kernel
theorem d33_139 : decode prog_10_method_17_code 139 = .ok (.istore 4, 2) := by decide +kernel
theorem d33_141 : decode prog_10_method_17_code 141 = .ok (.iload 4, 2) := by decide +kernel
theorem d33_143 : decode prog_10_method_17_code 143 = .ok (.ifCond .lt 29, 3) := by decide +kernel
theorem d33_146 : decode prog_10_method_17_code 146 = .ok (.aload_n 0, 1) := by decide +kernel
theorem d33_147 : decode prog_10_method_17_code 147 = .ok (.getfield 7, 3) := by decide +kernel
theorem d33_150 : decode prog_10_method_17_code 150 = .ok (.iload_n 3, 1) := by decide +kernel
theorem d33_151 : decode prog_10_method_17_code 151 = .ok (.iinc 3 1, 3) := by decide +kernel
theorem d33_154 : decode prog_10_method_17_code 154 = .ok (.getstatic 116, 3) := by decide +kernel
theorem d33_157 : decode prog_10_method_17_code 157 = .ok (.iload_n 1, 1) := by decide +kernel
theorem d33_158 : decode prog_10_method_17_code 158 = .ok (.iload 4, 2) := by decide +kernel
theorem d33_160 : decode prog_10_method_17_code 160 = .ok (.ishr, 1) := by decide +kernel
theorem d33_161 : decode prog_10_method_17_code 161 = .ok (.bipush 15, 2) := by decide +kernel
theorem d33_163 : decode prog_10_method_17_code 163 = .ok (.iand, 1) := by decide +kernel
theorem d33_164 : decode prog_10_method_17_code 164 = .ok (.baload, 1) := by decide +kernel
theorem d33_165 : decode prog_10_method_17_code 165 = .ok (.bastore, 1) := by decide +kernel
theorem d33_166 : decode prog_10_method_17_code 166 = .ok (.iinc 4 (-4), 3) := by decide +kernel
theorem d33_169 : decode prog_10_method_17_code 169 = .ok (.goto (-28), 3) := by decide +kernel
theorem d33_172 : decode prog_10_method_17_code 172 = .ok (.goto 106, 3) := by decide +kernel
theorem d33_175 : decode prog_10_method_17_code 175 = .ok (.iload_n 1, 1) := by decide +kernel
theorem d33_176 : decode prog_10_method_17_code 176 = .ok (.sipush 2048, 3) := by decide +kernel
theorem d33_179 : decode prog_10_method_17_code 179 = .ok (.if_icmp .ge 42, 3) := by decide +kernel
theorem d33_182 : decode prog_10_method_17_code 182 = .ok (.aload_n 0, 1) := by decide +kernel
theorem d33_183 : decode prog_10_method_17_code 183 = .ok (.getfield 7, 3) := by decide +kernel
theorem d33_186 : decode prog_10_method_17_code 186 = .ok (.iload_n 3, 1) := by decide +kernel
theorem d33_187 : decode prog_10_method_17_code 187 = .ok (.iinc 3 1, 3) := by decide +kernel
theorem d33_190 : decode prog_10_method_17_code 190 = .ok (.sipush 192, 3) := by decide +kernel
theorem d33_193 : decode prog_10_method_17_code 193 = .ok (.iload_n 1, 1) := by decide +kernel
theorem d33_194 : decode prog_10_method_17_code 194 = .ok (.bipush 6, 2) := by decide +kernel
theorem d33_196 : decode prog_10_method_17_code 196 = .ok (.ishr, 1) := by decide +kernel
theorem d33_197 : decode prog_10_method_17_code 197 = .ok (.ior, 1) := by decide +kernel
theorem d33_198 : decode prog_10_method_17_code 198 = .ok (.i2b, 1) := by decide +kernel
theorem d33_199 : decode prog_10_method_17_code 199 = .ok (.bastore, 1) := by decide +kernel
theorem d33_200 : decode prog_10_method_17_code 200 = .ok (.aload_n 0, 1) := by decide +kernel
theorem d33_201 : decode prog_10_method_17_code 201 = .ok (.getfield 7, 3) := by decide +kernel
theorem d33_204 : decode prog_10_method_17_code 204 = .ok (.iload_n 3, 1) := by decide +kernel
theorem d33_205 : decode prog_10_method_17_code 205 = .ok (.iinc 3 1, 3) := by decide +kernel
theorem d33_208 : decode prog_10_method_17_code 208 = .ok (.sipush 128, 3) := by decide +kernel
theorem d33_211 : decode prog_10_method_17_code 211 = .ok (.iload_n 1, 1) := by decide +kernel
theorem d33_212 : decode prog_10_method_17_code 212 = .ok (.bipush 63, 2) := by decide +kernel
theorem d33_214 : decode prog_10_method_17_code 214 = .ok (.iand, 1) := by decide +kernel
theorem d33_215 : decode prog_10_method_17_code 215 = .ok (.ior, 1) := by decide +kernel
theorem d33_216 : decode prog_10_method_17_code 216 = .ok (.i2b, 1) := by decide +kernel
theorem d33_217 : decode prog_10_method_17_code 217 = .ok (.bastore, 1) := by decide +kernel
theorem d33_218 : decode prog_10_method_17_code 218 = .ok (.goto 60, 3) := by decide +kernel
theorem d33_221 : decode prog_10_method_17_code 221 = .ok (.aload_n 0, 1) := by decide +kernel
theorem d33_222 : decode prog_10_method_17_code 222 = .ok (.getfield 7, 3) := by decide +kernel
theorem d33_225 : decode prog_10_method_17_code 225 = .ok (.iload_n 3, 1) := by decide +kernel
theorem d33_226 : decode prog_10_method_17_code 226 = .ok (.iinc 3 1, 3) := by decide +kernel
theorem d33_229 : decode prog_10_method_17_code 229 = .ok (.sipush 224, 3) := by decide +kernel
theorem d33_232 : decode prog_10_method_17_code 232 = .ok (.iload_n 1, 1) := by decide +kernel
theorem d33_233 : decode prog_10_method_17_code 233 = .ok (.bipush 12, 2) := by decide +kernel
theorem d33_235 : decode prog_10_method_17_code 235 = .ok (.ishr, 1) := by decide +kernel
theorem d33_236 : decode prog_10_method_17_code 236 = .ok (.ior, 1) := by decide +kernel
theorem d33_237 : decode prog_10_method_17_code 237 = .ok (.i2b, 1) := by decide +kernel
theorem d33_238 : decode prog_10_method_17_code 238 = .ok (.bastore, 1) := by decide +kernel
theorem d33_239 : decode prog_10_method_17_code 239 = .ok (.aload_n 0, 1) := by decide +kernel
theorem d33_240 : decode prog_10_method_17_code 240 = .ok (.getfield 7, 3) := by decide +kernel
theorem d33_243 : decode prog_10_method_17_code 243 = .ok (.iload_n 3, 1) := by decide +kernel
theorem d33_244 : decode prog_10_method_17_code 244 = .ok (.iinc 3 1, 3) := by decide +kernel
theorem d33_247 : decode prog_10_method_17_code 247 = .ok (.sipush 128, 3) := by decide +kernel
theorem d33_250 : decode prog_10_method_17_code 250 = .ok (.iload_n 1, 1) := by decide +kernel
theorem d33_251 : decode prog_10_method_17_code 251 = .ok (.bipush 6, 2) := by decide +kernel
theorem d33_253 : decode prog_10_method_17_code 253 = .ok (.ishr, 1) := by decide +kernel
theorem d33_254 : decode prog_10_method_17_code 254 = .ok (.bipush 63, 2) := by decide +kernel
theorem d33_256 : decode prog_10_method_17_code 256 = .ok (.iand, 1) := by decide +kernel
theorem d33_257 : decode prog_10_method_17_code 257 = .ok (.ior, 1) := by decide +kernel
theorem d33_258 : decode prog_10_method_17_code 258 = .ok (.i2b, 1) := by decide +kernel
theorem d33_259 : decode prog_10_method_17_code 259 = .ok (.bastore, 1) := by decide +kernel
theorem d33_260 : decode prog_10_method_17_code 260 = .ok (.aload_n 0, 1) := by decide +kernel
theorem d33_261 : decode prog_10_method_17_code 261 = .ok (.getfield 7, 3) := by decide +kernel
theorem d33_264 : decode prog_10_method_17_code 264 = .ok (.iload_n 3, 1) := by decide +kernel
theorem d33_265 : decode prog_10_method_17_code 265 = .ok (.iinc 3 1, 3) := by decide +kernel
theorem d33_268 : decode prog_10_method_17_code 268 = .ok (.sipush 128, 3) := by decide +kernel
theorem d33_271 : decode prog_10_method_17_code 271 = .ok (.iload_n 1, 1) := by decide +kernel
theorem d33_272 : decode prog_10_method_17_code 272 = .ok (.bipush 63, 2) := by decide +kernel
theorem d33_274 : decode prog_10_method_17_code 274 = .ok (.iand, 1) := by decide +kernel
theorem d33_275 : decode prog_10_method_17_code 275 = .ok (.ior, 1) := by decide +kernel
theorem d33_276 : decode prog_10_method_17_code 276 = .ok (.i2b, 1) := by decide +kernel
theorem d33_277 : decode prog_10_method_17_code 277 = .ok (.bastore, 1) := by decide +kernel
theorem d33_278 : decode prog_10_method_17_code 278 = .ok (.iload_n 3, 1) := by decide +kernel
theorem d33_279 : decode prog_10_method_17_code 279 = .ok (.ireturn, 1) := by decide +kernel
theorem d34_0 : decode jdk_89_method_16_code 0 = .ok (.iload_n 0, 1) := by decide +kernel
theorem d34_1 : decode jdk_89_method_16_code 1 = .ok (.ldc 75, 2) := by decide +kernel
theorem d34_3 : decode jdk_89_method_16_code 3 = .ok (.if_icmp .lt 13, 3) := by decide +kernel
theorem d34_6 : decode jdk_89_method_16_code 6 = .ok (.iload_n 0, 1) := by decide +kernel
theorem d34_7 : decode jdk_89_method_16_code 7 = .ok (.ldc 77, 2) := by decide +kernel
theorem d34_9 : decode jdk_89_method_16_code 9 = .ok (.if_icmp .ge 7, 3) := by decide +kernel
theorem d34_12 : decode jdk_89_method_16_code 12 = .ok (.iconst 1, 1) := by decide +kernel
theorem d34_13 : decode jdk_89_method_16_code 13 = .ok (.goto 4, 3) := by decide +kernel
theorem d34_16 : decode jdk_89_method_16_code 16 = .ok (.iconst 0, 1) := by decide +kernel
theorem d34_17 : decode jdk_89_method_16_code 17 = .ok (.ireturn, 1) := by decide +kernel
theorem d35_0 : decode prog_10_method_10_code 0 = .ok (.aload_n 0, 1) := by decide +kernel
theorem d35_1 : decode prog_10_method_10_code 1 = .ok (.ldc 44, 2) := by decide +kernel
theorem d35_3 : decode prog_10_method_10_code 3 = .ok (.invokevirtual 46, 3) := by decide +kernel
theorem d35_6 : decode prog_10_method_10_code 6 = .ok (.areturn, 1) := by decide +kernel
theorem d36_0 : decode prog_10_method_14_code 0 = .ok (.aload_n 0, 1) := by decide +kernel
theorem d36_1 : decode prog_10_method_14_code 1 = .ok (.invokevirtual 24, 3) := by decide +kernel
theorem d36_4 : decode prog_10_method_14_code 4 = .ok (.aload_n 0, 1) := by decide +kernel
theorem d36_5 : decode prog_10_method_14_code 5 = .ok (.aload_n 1, 1) := by decide +kernel
theorem d36_6 : decode prog_10_method_14_code 6 = .ok (.invokevirtual 96, 3) := by decide +kernel
theorem d36_9 : decode prog_10_method_14_code 9 = .ok (.invokevirtual 30, 3) := by decide +kernel
theorem d36_12 : decode prog_10_method_14_code 12 = .ok (.iconst 0, 1) := by decide +kernel
theorem d36_13 : decode prog_10_method_14_code 13 = .ok (.istore_n 2, 1) := by decide +kernel
theorem d36_14 : decode prog_10_method_14_code 14 = .ok (.iload_n 2, 1) := by decide +kernel
theorem d36_15 : decode prog_10_method_14_code 15 = .ok (.aload_n 1, 1) := by decide +kernel
theorem d36_16 : decode prog_10_method_14_code 16 = .ok (.invokevirtual 96, 3) := by decide +kernel
theorem d36_19 : decode prog_10_method_14_code 19 = .ok (.if_icmp .ge 31, 3) := by decide +kernel
theorem d36_22 : decode prog_10_method_14_code 22 = .ok (.aload_n 0, 1) := by decide +kernel
theorem d36_23 : decode prog_10_method_14_code 23 = .ok (.getfield 7, 3) := by decide +kernel
theorem d36_26 : decode prog_10_method_14_code 26 = .ok (.aload_n 0, 1) := by decide +kernel
theorem d36_27 : decode prog_10_method_14_code 27 = .ok (.dup, 1) := by decide +kernel
theorem d36_28 : decode prog_10_method_14_code 28 = .ok (.getfield 34, 3) := by decide +kernel
theorem d36_31 : decode prog_10_method_14_code 31 = .ok (.dup_x1, 1) := by decide +kernel
theorem d36_32 : decode prog_10_method_14_code 32 = .ok (.iconst 1, 1) := by decide +kernel
theorem d36_33 : decode prog_10_method_14_code 33 = .ok (.iadd, 1) := by decide +kernel
theorem d36_34 : decode prog_10_method_14_code 34 = .ok (.putfield 34, 3) := by decide +kernel
theorem d36_37 : decode prog_10_method_14_code 37 = .ok (.aload_n 1, 1) := by decide +kernel
theorem d36_38 : decode prog_10_method_14_code 38 = .ok (.iload_n 2, 1) := by decide +kernel
theorem d36_39 : decode prog_10_method_14_code 39 = .ok (.invokevirtual 100, 3) := by decide +kernel
theorem d36_42 : decode prog_10_method_14_code 42 = .ok (.i2b, 1) := by decide +kernel
theorem d36_43 : decode prog_10_method_14_code 43 = .ok (.bastore, 1) := by decide +kernel
theorem d36_44 : decode prog_10_method_14_code 44 = .ok (.iinc 2 1, 3) := by decide +kernel
theorem d36_47 : decode prog_10_method_14_code 47 = .ok (.goto (-33), 3) := by decide +kernel
theorem d36_50 : decode prog_10_method_14_code 50 = .ok (.aload_n 0, 1) := by decide +kernel
theorem d36_51 : decode prog_10_method_14_code 51 = .ok (.areturn, 1) := by decide +kernel
theorem d37_0 : decode jdk_43_method_2_code 0 = .ok (.iload_n 1, 1) := by decide +kernel
theorem d37_1 : decode jdk_43_method_2_code 1 = .ok (.aload_n 0, 1) := by decide +kernel
theorem d37_2 : decode jdk_43_method_2_code 2 = .ok (.arraylength, 1) := by decide +kernel
theorem d37_3 : decode jdk_43_method_2_code 3 = .ok (.invokestatic 9, 3) := by decide +kernel
theorem d37_6 : decode jdk_43_method_2_code 6 = .ok (.aload_n 0, 1) := by decide +kernel
theorem d37_7 : decode jdk_43_method_2_code 7 = .ok (.iload_n 1, 1) := by decide +kernel
theorem d37_8 : decode jdk_43_method_2_code 8 = .ok (.baload, 1) := by decide +kernel
theorem d37_9 : decode jdk_43_method_2_code 9 = .ok (.sipush 255, 3) := by decide +kernel
theorem d37_12 : decode jdk_43_method_2_code 12 = .ok (.iand, 1) := by decide +kernel
theorem d37_13 : decode jdk_43_method_2_code 13 = .ok (.i2c, 1) := by decide +kernel
theorem d37_14 : decode jdk_43_method_2_code 14 = .ok (.ireturn, 1) := by decide +kernel
theorem d38_0 : decode prog_10_method_5_code 0 = .ok (.aload_n 0, 1) := by decide +kernel
theorem d38_1 : decode prog_10_method_5_code 1 = .ok (.bipush 93, 2) := by decide +kernel
theorem d38_3 : decode prog_10_method_5_code 3 = .ok (.invokevirtual 21, 3) := by decide +kernel
theorem d38_6 : decode prog_10_method_5_code 6 = .ok (.areturn, 1) := by decide +kernel
theorem d39_0 : decode prog_10_method_13_code 0 = .ok (.aload_n 0, 1) := by decide +kernel
theorem d39_1 : decode prog_10_method_13_code 1 = .ok (.iload_n 1, 1) := by decide +kernel
theorem d39_2 : decode prog_10_method_13_code 2 = .ok (.invokevirtual 92, 3) := by decide +kernel
theorem d39_5 : decode prog_10_method_13_code 5 = .ok (.aload_n 0, 1) := by decide +kernel
theorem d39_6 : decode prog_10_method_13_code 6 = .ok (.iconst 0, 1) := by decide +kernel
theorem d39_7 : decode prog_10_method_13_code 7 = .ok (.putfield 13, 3) := by decide +kernel
theorem d39_10 : decode prog_10_method_13_code 10 = .ok (.aload_n 0, 1) := by decide +kernel
theorem d39_11 : decode prog_10_method_13_code 11 = .ok (.areturn, 1) := by decide +kernel
theorem d40_0 : decode method_6_code 0 = .ok (.iload_n 2, 1) := by decide +kernel
theorem d40_1 : decode method_6_code 1 = .ok (.istore_n 3, 1) := by decide +kernel
theorem d40_2 : decode method_6_code 2 = .ok (.iload_n 3, 1) := by decide +kernel
theorem d40_3 : decode method_6_code 3 = .ok (.bipush 34, 2) := by decide +kernel
theorem d40_5 : decode method_6_code 5 = .ok (.if_icmp .eq 9, 3) := by decide +kernel
theorem d40_8 : decode method_6_code 8 = .ok (.iload_n 3, 1) := by decide +kernel
theorem d40_9 : decode method_6_code 9 = .ok (.bipush 92, 2) := by decide +kernel
theorem d40_11 : decode method_6_code 11 = .ok (.if_icmp .ne 19, 3) := by decide +kernel
theorem d40_14 : decode method_6_code 14 = .ok (.aload_n 0, 1) := by decide +kernel
theorem d40_15 : decode method_6_code 15 = .ok (.iload_n 1, 1) := by decide +kernel
theorem d40_16 : decode method_6_code 16 = .ok (.bipush 92, 2) := by decide +kernel
theorem d40_18 : decode method_6_code 18 = .ok (.bastore, 1) := by decide +kernel
theorem d40_19 : decode method_6_code 19 = .ok (.aload_n 0, 1) := by decide +kernel
theorem d40_20 : decode method_6_code 20 = .ok (.iload_n 1, 1) := by decide +kernel
theorem d40_21 : decode method_6_code 21 = .ok (.iconst 1, 1) := by decide +kernel
theorem d40_22 : decode method_6_code 22 = .ok (.iadd, 1) := by decide +kernel
theorem d40_23 : decode method_6_code 23 = .ok (.iload_n 3, 1) := by decide +kernel
theorem d40_24 : decode method_6_code 24 = .ok (.i2b, 1) := by decide +kernel
theorem d40_25 : decode method_6_code 25 = .ok (.bastore, 1) := by decide +kernel
theorem d40_26 : decode method_6_code 26 = .ok (.iload_n 1, 1) := by decide +kernel
theorem d40_27 : decode method_6_code 27 = .ok (.iconst 2, 1) := by decide +kernel
theorem d40_28 : decode method_6_code 28 = .ok (.iadd, 1) := by decide +kernel
theorem d40_29 : decode method_6_code 29 = .ok (.ireturn, 1) := by decide +kernel
theorem d40_30 : decode method_6_code 30 = .ok (.iload_n 3, 1) := by decide +kernel
theorem d40_31 : decode method_6_code 31 = .ok (.bipush 8, 2) := by decide +kernel
theorem d40_33 : decode method_6_code 33 = .ok (.if_icmp .ne 11, 3) := by decide +kernel
theorem d40_36 : decode method_6_code 36 = .ok (.aload_n 0, 1) := by decide +kernel
theorem d40_37 : decode method_6_code 37 = .ok (.iload_n 1, 1) := by decide +kernel
theorem d40_38 : decode method_6_code 38 = .ok (.bipush 98, 2) := by decide +kernel
theorem d40_40 : decode method_6_code 40 = .ok (.invokestatic 44, 3) := by decide +kernel
theorem d40_43 : decode method_6_code 43 = .ok (.ireturn, 1) := by decide +kernel
theorem d40_44 : decode method_6_code 44 = .ok (.iload_n 3, 1) := by decide +kernel
theorem d40_45 : decode method_6_code 45 = .ok (.bipush 9, 2) := by decide +kernel
theorem d40_47 : decode method_6_code 47 = .ok (.if_icmp .ne 11, 3) := by decide +kernel
theorem d40_50 : decode method_6_code 50 = .ok (.aload_n 0, 1) := by decide +kernel
theorem d40_51 : decode method_6_code 51 = .ok (.iload_n 1, 1) := by decide +kernel
theorem d40_52 : decode method_6_code 52 = .ok (.bipush 116, 2) := by decide +kernel
theorem d40_54 : decode method_6_code 54 = .ok (.invokestatic 44, 3) := by decide +kernel
theorem d40_57 : decode method_6_code 57 = .ok (.ireturn, 1) := by decide +kernel
theorem d40_58 : decode method_6_code 58 = .ok (.iload_n 3, 1) := by decide +kernel
theorem d40_59 : decode method_6_code 59 = .ok (.bipush 10, 2) := by decide +kernel
theorem d40_61 : decode method_6_code 61 = .ok (.if_icmp .ne 11, 3) := by decide +kernel
theorem d40_64 : decode method_6_code 64 = .ok (.aload_n 0, 1) := by decide +kernel
theorem d40_65 : decode method_6_code 65 = .ok (.iload_n 1, 1) := by decide +kernel
theorem d40_66 : decode method_6_code 66 = .ok (.bipush 110, 2) := by decide +kernel
theorem d40_68 : decode method_6_code 68 = .ok (.invokestatic 44, 3) := by decide +kernel
theorem d40_71 : decode method_6_code 71 = .ok (.ireturn, 1) := by decide +kernel
theorem d40_72 : decode method_6_code 72 = .ok (.iload_n 3, 1) := by decide +kernel
theorem d40_73 : decode method_6_code 73 = .ok (.bipush 12, 2) := by decide +kernel
theorem d40_75 : decode method_6_code 75 = .ok (.if_icmp .ne 11, 3) := by decide +kernel
theorem d40_78 : decode method_6_code 78 = .ok (.aload_n 0, 1) := by decide +kernel
theorem d40_79 : decode method_6_code 79 = .ok (.iload_n 1, 1) := by decide +kernel
theorem d40_80 : decode method_6_code 80 = .ok (.bipush 102, 2) := by decide +kernel
theorem d40_82 : decode method_6_code 82 = .ok (.invokestatic 44, 3) := by decide +kernel
theorem d40_85 : decode method_6_code 85 = .ok (.ireturn, 1) := by decide +kernel
theorem d40_86 : decode method_6_code 86 = .ok (.iload_n 3, 1) := by decide +kernel
theorem d40_87 : decode method_6_code 87 = .ok (.bipush 13, 2) := by decide +kernel
theorem d40_89 : decode method_6_code 89 = .ok (.if_icmp .ne 11, 3) := by decide +kernel
theorem d40_92 : decode method_6_code 92 = .ok (.aload_n 0, 1) := by decide +kernel
theorem d40_93 : decode method_6_code 93 = .ok (.iload_n 1, 1) := by decide +kernel
theorem d40_94 : decode method_6_code 94 = .ok (.bipush 114, 2) := by decide +kernel
theorem d40_96 : decode method_6_code 96 = .ok (.invokestatic 44, 3) := by decide +kernel
theorem d40_99 : decode method_6_code 99 = .ok (.ireturn, 1) := by decide +kernel
theorem d40_100 : decode method_6_code 100 = .ok (.iload_n 3, 1) := by decide +kernel
theorem d40_101 : decode method_6_code 101 = .ok (.bipush 32, 2) := by decide +kernel
theorem d40_103 : decode method_6_code 103 = .ok (.if_icmp .lt 15, 3) := by decide +kernel
theorem d40_106 : decode method_6_code 106 = .ok (.iload_n 3, 1) := by decide +kernel
theorem d40_107 : decode method_6_code 107 = .ok (.ldc 47, 2) := by decide +kernel
theorem d40_109 : decode method_6_code 109 = .ok (.if_icmp .lt 82, 3) := by decide +kernel
theorem d40_112 : decode method_6_code 112 = .ok (.iload_n 3, 1) := by decide +kernel
theorem d40_113 : decode method_6_code 113 = .ok (.ldc 48, 2) := by decide +kernel
theorem d40_115 : decode method_6_code 115 = .ok (.if_icmp .gt 76, 3) := by decide +kernel
theorem d40_118 : decode method_6_code 118 = .ok (.aload_n 0, 1) := by decide +kernel
theorem d40_119 : decode method_6_code 119 = .ok (.iload_n 1, 1) := by decide +kernel
theorem d40_120 : decode method_6_code 120 = .ok (.bipush 92, 2) := by decide +kernel
theorem d40_122 : decode method_6_code 122 = .ok (.bastore, 1) := by decide +kernel
theorem d40_123 : decode method_6_code 123 = .ok (.aload_n 0, 1) := by decide +kernel
theorem d40_124 : decode method_6_code 124 = .ok (.iload_n 1, 1) := by decide +kernel
theorem d40_125 : decode method_6_code 125 = .ok (.iconst 1, 1) := by decide +kernel
theorem d40_126 : decode method_6_code 126 = .ok (.iadd, 1) := by decide +kernel
theorem d40_127 : decode method_6_code 127 = .ok (.bipush 117, 2) := by decide +kernel
theorem d40_129 : decode method_6_code 129 = .ok (.bastore, 1) := by decide +kernel
theorem d40_130 : decode method_6_code 130 = .ok (.aload_n 0, 1) := by decide +kernel
theorem d40_131 : decode method_6_code 131 = .ok (.iload_n 1, 1) := by decide +kernel
theorem d40_132 : decode method_6_code 132 = .ok (.iconst 2, 1) := by decide +kernel
theorem d40_133 : decode method_6_code 133 = .ok (.iadd, 1) := by decide +kernel
theorem d40_134 : decode method_6_code 134 = .ok (.iload_n 3, 1) := by decide +kernel
theorem d40_135 : decode method_6_code 135 = .ok (.sipush 4096, 3) := by decide +kernel
theorem d40_138 : decode method_6_code 138 = .ok (.idiv, 1) := by decide +kernel
theorem d40_139 : decode method_6_code 139 = .ok (.invokestatic 49, 3) := by decide +kernel
theorem d40_142 : decode method_6_code 142 = .ok (.bastore, 1) := by decide +kernel
theorem d40_143 : decode method_6_code 143 = .ok (.aload_n 0, 1) := by decide +kernel
theorem d40_144 : decode method_6_code 144 = .ok (.iload_n 1, 1) := by decide +kernel
theorem d40_145 : decode method_6_code 145 = .ok (.iconst 3, 1) := by decide +kernel
theorem d40_146 : decode method_6_code 146 = .ok (.iadd, 1) := by decide +kernel
theorem d40_147 : decode method_6_code 147 = .ok (.iload_n 3, 1) := by decide +kernel
theorem d40_148 : decode method_6_code 148 = .ok (.sipush 256, 3) := by decide +kernel
theorem d40_151 : decode method_6_code 151 = .ok (.idiv, 1) := by decide +kernel
theorem d40_152 : decode method_6_code 152 = .ok (.bipush 16, 2) := by decide +kernel
theorem d40_154 : decode method_6_code 154 = .ok (.irem, 1) := by decide +kernel
theorem d40_155 : decode method_6_code 155 = .ok (.invokestatic 49, 3) := by decide +kernel
theorem d40_158 : decode method_6_code 158 = .ok (.bastore, 1) := by decide +kernel
theorem d40_159 : decode method_6_code 159 = .ok (.aload_n 0, 1) := by decide +kernel
theorem d40_160 : decode method_6_code 160 = .ok (.iload_n 1, 1) := by decide +kernel
theorem d40_161 : decode method_6_code 161 = .ok (.iconst 4, 1) := by decide +kernel
theorem d40_162 : decode method_6_code 162 = .ok (.iadd, 1) := by decide +kernel
theorem d40_163 : decode method_6_code 163 = .ok (.iload_n 3, 1) := by decide +kernel
theorem d40_164 : decode method_6_code 164 = .ok (.bipush 16, 2) := by decide +kernel
theorem d40_166 : decode method_6_code 166 = .ok (.idiv, 1) := by decide +kernel
theorem d40_167 : decode method_6_code 167 = .ok (.bipush 16, 2) := by decide +kernel
theorem d40_169 : decode method_6_code 169 = .ok (.irem, 1) := by decide +kernel
theorem d40_170 : decode method_6_code 170 = .ok (.invokestatic 49, 3) := by decide +kernel
theorem d40_173 : decode method_6_code 173 = .ok (.bastore, 1) := by decide +kernel
theorem d40_174 : decode method_6_code 174 = .ok (.aload_n 0, 1) := by decide +kernel
theorem d40_175 : decode method_6_code 175 = .ok (.iload_n 1, 1) := by decide +kernel
theorem d40_176 : decode method_6_code 176 = .ok (.iconst 5, 1) := by decide +kernel
theorem d40_177 : decode method_6_code 177 = .ok (.iadd, 1) := by decide +kernel
theorem d40_178 : decode method_6_code 178 = .ok (.iload_n 3, 1) := by decide +kernel
theorem d40_179 : decode method_6_code 179 = .ok (.bipush 16, 2) := by decide +kernel
theorem d40_181 : decode method_6_code 181 = .ok (.irem, 1) := by decide +kernel
theorem d40_182 : decode method_6_code 182 = .ok (.invokestatic 49, 3) := by decide +kernel
theorem d40_185 : decode method_6_code 185 = .ok (.bastore, 1) := by decide +kernel
theorem d40_186 : decode method_6_code 186 = .ok (.iload_n 1, 1) := by decide +kernel
theorem d40_187 : decode method_6_code 187 = .ok (.bipush 6, 2) := by decide +kernel
theorem d40_189 : decode method_6_code 189 = .ok (.iadd, 1) := by decide +kernel
theorem d40_190 : decode method_6_code 190 = .ok (.ireturn, 1) := by decide +kernel
theorem d40_191 : decode method_6_code 191 = .ok (.iload_n 3, 1) := by decide +kernel
theorem d40_192 : decode method_6_code 192 = .ok (.sipush 128, 3) := by decide +kernel
theorem d40_195 : decode method_6_code 195 = .ok (.if_icmp .ge 12, 3) := by decide +kernel
theorem d40_198 : decode method_6_code 198 = .ok (.aload_n 0, 1) := by decide +kernel
theorem d40_199 : decode method_6_code 199 = .ok (.iload_n 1, 1) := by decide +kernel
theorem d40_200 : decode method_6_code 200 = .ok (.iload_n 3, 1) := by decide +kernel
theorem d40_201 : decode method_6_code 201 = .ok (.i2b, 1) := by decide +kernel
theorem d40_202 : decode method_6_code 202 = .ok (.bastore, 1) := by decide +kernel
theorem d40_203 : decode method_6_code 203 = .ok (.iload_n 1, 1) := by decide +kernel
theorem d40_204 : decode method_6_code 204 = .ok (.iconst 1, 1) := by decide +kernel
theorem d40_205 : decode method_6_code 205 = .ok (.iadd, 1) := by decide +kernel
theorem d40_206 : decode method_6_code 206 = .ok (.ireturn, 1) := by decide +kernel
theorem d40_207 : decode method_6_code 207 = .ok (.iload_n 3, 1) := by decide +kernel
theorem d40_208 : decode method_6_code 208 = .ok (.sipush 2048, 3) := by decide +kernel
theorem d40_211 : decode method_6_code 211 = .ok (.if_icmp .ge 33, 3) := by decide +kernel
theorem d40_214 : decode method_6_code 214 = .ok (.aload_n 0, 1) := by decide +kernel
theorem d40_215 : decode method_6_code 215 = .ok (.iload_n 1, 1) := by decide +kernel
theorem d40_216 : decode method_6_code 216 = .ok (.sipush 192, 3) := by decide +kernel
theorem d40_219 : decode method_6_code 219 = .ok (.iload_n 3, 1) := by decide +kernel
theorem d40_220 : decode method_6_code 220 = .ok (.bipush 64, 2) := by decide +kernel
theorem d40_222 : decode method_6_code 222 = .ok (.idiv, 1) := by decide +kernel
theorem d40_223 : decode method_6_code 223 = .ok (.iadd, 1) := by decide +kernel
theorem d40_224 : decode method_6_code 224 = .ok (.i2b, 1) := by decide +kernel
theorem d40_225 : decode method_6_code 225 = .ok (.bastore, 1) := by decide +kernel
theorem d40_226 : decode method_6_code 226 = .ok (.aload_n 0, 1) := by decide +kernel
theorem d40_227 : decode method_6_code 227 = .ok (.iload_n 1, 1) := by decide +kernel
theorem d40_228 : decode method_6_code 228 = .ok (.iconst 1, 1) := by decide +kernel
theorem d40_229 : decode method_6_code 229 = .ok (.iadd, 1) := by decide +kernel
theorem d40_230 : decode method_6_code 230 = .ok (.sipush 128, 3) := by decide +kernel
theorem d40_233 : decode method_6_code 233 = .ok (.iload_n 3, 1) := by decide +kernel
theorem d40_234 : decode method_6_code 234 = .ok (.bipush 64, 2) := by decide +kernel
theorem d40_236 : decode method_6_code 236 = .ok (.irem, 1) := by decide +kernel
theorem d40_237 : decode method_6_code 237 = .ok (.iadd, 1) := by decide +kernel
theorem d40_238 : decode method_6_code 238 = .ok (.i2b, 1) := by decide +kernel
theorem d40_239 : decode method_6_code 239 = .ok (.bastore, 1) := by decide +kernel
theorem d40_240 : decode method_6_code 240 = .ok (.iload_n 1, 1) := by decide +kernel
theorem d40_241 : decode method_6_code 241 = .ok (.iconst 2, 1) := by decide +kernel
theorem d40_242 : decode method_6_code 242 = .ok (.iadd, 1) := by decide +kernel
theorem d40_243 : decode method_6_code 243 = .ok (.ireturn, 1) := by decide +kernel
theorem d40_244 : decode method_6_code 244 = .ok (.aload_n 0, 1) := by decide +kernel
theorem d40_245 : decode method_6_code 245 = .ok (.iload_n 1, 1) := by decide +kernel
theorem d40_246 : decode method_6_code 246 = .ok (.sipush 224, 3) := by decide +kernel
theorem d40_249 : decode method_6_code 249 = .ok (.iload_n 3, 1) := by decide +kernel
theorem d40_250 : decode method_6_code 250 = .ok (.sipush 4096, 3) := by decide +kernel
theorem d40_253 : decode method_6_code 253 = .ok (.idiv, 1) := by decide +kernel
theorem d40_254 : decode method_6_code 254 = .ok (.iadd, 1) := by decide +kernel
theorem d40_255 : decode method_6_code 255 = .ok (.i2b, 1) := by decide +kernel
theorem d40_256 : decode method_6_code 256 = .ok (.bastore, 1) := by decide +kernel
theorem d40_257 : decode method_6_code 257 = .ok (.aload_n 0, 1) := by decide +kernel
theorem d40_258 : decode method_6_code 258 = .ok (.iload_n 1, 1) := by decide +kernel
theorem d40_259 : decode method_6_code 259 = .ok (.iconst 1, 1) := by decide +kernel
theorem d40_260 : decode method_6_code 260 = .ok (.iadd, 1) := by decide +kernel
theorem d40_261 : decode method_6_code 261 = .ok (.sipush 128, 3) := by decide +kernel
theorem d40_264 : decode method_6_code 264 = .ok (.iload_n 3, 1) := by decide +kernel
theorem d40_265 : decode method_6_code 265 = .ok (.bipush 64, 2) := by decide +kernel
theorem d40_267 : decode method_6_code 267 = .ok (.idiv, 1) := by decide +kernel
theorem d40_268 : decode method_6_code 268 = .ok (.bipush 64, 2) := by decide +kernel
theorem d40_270 : decode method_6_code 270 = .ok (.irem, 1) := by decide +kernel
theorem d40_271 : decode method_6_code 271 = .ok (.iadd, 1) := by decide +kernel
theorem d40_272 : decode method_6_code 272 = .ok (.i2b, 1) := by decide +kernel
theorem d40_273 : decode method_6_code 273 = .ok (.bastore, 1) := by decide +kernel
theorem d40_274 : decode method_6_code 274 = .ok (.aload_n 0, 1) := by decide +kernel
theorem d40_275 : decode method_6_code 275 = .ok (.iload_n 1, 1) := by decide +kernel
theorem d40_276 : decode method_6_code 276 = .ok (.iconst 2, 1) := by decide +kernel
theorem d40_277 : decode method_6_code 277 = .ok (.iadd, 1) := by decide +kernel
theorem d40_278 : decode method_6_code 278 = .ok (.sipush 128, 3) := by decide +kernel
theorem d40_281 : decode method_6_code 281 = .ok (.iload_n 3, 1) := by decide +kernel
theorem d40_282 : decode method_6_code 282 = .ok (.bipush 64, 2) := by decide +kernel
theorem d40_284 : decode method_6_code 284 = .ok (.irem, 1) := by decide +kernel
theorem d40_285 : decode method_6_code 285 = .ok (.iadd, 1) := by decide +kernel
theorem d40_286 : decode method_6_code 286 = .ok (.i2b, 1) := by decide +kernel
theorem d40_287 : decode method_6_code 287 = .ok (.bastore, 1) := by decide +kernel
theorem d40_288 : decode method_6_code 288 = .ok (.iload_n 1, 1) := by decide +kernel
theorem d40_289 : decode method_6_code 289 = .ok (.iconst 3, 1) := by decide +kernel
theorem d40_290 : decode method_6_code 290 = .ok (.iadd, 1) := by decide +kernel
theorem d40_291 : decode method_6_code 291 = .ok (.ireturn, 1) := by decide +kernel
theorem d41_0 : decode method_4_code 0 = .ok (.iload_n 0, 1) := by decide +kernel
theorem d41_1 : decode method_4_code 1 = .ok (.bipush 10, 2) := by decide +kernel
theorem d41_3 : decode method_4_code 3 = .ok (.if_icmp .ge 10, 3) := by decide +kernel
theorem d41_6 : decode method_4_code 6 = .ok (.bipush 48, 2) := by decide +kernel
theorem d41_8 : decode method_4_code 8 = .ok (.iload_n 0, 1) := by decide +kernel
theorem d41_9 : decode method_4_code 9 = .ok (.iadd, 1) := by decide +kernel
theorem d41_10 : decode method_4_code 10 = .ok (.goto 7, 3) := by decide +kernel
theorem d41_13 : decode method_4_code 13 = .ok (.bipush 55, 2) := by decide +kernel
theorem d41_15 : decode method_4_code 15 = .ok (.iload_n 0, 1) := by decide +kernel
theorem d41_16 : decode method_4_code 16 = .ok (.iadd, 1) := by decide +kernel
theorem d41_17 : decode method_4_code 17 = .ok (.i2b, 1) := by decide +kernel
theorem d41_18 : decode method_4_code 18 = .ok (.ireturn, 1) := by decide +kernel
theorem d42_0 : decode method_5_code 0 = .ok (.aload_n 0, 1) := by decide +kernel
theorem d42_1 : decode method_5_code 1 = .ok (.iload_n 1, 1) := by decide +kernel
theorem d42_2 : decode method_5_code 2 = .ok (.bipush 92, 2) := by decide +kernel
theorem d42_4 : decode method_5_code 4 = .ok (.bastore, 1) := by decide +kernel
theorem d42_5 : decode method_5_code 5 = .ok (.aload_n 0, 1) := by decide +kernel
theorem d42_6 : decode method_5_code 6 = .ok (.iload_n 1, 1) := by decide +kernel
theorem d42_7 : decode method_5_code 7 = .ok (.iconst 1, 1) := by decide +kernel
theorem d42_8 : decode method_5_code 8 = .ok (.iadd, 1) := by decide +kernel
theorem d42_9 : decode method_5_code 9 = .ok (.iload_n 2, 1) := by decide +kernel
theorem d42_10 : decode method_5_code 10 = .ok (.i2b, 1) := by decide +kernel
theorem d42_11 : decode method_5_code 11 = .ok (.bastore, 1) := by decide +kernel
theorem d42_12 : decode method_5_code 12 = .ok (.iload_n 1, 1) := by decide +kernel
theorem d42_13 : decode method_5_code 13 = .ok (.iconst 2, 1) := by decide +kernel
theorem d42_14 : decode method_5_code 14 = .ok (.iadd, 1) := by decide +kernel
theorem d42_15 : decode method_5_code 15 = .ok (.ireturn, 1) := by decide +kernel
theorem pn0 : plainName "jdk/internal/util/Preconditions" = true := by first | (simp [plainName, overriddenIn]; done) | decide +kernel
theorem pn1 : plainName "java/lang/String" = true := by first | (simp [plainName, overriddenIn]; done) | decide +kernel
theorem pn2 : plainName "java/lang/StringUTF16" = true := by first | (simp [plainName, overriddenIn]; done) | decide +kernel
theorem pn3 : plainName "java/lang/StringLatin1" = true := by first | (simp [plainName, overriddenIn]; done) | decide +kernel
theorem pn4 : plainName "com/example/dijtabla/dijtabla/JsonText" = true := by first | (simp [plainName, overriddenIn]; done) | decide +kernel
theorem pn5 : plainName "java/lang/Character" = true := by first | (simp [plainName, overriddenIn]; done) | decide +kernel
theorem pn6 : plainName "java/util/Arrays" = true := by first | (simp [plainName, overriddenIn]; done) | decide +kernel
theorem pn7 : plainName "com/example/dijtabla/dijtabla/JsonTextBytesPinLaw" = true := by first | (simp [plainName, overriddenIn]; done) | decide +kernel
theorem pd0 : parseMethodDescriptor "(IILjava/util/function/BiFunction;)I" = some ⟨[.int, .int, (.object "java/util/function/BiFunction")], some .int⟩ := by decide +kernel
theorem pd1 : parseMethodDescriptor "()B" = some ⟨[], some .byte⟩ := by decide +kernel
theorem pd2 : parseMethodDescriptor "([B)I" = some ⟨[(.array .byte)], some .int⟩ := by decide +kernel
theorem pd3 : parseMethodDescriptor "(II)V" = some ⟨[.int, .int], none⟩ := by decide +kernel
theorem pd4 : parseMethodDescriptor "(I[B)V" = some ⟨[.int, (.array .byte)], none⟩ := by decide +kernel
theorem pd5 : parseMethodDescriptor "([BI)C" = some ⟨[(.array .byte), .int], some .char⟩ := by decide +kernel
theorem pd6 : parseMethodDescriptor "()Z" = some ⟨[], some .boolean⟩ := by decide +kernel
theorem pd7 : parseMethodDescriptor "(I)I" = some ⟨[.int], some .int⟩ := by decide +kernel
theorem pd8 : parseMethodDescriptor "(I)[B" = some ⟨[.int], some (.array .byte)⟩ := by decide +kernel
theorem pd9 : parseMethodDescriptor "([BII)V" = some ⟨[(.array .byte), .int, .int], none⟩ := by decide +kernel
theorem pd10 : parseMethodDescriptor "([CI[BII)I" = some ⟨[(.array .char), .int, (.array .byte), .int, .int], some .int⟩ := by decide +kernel
theorem pd11 : parseMethodDescriptor "([CII)[B" = some ⟨[(.array .char), .int, .int], some (.array .byte)⟩ := by decide +kernel
theorem pd12 : parseMethodDescriptor "([BI)B" = some ⟨[(.array .byte), .int], some .byte⟩ := by decide +kernel
theorem pd13 : parseMethodDescriptor "([CIILjava/lang/Void;)V" = some ⟨[(.array .char), .int, .int, (.object "java/lang/Void")], none⟩ := by decide +kernel
theorem pd14 : parseMethodDescriptor "(I)V" = some ⟨[.int], none⟩ := by decide +kernel
theorem pd15 : parseMethodDescriptor "(C)V" = some ⟨[.char], none⟩ := by decide +kernel
theorem pd16 : parseMethodDescriptor "()V" = some ⟨[], none⟩ := by decide +kernel
theorem pd17 : parseMethodDescriptor "(C)Lcom/example/dijtabla/dijtabla/JsonText;" = some ⟨[.char], some (.object "com/example/dijtabla/dijtabla/JsonText")⟩ := by decide +kernel
theorem pd18 : parseMethodDescriptor "()I" = some ⟨[], some .int⟩ := by decide +kernel
theorem pd19 : parseMethodDescriptor "(I)C" = some ⟨[.int], some .char⟩ := by decide +kernel
theorem pd20 : parseMethodDescriptor "(Ljava/lang/String;)Lcom/example/dijtabla/dijtabla/JsonText;" = some ⟨[(.object "java/lang/String")], some (.object "com/example/dijtabla/dijtabla/JsonText")⟩ := by decide +kernel
theorem pd21 : parseMethodDescriptor "(C)Z" = some ⟨[.char], some .boolean⟩ := by decide +kernel
theorem pd22 : parseMethodDescriptor "(CI)I" = some ⟨[.char, .int], some .int⟩ := by decide +kernel
theorem pd23 : parseMethodDescriptor "(Ljava/lang/String;I)V" = some ⟨[(.object "java/lang/String"), .int], none⟩ := by decide +kernel
theorem pd24 : parseMethodDescriptor "(II)I" = some ⟨[.int, .int], some .int⟩ := by decide +kernel
theorem pd25 : parseMethodDescriptor "([BI)[B" = some ⟨[(.array .byte), .int], some (.array .byte)⟩ := by decide +kernel
theorem pd26 : parseMethodDescriptor "(I)B" = some ⟨[.int], some .byte⟩ := by decide +kernel
theorem pd27 : parseMethodDescriptor "([BIC)I" = some ⟨[(.array .byte), .int, .char], some .int⟩ := by decide +kernel
theorem pd28 : parseMethodDescriptor "([C)V" = some ⟨[(.array .char)], none⟩ := by decide +kernel
theorem pd29 : parseMethodDescriptor "()Lcom/example/dijtabla/dijtabla/JsonText;" = some ⟨[], some (.object "com/example/dijtabla/dijtabla/JsonText")⟩ := by decide +kernel
theorem pd30 : parseMethodDescriptor "()[B" = some ⟨[], some (.array .byte)⟩ := by decide +kernel
theorem pd31 : parseMethodDescriptor "([B[BII)Z" = some ⟨[(.array .byte), (.array .byte), .int, .int], some .boolean⟩ := by decide +kernel
theorem ct_pre {l : Launch} {Z a0 n0 g1 gf hxa khx} (cx : Ctx Z a0 n0 g1 gf hxa khx) {h : Heap} (O : Old Z n0 h) (i n : Int32) (hi : ¬ i < 0 ∧ i < n) :
    Ct l Z consts_1 n0 [] (⟨"jdk/internal/util/Preconditions", "checkIndex", "(IILjava/util/function/BiFunction;)I"⟩ : MethodName) jdk_41_method_11_code 3 (some .int) ({ frames := 0, cells := 0, slots := 0, locals := 0 } : Room) #[(.int i), (.int n), gf] [] h (fun v _ h' => v = some (.int i) ∧ h' = h) := by
  refine Ct.intro (plainFor_of_name pn0) O cx.ew ?_
  intro p_ e_ s_ m_ bl_ mt_ c_ T0 W0 hby hml hret hnm
  refine Go.st (fun t_ k_ => castTop (g' := mkF m_ 0 #[.val (.int i), .val (.int n), .val gf] []) (by rcases ref_cases cx.fref with q_ | ⟨z_, q_⟩ <;> rw [q_] <;> first | (simp [entryFrame, mkF, argsToLocals, Value.category]; done) | rfl) k_) ?_
  refine Go.st (fun _ => XS.iloadN W0.here W0.ex rfl (hb hby d32_0) rfl) ?_
  refine Go.st (fun _ => XS.ifNo W0.here W0.ex rfl (hb hby d32_1) rfl ((if0 _ _).trans (flt (hi.1 : ¬ (i < (0 : Int32)))).1)) ?_
  refine Go.st (fun _ => XS.iloadN W0.here W0.ex rfl (hb hby d32_4) rfl) ?_
  show Go _ _ _ _ (T0.setTop (mkF m_ 5 #[.val (.int i), .val (.int n), .val gf] [(.int i)]))
  refine Go.st (fun _ => XS.iloadN W0.here W0.ex rfl (hb hby d32_5) rfl) ?_
  refine Go.st (fun _ => XS.icmpYes W0.here W0.ex rfl (pc0 := 6) (pc' := 16) rfl (hb hby d32_6) rfl (tlt (hi.2 : i < n)).1 (by decide) (by decide)) ?_
  refine Go.st (fun _ => XS.iloadN W0.here W0.ex rfl (hb hby d32_16) rfl) ?_
  show Go _ _ _ _ (T0.setTop (mkF m_ 17 #[.val (.int i), .val (.int n), .val gf] [(.int i)]))
  exact W0.retI hret (hb hby d32_17) (by decide) (by decide) fun vr_ cr_ => ⟨rfl, rfl⟩
theorem ct_chk {l : Launch} {Z a0 n0 g1 gf hxa khx} (cx : Ctx Z a0 n0 g1 gf hxa khx) {h : Heap} (O : Old Z n0 h) (i n : Int32) (hi : ¬ i < 0 ∧ i < n) :
    Ct l Z consts_1 n0 [] Y23 jdk_42_method_155_code 2 none ({ frames := 1, cells := 0, slots := 0, locals := 14 } : Room) #[(.int i), (.int n)] [] h (fun v _ h' => v = none ∧ h' = h) := by
  refine Ct.intro (plainFor_of_name pn1) O cx.ew ?_
  intro p_ e_ s_ m_ bl_ mt_ c_ T0 W0 hby hml hret hnm
  refine Go.st (fun t_ k_ => castTop (g' := mkF m_ 0 #[.val (.int i), .val (.int n)] []) (by first | (simp [entryFrame, mkF, argsToLocals, Value.category]; done) | rfl) k_) ?_
  refine Go.st (fun _ => XS.iloadN W0.here W0.ex rfl (hb hby d31_0) rfl) ?_
  refine Go.st (fun _ => XS.iloadN W0.here W0.ex rfl (hb hby d31_1) rfl) ?_
  show Go _ _ _ _ (T0.setTop (mkF m_ 2 #[.val (.int i), .val (.int n)] [(.int n), (.int i)]))
  refine W0.getS (cx.w 146 rfl) Via.refl (cx.fmt.ext W0.e0) (hb hby d31_2) ?_
  intro T1 W1
  show Go _ _ _ _ (T1.setTop (mkF m_ 5 #[.val (.int i), .val (.int n)] [gf, (.int n), (.int i)]))
  refine W1.callS (y := (⟨"jdk/internal/util/Preconditions", "checkIndex", "(IILjava/util/function/BiFunction;)I"⟩ : MethodName)) (cx.w 148 rfl) (cx.w 149 rfl) (cx.w 147 rfl) (cx.w 150 rfl) (by decide) (ct_pre cx W1.old i n hi) all0 (by decide) (Wd := 0) (by decide) (k' := 0) (n' := 0) rfl rfl (by decide) (by decide) (by rw [hml]; rfl) (argsL := [(.int i), (.int n), gf]) (rest := []) rfl (lenOf pd0 rfl) rfl (Nat.le_of_eq rfl) (hb hby d31_5) ?_
  intro v2 vm2 T2 h2 L2 W2 q2
  obtain ⟨rfl, eh_⟩ := q2
  subst h2
  refine Go.st (fun _ => XS.pop W2.here W2.ex rfl (hb hby d31_8) rfl rfl) ?_
  show Go _ _ _ _ (T2.setTop (mkF m_ 9 #[.val (.int i), .val (.int n)] []))
  exact W2.retV hret (hb hby d31_9) (by decide) (by decide) fun vr_ cr_ => ⟨rfl, rfl⟩
theorem ct_cod0 {l : Launch} {Z a0 n0 g1 gf hxa khx} (cx : Ctx Z a0 n0 g1 gf hxa khx) {h : Heap} (O : Old Z n0 h) (q : Addr) (F_coder_q : Fld Z h q "java/lang/String" "coder" "B" (.int 0)) :
    Ct l Z consts_1 n0 [] Y24 jdk_42_method_152_code 1 (some .byte) ({ frames := 0, cells := 0, slots := 0, locals := 0 } : Room) #[(.ref q)] [] h (fun v _ h' => v = some (.int 0) ∧ h' = h) := by
  refine Ct.intro (plainFor_of_name pn1) O cx.ew ?_
  intro p_ e_ s_ m_ bl_ mt_ c_ T0 W0 hby hml hret hnm
  refine Go.st (fun t_ k_ => castTop (g' := mkF m_ 0 #[.val (.ref q)] []) (by first | (simp [entryFrame, mkF, argsToLocals, Value.category]; done) | rfl) k_) ?_
  show Go _ _ _ _ (T0.setTop (mkF m_ 0 #[.val (.ref q)] []))
  refine W0.getS (cx.w 15 rfl) Via.refl (cx.cmp.ext W0.e0) (hb hby d25_0) ?_
  intro T1 W1
  refine Go.st (fun _ => XS.ifNo W1.here W1.ex rfl (hb hby d25_3) rfl ((if0 _ _).trans (feq (cx.g1 : ¬ (g1 = (0 : Int32)))).1)) ?_
  refine Go.st (fun _ => XS.aloadN W1.here W1.ex rfl (hb hby d25_6) rfl rfl) ?_
  show Go _ _ _ _ (T1.setTop (mkF m_ 7 #[.val (.ref q)] [(.ref q)]))
  refine W1.getF (cx.w 27 rfl) Via.refl F_coder_q (hb hby d25_7) ?_
  intro T2 W2
  refine Go.st (fun _ => XS.goto W2.here W2.ex rfl (pc0 := 10) (pc' := 14) rfl (hb hby d25_10) (by decide) (by decide)) ?_
  show Go _ _ _ _ (T2.setTop (mkF m_ 14 #[.val (.ref q)] [(.int (0 : Int32))]))
  exact W2.retN hret (by simp) (hb hby d25_14) (by decide) (by decide) fun vr_ cr_ => ⟨rfl, rfl⟩
theorem ct_isl0 {l : Launch} {Z a0 n0 g1 gf hxa khx} (cx : Ctx Z a0 n0 g1 gf hxa khx) {h : Heap} (O : Old Z n0 h) (q : Addr) (F_coder_q : Fld Z h q "java/lang/String" "coder" "B" (.int 0)) :
    Ct l Z consts_1 n0 [] Y25 jdk_42_method_154_code 1 (some .boolean) ({ frames := 0, cells := 0, slots := 0, locals := 0 } : Room) #[(.ref q)] [] h (fun v _ h' => v = some (.int 1) ∧ h' = h) := by
  refine Ct.intro (plainFor_of_name pn1) O cx.ew ?_
  intro p_ e_ s_ m_ bl_ mt_ c_ T0 W0 hby hml hret hnm
  refine Go.st (fun t_ k_ => castTop (g' := mkF m_ 0 #[.val (.ref q)] []) (by first | (simp [entryFrame, mkF, argsToLocals, Value.category]; done) | rfl) k_) ?_
  show Go _ _ _ _ (T0.setTop (mkF m_ 0 #[.val (.ref q)] []))
  refine W0.getS (cx.w 15 rfl) Via.refl (cx.cmp.ext W0.e0) (hb hby d27_0) ?_
  intro T1 W1
  refine Go.st (fun _ => XS.ifNo W1.here W1.ex rfl (hb hby d27_3) rfl ((if0 _ _).trans (feq (cx.g1 : ¬ (g1 = (0 : Int32)))).1)) ?_
  refine Go.st (fun _ => XS.aloadN W1.here W1.ex rfl (hb hby d27_6) rfl rfl) ?_
  show Go _ _ _ _ (T1.setTop (mkF m_ 7 #[.val (.ref q)] [(.ref q)]))
  refine W1.getF (cx.w 27 rfl) Via.refl F_coder_q (hb hby d27_7) ?_
  intro T2 W2
  refine Go.st (fun _ => XS.ifNo W2.here W2.ex rfl (hb hby d27_10) rfl ((if0 _ _).trans (teq (rfl : (0 : Int32) = (0 : Int32))).2)) ?_
  refine Go.st (fun _ => XS.iconst W2.here W2.ex rfl (hb hby d27_13)) ?_
  refine Go.st (fun _ => XS.goto W2.here W2.ex rfl (pc0 := 14) (pc' := 18) rfl (hb hby d27_14) (by decide) (by decide)) ?_
  show Go _ _ _ _ (T2.setTop (mkF m_ 18 #[.val (.ref q)] [(.int (1 : Int32))]))
  exact W2.retN hret (by simp) (hb hby d27_18) (by decide) (by decide) fun vr_ cr_ => ⟨rfl, rfl⟩
theorem ct_cod1 {l : Launch} {Z a0 n0 g1 gf hxa khx} (cx : Ctx Z a0 n0 g1 gf hxa khx) {h : Heap} (O : Old Z n0 h) (q : Addr) (F_coder_q : Fld Z h q "java/lang/String" "coder" "B" (.int 1)) :
    Ct l Z consts_1 n0 [] Y24 jdk_42_method_152_code 1 (some .byte) ({ frames := 0, cells := 0, slots := 0, locals := 0 } : Room) #[(.ref q)] [] h (fun v _ h' => v = some (.int 1) ∧ h' = h) := by
  refine Ct.intro (plainFor_of_name pn1) O cx.ew ?_
  intro p_ e_ s_ m_ bl_ mt_ c_ T0 W0 hby hml hret hnm
  refine Go.st (fun t_ k_ => castTop (g' := mkF m_ 0 #[.val (.ref q)] []) (by first | (simp [entryFrame, mkF, argsToLocals, Value.category]; done) | rfl) k_) ?_
  show Go _ _ _ _ (T0.setTop (mkF m_ 0 #[.val (.ref q)] []))
  refine W0.getS (cx.w 15 rfl) Via.refl (cx.cmp.ext W0.e0) (hb hby d25_0) ?_
  intro T1 W1
  refine Go.st (fun _ => XS.ifNo W1.here W1.ex rfl (hb hby d25_3) rfl ((if0 _ _).trans (feq (cx.g1 : ¬ (g1 = (0 : Int32)))).1)) ?_
  refine Go.st (fun _ => XS.aloadN W1.here W1.ex rfl (hb hby d25_6) rfl rfl) ?_
  show Go _ _ _ _ (T1.setTop (mkF m_ 7 #[.val (.ref q)] [(.ref q)]))
  refine W1.getF (cx.w 27 rfl) Via.refl F_coder_q (hb hby d25_7) ?_
  intro T2 W2
  refine Go.st (fun _ => XS.goto W2.here W2.ex rfl (pc0 := 10) (pc' := 14) rfl (hb hby d25_10) (by decide) (by decide)) ?_
  show Go _ _ _ _ (T2.setTop (mkF m_ 14 #[.val (.ref q)] [(.int (1 : Int32))]))
  exact W2.retN hret (by simp) (hb hby d25_14) (by decide) (by decide) fun vr_ cr_ => ⟨rfl, rfl⟩
theorem ct_isl1 {l : Launch} {Z a0 n0 g1 gf hxa khx} (cx : Ctx Z a0 n0 g1 gf hxa khx) {h : Heap} (O : Old Z n0 h) (q : Addr) (F_coder_q : Fld Z h q "java/lang/String" "coder" "B" (.int 1)) :
    Ct l Z consts_1 n0 [] Y25 jdk_42_method_154_code 1 (some .boolean) ({ frames := 0, cells := 0, slots := 0, locals := 0 } : Room) #[(.ref q)] [] h (fun v _ h' => v = some (.int 0) ∧ h' = h) := by
  refine Ct.intro (plainFor_of_name pn1) O cx.ew ?_
  intro p_ e_ s_ m_ bl_ mt_ c_ T0 W0 hby hml hret hnm
  refine Go.st (fun t_ k_ => castTop (g' := mkF m_ 0 #[.val (.ref q)] []) (by first | (simp [entryFrame, mkF, argsToLocals, Value.category]; done) | rfl) k_) ?_
  show Go _ _ _ _ (T0.setTop (mkF m_ 0 #[.val (.ref q)] []))
  refine W0.getS (cx.w 15 rfl) Via.refl (cx.cmp.ext W0.e0) (hb hby d27_0) ?_
  intro T1 W1
  refine Go.st (fun _ => XS.ifNo W1.here W1.ex rfl (hb hby d27_3) rfl ((if0 _ _).trans (feq (cx.g1 : ¬ (g1 = (0 : Int32)))).1)) ?_
  refine Go.st (fun _ => XS.aloadN W1.here W1.ex rfl (hb hby d27_6) rfl rfl) ?_
  show Go _ _ _ _ (T1.setTop (mkF m_ 7 #[.val (.ref q)] [(.ref q)]))
  refine W1.getF (cx.w 27 rfl) Via.refl F_coder_q (hb hby d27_7) ?_
  intro T2 W2
  refine Go.st (fun _ => XS.ifYes W2.here W2.ex rfl (pc0 := 10) (pc' := 17) rfl (hb hby d27_10) rfl ((if0 _ _).trans (feq ((by decide) : ¬ ((1 : Int32) = (0 : Int32)))).2) (by decide) (by decide)) ?_
  refine Go.st (fun _ => XS.iconst W2.here W2.ex rfl (hb hby d27_17)) ?_
  show Go _ _ _ _ (T2.setTop (mkF m_ 18 #[.val (.ref q)] [(.int (0 : Int32))]))
  exact W2.retN hret (by simp) (hb hby d27_18) (by decide) (by decide) fun vr_ cr_ => ⟨rfl, rfl⟩
theorem ct_len02 {l : Launch} {Z a0 n0 g1 gf hxa khx} (cx : Ctx Z a0 n0 g1 gf hxa khx) {h : Heap} (O : Old Z n0 h) (q t : Addr) {kb : ClassId} {vs : List Value} (E_q : Exa Z h q "java/lang/String") (F_value_q : Fld Z h q "java/lang/String" "value" "[B" (.ref t)) (F_coder_q : Fld Z h q "java/lang/String" "coder" "B" (.int 0)) (V_t : Arv Z h t kb .byte 2 vs (.int 0)) :
    Ct l Z consts_1 n0 [] Y26 jdk_42_method_54_code 1 (some .int) ({ frames := 1, cells := 0, slots := 0, locals := 13 } : Room) #[(.ref q)] [] h (fun v _ h' => v = some (.int 2) ∧ h' = h) := by
  refine Ct.intro (plainFor_of_name pn1) O cx.ew ?_
  intro p_ e_ s_ m_ bl_ mt_ c_ T0 W0 hby hml hret hnm
  refine Go.st (fun t_ k_ => castTop (g' := mkF m_ 0 #[.val (.ref q)] []) (by first | (simp [entryFrame, mkF, argsToLocals, Value.category]; done) | rfl) k_) ?_
  refine Go.st (fun _ => XS.aloadN W0.here W0.ex rfl (hb hby d24_0) rfl rfl) ?_
  show Go _ _ _ _ (T0.setTop (mkF m_ 1 #[.val (.ref q)] [(.ref q)]))
  refine W0.getF (cx.w 29 rfl) Via.refl F_value_q (hb hby d24_1) ?_
  intro T1 W1
  show Go _ _ _ _ (T1.setTop (mkF m_ 4 #[.val (.ref q)] [(.ref t)]))
  refine W1.alen V_t (hb hby d24_4) ?_
  refine Go.st (fun _ => XS.aloadN W1.here W1.ex rfl (hb hby d24_5) rfl rfl) ?_
  show Go _ _ _ _ (T1.setTop (mkF m_ 6 #[.val (.ref q)] [(.ref q), (.int (2 : Int32))]))
  refine W1.callV (y := Y24) (z := Y24) (cx.w 119 rfl) (cx.w 120 rfl) (cx.w 122 rfl) (cx.w 121 rfl) (cx.w 4 rfl) (cx.w 123 rfl) (W1.nf (cx.w 122 rfl)) (by decide) E_q (ct_cod0 cx W1.old q F_coder_q) all0 (by decide) (Wd := 1) (by decide) (k' := 0) (n' := 0) rfl rfl (by decide) (by decide) (by rw [hml]; rfl) (a := q) (argsL := []) (rest := [(.int (2 : Int32))]) rfl (lenOf pd1 rfl) rfl (Nat.le_of_eq rfl) (hb hby d24_6) ?_
  intro v2 vm2 T2 h2 L2 W2 q2
  obtain ⟨rfl, eh_⟩ := q2
  subst h2
  refine Go.st (fun _ => XS.ishr W2.here W2.ex rfl (hb hby d24_9) rfl) ?_
  show Go _ _ _ _ (T2.setTop (mkF m_ 10 #[.val (.ref q)] [(.int ((2 : Int32) >>> ((0 : Int32) &&& 31)))]))
  rw [show ((2 : Int32) >>> ((0 : Int32) &&& 31)) = (2 : Int32) from by decide]
  show Go _ _ _ _ (T2.setTop (mkF m_ 10 #[.val (.ref q)] [(.int (2 : Int32))]))
  exact W2.retI hret (hb hby d24_10) (by decide) (by decide) fun vr_ cr_ => ⟨rfl, rfl⟩
theorem ct_len14 {l : Launch} {Z a0 n0 g1 gf hxa khx} (cx : Ctx Z a0 n0 g1 gf hxa khx) {h : Heap} (O : Old Z n0 h) (q t : Addr) {kb : ClassId} {vs : List Value} (E_q : Exa Z h q "java/lang/String") (F_value_q : Fld Z h q "java/lang/String" "value" "[B" (.ref t)) (F_coder_q : Fld Z h q "java/lang/String" "coder" "B" (.int 1)) (V_t : Arv Z h t kb .byte 4 vs (.int 0)) :
    Ct l Z consts_1 n0 [] Y26 jdk_42_method_54_code 1 (some .int) ({ frames := 1, cells := 0, slots := 0, locals := 13 } : Room) #[(.ref q)] [] h (fun v _ h' => v = some (.int 2) ∧ h' = h) := by
  refine Ct.intro (plainFor_of_name pn1) O cx.ew ?_
  intro p_ e_ s_ m_ bl_ mt_ c_ T0 W0 hby hml hret hnm
  refine Go.st (fun t_ k_ => castTop (g' := mkF m_ 0 #[.val (.ref q)] []) (by first | (simp [entryFrame, mkF, argsToLocals, Value.category]; done) | rfl) k_) ?_
  refine Go.st (fun _ => XS.aloadN W0.here W0.ex rfl (hb hby d24_0) rfl rfl) ?_
  show Go _ _ _ _ (T0.setTop (mkF m_ 1 #[.val (.ref q)] [(.ref q)]))
  refine W0.getF (cx.w 29 rfl) Via.refl F_value_q (hb hby d24_1) ?_
  intro T1 W1
  show Go _ _ _ _ (T1.setTop (mkF m_ 4 #[.val (.ref q)] [(.ref t)]))
  refine W1.alen V_t (hb hby d24_4) ?_
  refine Go.st (fun _ => XS.aloadN W1.here W1.ex rfl (hb hby d24_5) rfl rfl) ?_
  show Go _ _ _ _ (T1.setTop (mkF m_ 6 #[.val (.ref q)] [(.ref q), (.int (4 : Int32))]))
  refine W1.callV (y := Y24) (z := Y24) (cx.w 119 rfl) (cx.w 120 rfl) (cx.w 122 rfl) (cx.w 121 rfl) (cx.w 4 rfl) (cx.w 123 rfl) (W1.nf (cx.w 122 rfl)) (by decide) E_q (ct_cod1 cx W1.old q F_coder_q) all0 (by decide) (Wd := 1) (by decide) (k' := 0) (n' := 0) rfl rfl (by decide) (by decide) (by rw [hml]; rfl) (a := q) (argsL := []) (rest := [(.int (4 : Int32))]) rfl (lenOf pd1 rfl) rfl (Nat.le_of_eq rfl) (hb hby d24_6) ?_
  intro v2 vm2 T2 h2 L2 W2 q2
  obtain ⟨rfl, eh_⟩ := q2
  subst h2
  refine Go.st (fun _ => XS.ishr W2.here W2.ex rfl (hb hby d24_9) rfl) ?_
  show Go _ _ _ _ (T2.setTop (mkF m_ 10 #[.val (.ref q)] [(.int ((4 : Int32) >>> ((1 : Int32) &&& 31)))]))
  rw [show ((4 : Int32) >>> ((1 : Int32) &&& 31)) = (2 : Int32) from by decide]
  show Go _ _ _ _ (T2.setTop (mkF m_ 10 #[.val (.ref q)] [(.int (2 : Int32))]))
  exact W2.retI hret (hb hby d24_10) (by decide) (by decide) fun vr_ cr_ => ⟨rfl, rfl⟩
theorem ct_len04 {l : Launch} {Z a0 n0 g1 gf hxa khx} (cx : Ctx Z a0 n0 g1 gf hxa khx) {h : Heap} (O : Old Z n0 h) (q t : Addr) {kb : ClassId} {vs : List Value} (E_q : Exa Z h q "java/lang/String") (F_value_q : Fld Z h q "java/lang/String" "value" "[B" (.ref t)) (F_coder_q : Fld Z h q "java/lang/String" "coder" "B" (.int 0)) (V_t : Arv Z h t kb .byte 4 vs (.int 0)) :
    Ct l Z consts_1 n0 [] Y26 jdk_42_method_54_code 1 (some .int) ({ frames := 1, cells := 0, slots := 0, locals := 13 } : Room) #[(.ref q)] [] h (fun v _ h' => v = some (.int 4) ∧ h' = h) := by
  refine Ct.intro (plainFor_of_name pn1) O cx.ew ?_
  intro p_ e_ s_ m_ bl_ mt_ c_ T0 W0 hby hml hret hnm
  refine Go.st (fun t_ k_ => castTop (g' := mkF m_ 0 #[.val (.ref q)] []) (by first | (simp [entryFrame, mkF, argsToLocals, Value.category]; done) | rfl) k_) ?_
  refine Go.st (fun _ => XS.aloadN W0.here W0.ex rfl (hb hby d24_0) rfl rfl) ?_
  show Go _ _ _ _ (T0.setTop (mkF m_ 1 #[.val (.ref q)] [(.ref q)]))
  refine W0.getF (cx.w 29 rfl) Via.refl F_value_q (hb hby d24_1) ?_
  intro T1 W1
  show Go _ _ _ _ (T1.setTop (mkF m_ 4 #[.val (.ref q)] [(.ref t)]))
  refine W1.alen V_t (hb hby d24_4) ?_
  refine Go.st (fun _ => XS.aloadN W1.here W1.ex rfl (hb hby d24_5) rfl rfl) ?_
  show Go _ _ _ _ (T1.setTop (mkF m_ 6 #[.val (.ref q)] [(.ref q), (.int (4 : Int32))]))
  refine W1.callV (y := Y24) (z := Y24) (cx.w 119 rfl) (cx.w 120 rfl) (cx.w 122 rfl) (cx.w 121 rfl) (cx.w 4 rfl) (cx.w 123 rfl) (W1.nf (cx.w 122 rfl)) (by decide) E_q (ct_cod0 cx W1.old q F_coder_q) all0 (by decide) (Wd := 1) (by decide) (k' := 0) (n' := 0) rfl rfl (by decide) (by decide) (by rw [hml]; rfl) (a := q) (argsL := []) (rest := [(.int (4 : Int32))]) rfl (lenOf pd1 rfl) rfl (Nat.le_of_eq rfl) (hb hby d24_6) ?_
  intro v2 vm2 T2 h2 L2 W2 q2
  obtain ⟨rfl, eh_⟩ := q2
  subst h2
  refine Go.st (fun _ => XS.ishr W2.here W2.ex rfl (hb hby d24_9) rfl) ?_
  show Go _ _ _ _ (T2.setTop (mkF m_ 10 #[.val (.ref q)] [(.int ((4 : Int32) >>> ((0 : Int32) &&& 31)))]))
  rw [show ((4 : Int32) >>> ((0 : Int32) &&& 31)) = (4 : Int32) from by decide]
  show Go _ _ _ _ (T2.setTop (mkF m_ 10 #[.val (.ref q)] [(.int (4 : Int32))]))
  exact W2.retI hret (hb hby d24_10) (by decide) (by decide) fun vr_ cr_ => ⟨rfl, rfl⟩
theorem ct_ulen {l : Launch} {Z a0 n0 g1 gf hxa khx} (cx : Ctx Z a0 n0 g1 gf hxa khx) {h : Heap} (O : Old Z n0 h) (t : Addr) {kb : ClassId} {vs : List Value} (V_t : Arv Z h t kb .byte 4 vs (.int 0)) :
    Ct l Z consts_1 n0 [] Y34 jdk_52_method_6_code 1 (some .int) ({ frames := 0, cells := 0, slots := 0, locals := 0 } : Room) #[(.ref t)] [] h (fun v _ h' => v = some (.int 2) ∧ h' = h) := by
  refine Ct.intro (plainFor_of_name pn2) O cx.ew ?_
  intro p_ e_ s_ m_ bl_ mt_ c_ T0 W0 hby hml hret hnm
  refine Go.st (fun t_ k_ => castTop (g' := mkF m_ 0 #[.val (.ref t)] []) (by first | (simp [entryFrame, mkF, argsToLocals, Value.category]; done) | rfl) k_) ?_
  refine Go.st (fun _ => XS.aloadN W0.here W0.ex rfl (hb hby d30_0) rfl rfl) ?_
  show Go _ _ _ _ (T0.setTop (mkF m_ 1 #[.val (.ref t)] [(.ref t)]))
  refine W0.alen V_t (hb hby d30_1) ?_
  refine Go.st (fun _ => XS.iconst W0.here W0.ex rfl (hb hby d30_2)) ?_
  refine Go.st (fun _ => XS.ishr W0.here W0.ex rfl (hb hby d30_3) rfl) ?_
  show Go _ _ _ _ (T0.setTop (mkF m_ 4 #[.val (.ref t)] [(.int ((4 : Int32) >>> ((1 : Int32) &&& 31)))]))
  rw [show ((4 : Int32) >>> ((1 : Int32) &&& 31)) = (2 : Int32) from by decide]
  show Go _ _ _ _ (T0.setTop (mkF m_ 4 #[.val (.ref t)] [(.int (2 : Int32))]))
  exact W0.retI hret (hb hby d30_4) (by decide) (by decide) fun vr_ cr_ => ⟨rfl, rfl⟩
theorem ct_uchk0 {l : Launch} {Z a0 n0 g1 gf hxa khx} (cx : Ctx Z a0 n0 g1 gf hxa khx) {h : Heap} (O : Old Z n0 h) (t : Addr) {kb : ClassId} {vs : List Value} (V_t : Arv Z h t kb .byte 4 vs (.int 0)) :
    Ct l Z consts_1 n0 [] Y29 jdk_52_method_91_code 2 none ({ frames := 2, cells := 0, slots := 0, locals := 27 } : Room) #[(.int (0 : Int32)), (.ref t)] [] h (fun v _ h' => v = none ∧ h' = h) := by
  refine Ct.intro (plainFor_of_name pn2) O cx.ew ?_
  intro p_ e_ s_ m_ bl_ mt_ c_ T0 W0 hby hml hret hnm
  refine Go.st (fun t_ k_ => castTop (g' := mkF m_ 0 #[.val (.int (0 : Int32)), .val (.ref t)] []) (by first | (simp [entryFrame, mkF, argsToLocals, Value.category]; done) | rfl) k_) ?_
  refine Go.st (fun _ => XS.iloadN W0.here W0.ex rfl (hb hby d29_0) rfl) ?_
  refine Go.st (fun _ => XS.aloadN W0.here W0.ex rfl (hb hby d29_1) rfl rfl) ?_
  show Go _ _ _ _ (T0.setTop (mkF m_ 2 #[.val (.int (0 : Int32)), .val (.ref t)] [(.ref t), (.int (0 : Int32))]))
  refine W0.callS (y := Y34) (cx.w 140 rfl) (cx.w 141 rfl) (cx.w 18 rfl) (cx.w 142 rfl) (by decide) (ct_ulen cx W0.old t V_t) all0 (by decide) (Wd := 1) (by decide) (k' := 0) (n' := 0) rfl rfl (by decide) (by decide) (by rw [hml]; rfl) (argsL := [(.ref t)]) (rest := [(.int (0 : Int32))]) rfl (lenOf pd2 rfl) rfl (Nat.le_of_eq rfl) (hb hby d29_2) ?_
  intro v1 vm1 T1 h1 L1 W1 q1
  obtain ⟨rfl, eh_⟩ := q1
  subst h1
  show Go _ _ _ _ (T1.setTop (mkF m_ 5 #[.val (.int (0 : Int32)), .val (.ref t)] [(.int (2 : Int32)), (.int (0 : Int32))]))
  refine W1.callS (y := Y23) (cx.w 143 rfl) (cx.w 144 rfl) (cx.w 4 rfl) (cx.w 145 rfl) (by decide) (ct_chk cx W1.old (0 : Int32) 2 (by decide)) all0 (by decide) (Wd := 0) (by decide) (k' := 0) (n' := 0) rfl rfl (by decide) (by decide) (by rw [hml]; rfl) (argsL := [(.int (0 : Int32)), (.int (2 : Int32))]) (rest := []) rfl (lenOf pd3 rfl) rfl (Nat.le_of_eq rfl) (hb hby d29_5) ?_
  intro v2 vm2 T2 h2 L2 W2 q2
  obtain ⟨rfl, eh_⟩ := q2
  subst h2
  show Go _ _ _ _ (T2.setTop (mkF m_ 8 #[.val (.int (0 : Int32)), .val (.ref t)] []))
  exact W2.retV hret (hb hby d29_8) (by decide) (by decide) fun vr_ cr_ => ⟨rfl, rfl⟩
theorem ct_getc0 {l : Launch} {Z a0 n0 g1 gf hxa khx} (cx : Ctx Z a0 n0 g1 gf hxa khx) {h : Heap} (O : Old Z n0 h) (t : Addr) (x y : Int32) {kb : ClassId} (V_t : Arv Z h t kb .byte 4 [(.int (lo8 x)), (.int (hi8 x)), (.int (lo8 y)), (.int (hi8 y))] (.int 0)) (hX : R16 x) (hY : R16 y) :
    Ct l Z consts_1 n0 [] Y33 jdk_52_method_5_code 2 (some .char) ({ frames := 0, cells := 0, slots := 0, locals := 0 } : Room) #[(.ref t), (.int (0 : Int32))] [] h (fun v _ h' => v = some (.int x) ∧ h' = h) := by
  refine Ct.intro (plainFor_of_name pn2) O cx.ew ?_
  intro p_ e_ s_ m_ bl_ mt_ c_ T0 W0 hby hml hret hnm
  refine Go.st (fun t_ k_ => castTop (g' := mkF m_ 0 #[.val (.ref t), .val (.int (0 : Int32))] []) (by first | (simp [entryFrame, mkF, argsToLocals, Value.category]; done) | rfl) k_) ?_
  show Go _ _ _ _ (T0.setTop (mkF m_ 0 #[.val (.ref t), .val (.int (0 : Int32))] []))
  refine W0.getS (cx.w 78 rfl) Via.refl (cx.asr.ext W0.e0) (hb hby d16_0) ?_
  intro T1 W1
  refine Go.st (fun _ => XS.ifYes W1.here W1.ex rfl (pc0 := 3) (pc' := 28) rfl (hb hby d16_3) rfl ((if0 _ _).trans (feq ((by decide) : ¬ ((1 : Int32) = (0 : Int32)))).2) (by decide) (by decide)) ?_
  refine Go.st (fun _ => XS.iloadN W1.here W1.ex rfl (hb hby d16_28) rfl) ?_
  refine Go.st (fun _ => XS.iconst W1.here W1.ex rfl (hb hby d16_29)) ?_
  show Go _ _ _ _ (T1.setTop (mkF m_ 30 #[.val (.ref t), .val (.int (0 : Int32))] [(.int (1 : Int32)), (.int (0 : Int32))]))
  refine Go.st (fun _ => XS.ishl W1.here W1.ex rfl (hb hby d16_30) rfl) ?_
  show Go _ _ _ _ (T1.setTop (mkF m_ 31 #[.val (.ref t), .val (.int (0 : Int32))] [(.int ((0 : Int32) <<< ((1 : Int32) &&& 31)))]))
  rw [show ((0 : Int32) <<< ((1 : Int32) &&& 31)) = (0 : Int32) from by decide]
  refine Go.st (fun _ => XS.istoreN W1.here W1.ex rfl (hb hby d16_31) rfl (l' := #[.val (.ref t), .val (.int (0 : Int32))]) rfl) ?_
  refine Go.st (fun _ => XS.aloadN W1.here W1.ex rfl (hb hby d16_32) rfl rfl) ?_
  show Go _ _ _ _ (T1.setTop (mkF m_ 33 #[.val (.ref t), .val (.int (0 : Int32))] [(.ref t)]))
  refine Go.st (fun _ => XS.iloadN W1.here W1.ex rfl (hb hby d16_33) rfl) ?_
  refine Go.st (fun _ => XS.iinc W1.here W1.ex rfl (hb hby d16_34) rfl (l' := #[.val (.ref t), .val (.int (1 : Int32))]) rfl) ?_
  show Go _ _ _ _ (T1.setTop (mkF m_ 37 #[.val (.ref t), .val (.int (1 : Int32))] [(.int (0 : Int32)), (.ref t)]))
  refine W1.ldB V_t (j := (0 : Int32)) (v := (.int (lo8 x))) ⟨by decide, by decide⟩ rfl (hb hby d16_37) ?_
  refine Go.st (fun _ => XS.sipush W1.here W1.ex rfl (hb hby d16_38)) ?_
  refine Go.st (fun _ => XS.iand W1.here W1.ex rfl (hb hby d16_41) rfl) ?_
  show Go _ _ _ _ (T1.setTop (mkF m_ 42 #[.val (.ref t), .val (.int (1 : Int32))] [(.int ((lo8 x) &&& (255 : Int32)))]))
  refine W1.getS (cx.w 79 rfl) Via.refl (cx.hib.ext W1.e0) (hb hby d16_42) ?_
  intro T2 W2
  refine Go.st (fun _ => XS.ishl W2.here W2.ex rfl (hb hby d16_45) rfl) ?_
  refine Go.st (fun _ => XS.aloadN W2.here W2.ex rfl (hb hby d16_46) rfl rfl) ?_
  refine Go.st (fun _ => XS.iloadN W2.here W2.ex rfl (hb hby d16_47) rfl) ?_
  show Go _ _ _ _ (T2.setTop (mkF m_ 48 #[.val (.ref t), .val (.int (1 : Int32))] [(.int (1 : Int32)), (.ref t), (.int (((lo8 x) &&& (255 : Int32)) <<< ((0 : Int32) &&& 31)))]))
  refine W2.ldB V_t (j := (1 : Int32)) (v := (.int (hi8 x))) ⟨by decide, by decide⟩ rfl (hb hby d16_48) ?_
  refine Go.st (fun _ => XS.sipush W2.here W2.ex rfl (hb hby d16_49)) ?_
  refine Go.st (fun _ => XS.iand W2.here W2.ex rfl (hb hby d16_52) rfl) ?_
  show Go _ _ _ _ (T2.setTop (mkF m_ 53 #[.val (.ref t), .val (.int (1 : Int32))] [(.int ((hi8 x) &&& (255 : Int32))), (.int (((lo8 x) &&& (255 : Int32)) <<< ((0 : Int32) &&& 31)))]))
  refine W2.getS (cx.w 80 rfl) Via.refl (cx.lob.ext W2.e0) (hb hby d16_53) ?_
  intro T3 W3
  refine Go.st (fun _ => XS.ishl W3.here W3.ex rfl (hb hby d16_56) rfl) ?_
  refine Go.st (fun _ => XS.ior W3.here W3.ex rfl (hb hby d16_57) rfl) ?_
  refine Go.st (fun _ => XS.i2c W3.here W3.ex rfl (hb hby d16_58) rfl) ?_
  show Go _ _ _ _ (T3.setTop (mkF m_ 59 #[.val (.ref t), .val (.int (1 : Int32))] [(.int (((((lo8 x) &&& (255 : Int32)) <<< ((0 : Int32) &&& 31)) ||| (((hi8 x) &&& (255 : Int32)) <<< ((8 : Int32) &&& 31))).toUInt32.toUInt16.toUInt32.toInt32))]))
  exact W3.retN hret (by simp) (hb hby d16_59) (by decide) (by decide) fun vr_ cr_ => ⟨congrArg (fun z => some (Value.int z)) (getc hX), rfl⟩
theorem ct_uch0 {l : Launch} {Z a0 n0 g1 gf hxa khx} (cx : Ctx Z a0 n0 g1 gf hxa khx) {h : Heap} (O : Old Z n0 h) (t : Addr) (x y : Int32) {kb : ClassId} (V_t : Arv Z h t kb .byte 4 [(.int (lo8 x)), (.int (hi8 x)), (.int (lo8 y)), (.int (hi8 y))] (.int 0)) (hX : R16 x) (hY : R16 y) :
    Ct l Z consts_1 n0 [] Y28 jdk_52_method_83_code 2 (some .char) ({ frames := 3, cells := 0, slots := 0, locals := 40 } : Room) #[(.ref t), (.int (0 : Int32))] [] h (fun v _ h' => v = some (.int x) ∧ h' = h) := by
  refine Ct.intro (plainFor_of_name pn2) O cx.ew ?_
  intro p_ e_ s_ m_ bl_ mt_ c_ T0 W0 hby hml hret hnm
  refine Go.st (fun t_ k_ => castTop (g' := mkF m_ 0 #[.val (.ref t), .val (.int (0 : Int32))] []) (by first | (simp [entryFrame, mkF, argsToLocals, Value.category]; done) | rfl) k_) ?_
  refine Go.st (fun _ => XS.iloadN W0.here W0.ex rfl (hb hby d28_0) rfl) ?_
  refine Go.st (fun _ => XS.aloadN W0.here W0.ex rfl (hb hby d28_1) rfl rfl) ?_
  show Go _ _ _ _ (T0.setTop (mkF m_ 2 #[.val (.ref t), .val (.int (0 : Int32))] [(.ref t), (.int (0 : Int32))]))
  refine W0.callS (y := Y29) (cx.w 137 rfl) (cx.w 138 rfl) (cx.w 18 rfl) (cx.w 139 rfl) (by decide) (ct_uchk0 cx W0.old t V_t) all0 (by decide) (Wd := 0) (by decide) (k' := 0) (n' := 0) rfl rfl (by decide) (by decide) (by rw [hml]; rfl) (argsL := [(.int (0 : Int32)), (.ref t)]) (rest := []) rfl (lenOf pd4 rfl) rfl (Nat.le_of_eq rfl) (hb hby d28_2) ?_
  intro v1 vm1 T1 h1 L1 W1 q1
  obtain ⟨rfl, eh_⟩ := q1
  subst h1
  refine Go.st (fun _ => XS.aloadN W1.here W1.ex rfl (hb hby d28_5) rfl rfl) ?_
  refine Go.st (fun _ => XS.iloadN W1.here W1.ex rfl (hb hby d28_6) rfl) ?_
  show Go _ _ _ _ (T1.setTop (mkF m_ 7 #[.val (.ref t), .val (.int (0 : Int32))] [(.int (0 : Int32)), (.ref t)]))
  refine W1.callS (y := Y33) (cx.w 81 rfl) (cx.w 82 rfl) (cx.w 18 rfl) (cx.w 83 rfl) (by decide) (ct_getc0 cx W1.old t x y V_t hX hY) all0 (by decide) (Wd := 0) (by decide) (k' := 0) (n' := 0) rfl rfl (by decide) (by decide) (by rw [hml]; rfl) (argsL := [(.ref t), (.int (0 : Int32))]) (rest := []) rfl (lenOf pd5 rfl) rfl (Nat.le_of_eq rfl) (hb hby d28_7) ?_
  intro v2 vm2 T2 h2 L2 W2 q2
  obtain ⟨rfl, eh_⟩ := q2
  subst h2
  show Go _ _ _ _ (T2.setTop (mkF m_ 10 #[.val (.ref t), .val (.int (0 : Int32))] [(.int x)]))
  exact W2.retN hret (by simp) (hb hby d28_10) (by decide) (by decide) fun vr_ cr_ => ⟨congrArg (fun z => some (Value.int z)) (nar_char16 hX), rfl⟩
theorem ct_chU0 {l : Launch} {Z a0 n0 g1 gf hxa khx} (cx : Ctx Z a0 n0 g1 gf hxa khx) {h : Heap} (O : Old Z n0 h) (q t : Addr) (x y : Int32) {kb : ClassId} (E_q : Exa Z h q "java/lang/String") (F_value_q : Fld Z h q "java/lang/String" "value" "[B" (.ref t)) (F_coder_q : Fld Z h q "java/lang/String" "coder" "B" (.int 1)) (V_t : Arv Z h t kb .byte 4 [(.int (lo8 x)), (.int (hi8 x)), (.int (lo8 y)), (.int (hi8 y))] (.int 0)) (hX : R16 x) (hY : R16 y) :
    Ct l Z consts_1 n0 [] Y22 jdk_42_method_56_code 2 (some .char) ({ frames := 4, cells := 0, slots := 0, locals := 53 } : Room) #[(.ref q), (.int (0 : Int32))] [] h (fun v _ h' => v = some (.int x) ∧ h' = h) := by
  refine Ct.intro (plainFor_of_name pn1) O cx.ew ?_
  intro p_ e_ s_ m_ bl_ mt_ c_ T0 W0 hby hml hret hnm
  refine Go.st (fun t_ k_ => castTop (g' := mkF m_ 0 #[.val (.ref q), .val (.int (0 : Int32))] []) (by first | (simp [entryFrame, mkF, argsToLocals, Value.category]; done) | rfl) k_) ?_
  refine Go.st (fun _ => XS.aloadN W0.here W0.ex rfl (hb hby d26_0) rfl rfl) ?_
  show Go _ _ _ _ (T0.setTop (mkF m_ 1 #[.val (.ref q), .val (.int (0 : Int32))] [(.ref q)]))
  refine W0.callV (y := Y25) (z := Y25) (cx.w 129 rfl) (cx.w 130 rfl) (cx.w 132 rfl) (cx.w 131 rfl) (cx.w 4 rfl) (cx.w 133 rfl) (W0.nf (cx.w 132 rfl)) (by decide) E_q (ct_isl1 cx W0.old q F_coder_q) all0 (by decide) (Wd := 0) (by decide) (k' := 0) (n' := 0) rfl rfl (by decide) (by decide) (by rw [hml]; rfl) (a := q) (argsL := []) (rest := []) rfl (lenOf pd6 rfl) rfl (Nat.le_of_eq rfl) (hb hby d26_1) ?_
  intro v1 vm1 T1 h1 L1 W1 q1
  obtain ⟨rfl, eh_⟩ := q1
  subst h1
  refine Go.st (fun _ => XS.ifYes W1.here W1.ex rfl (pc0 := 4) (pc' := 16) rfl (hb hby d26_4) rfl ((if0 _ _).trans (teq (rfl : (0 : Int32) = (0 : Int32))).1) (by decide) (by decide)) ?_
  refine Go.st (fun _ => XS.aloadN W1.here W1.ex rfl (hb hby d26_16) rfl rfl) ?_
  show Go _ _ _ _ (T1.setTop (mkF m_ 17 #[.val (.ref q), .val (.int (0 : Int32))] [(.ref q)]))
  refine W1.getF (cx.w 29 rfl) Via.refl F_value_q (hb hby d26_17) ?_
  intro T2 W2
  refine Go.st (fun _ => XS.iloadN W2.here W2.ex rfl (hb hby d26_20) rfl) ?_
  show Go _ _ _ _ (T2.setTop (mkF m_ 21 #[.val (.ref q), .val (.int (0 : Int32))] [(.int (0 : Int32)), (.ref t)]))
  refine W2.callS (y := Y28) (cx.w 134 rfl) (cx.w 135 rfl) (cx.w 18 rfl) (cx.w 136 rfl) (by decide) (ct_uch0 cx W2.old t x y V_t hX hY) all0 (by decide) (Wd := 0) (by decide) (k' := 0) (n' := 0) rfl rfl (by decide) (by decide) (by rw [hml]; rfl) (argsL := [(.ref t), (.int (0 : Int32))]) (rest := []) rfl (lenOf pd5 rfl) rfl (Nat.le_of_eq rfl) (hb hby d26_21) ?_
  intro v3 vm3 T3 h3 L3 W3 q3
  obtain ⟨rfl, eh_⟩ := q3
  subst h3
  show Go _ _ _ _ (T3.setTop (mkF m_ 24 #[.val (.ref q), .val (.int (0 : Int32))] [(.int x)]))
  exact W3.retN hret (by simp) (hb hby d26_24) (by decide) (by decide) fun vr_ cr_ => ⟨congrArg (fun z => some (Value.int z)) (nar_char16 hX), rfl⟩
theorem ct_uchk1 {l : Launch} {Z a0 n0 g1 gf hxa khx} (cx : Ctx Z a0 n0 g1 gf hxa khx) {h : Heap} (O : Old Z n0 h) (t : Addr) {kb : ClassId} {vs : List Value} (V_t : Arv Z h t kb .byte 4 vs (.int 0)) :
    Ct l Z consts_1 n0 [] Y29 jdk_52_method_91_code 2 none ({ frames := 2, cells := 0, slots := 0, locals := 27 } : Room) #[(.int (1 : Int32)), (.ref t)] [] h (fun v _ h' => v = none ∧ h' = h) := by
  refine Ct.intro (plainFor_of_name pn2) O cx.ew ?_
  intro p_ e_ s_ m_ bl_ mt_ c_ T0 W0 hby hml hret hnm
  refine Go.st (fun t_ k_ => castTop (g' := mkF m_ 0 #[.val (.int (1 : Int32)), .val (.ref t)] []) (by first | (simp [entryFrame, mkF, argsToLocals, Value.category]; done) | rfl) k_) ?_
  refine Go.st (fun _ => XS.iloadN W0.here W0.ex rfl (hb hby d29_0) rfl) ?_
  refine Go.st (fun _ => XS.aloadN W0.here W0.ex rfl (hb hby d29_1) rfl rfl) ?_
  show Go _ _ _ _ (T0.setTop (mkF m_ 2 #[.val (.int (1 : Int32)), .val (.ref t)] [(.ref t), (.int (1 : Int32))]))
  refine W0.callS (y := Y34) (cx.w 140 rfl) (cx.w 141 rfl) (cx.w 18 rfl) (cx.w 142 rfl) (by decide) (ct_ulen cx W0.old t V_t) all0 (by decide) (Wd := 1) (by decide) (k' := 0) (n' := 0) rfl rfl (by decide) (by decide) (by rw [hml]; rfl) (argsL := [(.ref t)]) (rest := [(.int (1 : Int32))]) rfl (lenOf pd2 rfl) rfl (Nat.le_of_eq rfl) (hb hby d29_2) ?_
  intro v1 vm1 T1 h1 L1 W1 q1
  obtain ⟨rfl, eh_⟩ := q1
  subst h1
  show Go _ _ _ _ (T1.setTop (mkF m_ 5 #[.val (.int (1 : Int32)), .val (.ref t)] [(.int (2 : Int32)), (.int (1 : Int32))]))
  refine W1.callS (y := Y23) (cx.w 143 rfl) (cx.w 144 rfl) (cx.w 4 rfl) (cx.w 145 rfl) (by decide) (ct_chk cx W1.old (1 : Int32) 2 (by decide)) all0 (by decide) (Wd := 0) (by decide) (k' := 0) (n' := 0) rfl rfl (by decide) (by decide) (by rw [hml]; rfl) (argsL := [(.int (1 : Int32)), (.int (2 : Int32))]) (rest := []) rfl (lenOf pd3 rfl) rfl (Nat.le_of_eq rfl) (hb hby d29_5) ?_
  intro v2 vm2 T2 h2 L2 W2 q2
  obtain ⟨rfl, eh_⟩ := q2
  subst h2
  show Go _ _ _ _ (T2.setTop (mkF m_ 8 #[.val (.int (1 : Int32)), .val (.ref t)] []))
  exact W2.retV hret (hb hby d29_8) (by decide) (by decide) fun vr_ cr_ => ⟨rfl, rfl⟩
theorem ct_getc1 {l : Launch} {Z a0 n0 g1 gf hxa khx} (cx : Ctx Z a0 n0 g1 gf hxa khx) {h : Heap} (O : Old Z n0 h) (t : Addr) (x y : Int32) {kb : ClassId} (V_t : Arv Z h t kb .byte 4 [(.int (lo8 x)), (.int (hi8 x)), (.int (lo8 y)), (.int (hi8 y))] (.int 0)) (hX : R16 x) (hY : R16 y) :
    Ct l Z consts_1 n0 [] Y33 jdk_52_method_5_code 2 (some .char) ({ frames := 0, cells := 0, slots := 0, locals := 0 } : Room) #[(.ref t), (.int (1 : Int32))] [] h (fun v _ h' => v = some (.int y) ∧ h' = h) := by
  refine Ct.intro (plainFor_of_name pn2) O cx.ew ?_
  intro p_ e_ s_ m_ bl_ mt_ c_ T0 W0 hby hml hret hnm
  refine Go.st (fun t_ k_ => castTop (g' := mkF m_ 0 #[.val (.ref t), .val (.int (1 : Int32))] []) (by first | (simp [entryFrame, mkF, argsToLocals, Value.category]; done) | rfl) k_) ?_
  show Go _ _ _ _ (T0.setTop (mkF m_ 0 #[.val (.ref t), .val (.int (1 : Int32))] []))
  refine W0.getS (cx.w 78 rfl) Via.refl (cx.asr.ext W0.e0) (hb hby d16_0) ?_
  intro T1 W1
  refine Go.st (fun _ => XS.ifYes W1.here W1.ex rfl (pc0 := 3) (pc' := 28) rfl (hb hby d16_3) rfl ((if0 _ _).trans (feq ((by decide) : ¬ ((1 : Int32) = (0 : Int32)))).2) (by decide) (by decide)) ?_
  refine Go.st (fun _ => XS.iloadN W1.here W1.ex rfl (hb hby d16_28) rfl) ?_
  refine Go.st (fun _ => XS.iconst W1.here W1.ex rfl (hb hby d16_29)) ?_
  show Go _ _ _ _ (T1.setTop (mkF m_ 30 #[.val (.ref t), .val (.int (1 : Int32))] [(.int (1 : Int32)), (.int (1 : Int32))]))
  refine Go.st (fun _ => XS.ishl W1.here W1.ex rfl (hb hby d16_30) rfl) ?_
  show Go _ _ _ _ (T1.setTop (mkF m_ 31 #[.val (.ref t), .val (.int (1 : Int32))] [(.int ((1 : Int32) <<< ((1 : Int32) &&& 31)))]))
  rw [show ((1 : Int32) <<< ((1 : Int32) &&& 31)) = (2 : Int32) from by decide]
  refine Go.st (fun _ => XS.istoreN W1.here W1.ex rfl (hb hby d16_31) rfl (l' := #[.val (.ref t), .val (.int (2 : Int32))]) rfl) ?_
  refine Go.st (fun _ => XS.aloadN W1.here W1.ex rfl (hb hby d16_32) rfl rfl) ?_
  show Go _ _ _ _ (T1.setTop (mkF m_ 33 #[.val (.ref t), .val (.int (2 : Int32))] [(.ref t)]))
  refine Go.st (fun _ => XS.iloadN W1.here W1.ex rfl (hb hby d16_33) rfl) ?_
  refine Go.st (fun _ => XS.iinc W1.here W1.ex rfl (hb hby d16_34) rfl (l' := #[.val (.ref t), .val (.int (3 : Int32))]) rfl) ?_
  show Go _ _ _ _ (T1.setTop (mkF m_ 37 #[.val (.ref t), .val (.int (3 : Int32))] [(.int (2 : Int32)), (.ref t)]))
  refine W1.ldB V_t (j := (2 : Int32)) (v := (.int (lo8 y))) ⟨by decide, by decide⟩ rfl (hb hby d16_37) ?_
  refine Go.st (fun _ => XS.sipush W1.here W1.ex rfl (hb hby d16_38)) ?_
  refine Go.st (fun _ => XS.iand W1.here W1.ex rfl (hb hby d16_41) rfl) ?_
  show Go _ _ _ _ (T1.setTop (mkF m_ 42 #[.val (.ref t), .val (.int (3 : Int32))] [(.int ((lo8 y) &&& (255 : Int32)))]))
  refine W1.getS (cx.w 79 rfl) Via.refl (cx.hib.ext W1.e0) (hb hby d16_42) ?_
  intro T2 W2
  refine Go.st (fun _ => XS.ishl W2.here W2.ex rfl (hb hby d16_45) rfl) ?_
  refine Go.st (fun _ => XS.aloadN W2.here W2.ex rfl (hb hby d16_46) rfl rfl) ?_
  refine Go.st (fun _ => XS.iloadN W2.here W2.ex rfl (hb hby d16_47) rfl) ?_
  show Go _ _ _ _ (T2.setTop (mkF m_ 48 #[.val (.ref t), .val (.int (3 : Int32))] [(.int (3 : Int32)), (.ref t), (.int (((lo8 y) &&& (255 : Int32)) <<< ((0 : Int32) &&& 31)))]))
  refine W2.ldB V_t (j := (3 : Int32)) (v := (.int (hi8 y))) ⟨by decide, by decide⟩ rfl (hb hby d16_48) ?_
  refine Go.st (fun _ => XS.sipush W2.here W2.ex rfl (hb hby d16_49)) ?_
  refine Go.st (fun _ => XS.iand W2.here W2.ex rfl (hb hby d16_52) rfl) ?_
  show Go _ _ _ _ (T2.setTop (mkF m_ 53 #[.val (.ref t), .val (.int (3 : Int32))] [(.int ((hi8 y) &&& (255 : Int32))), (.int (((lo8 y) &&& (255 : Int32)) <<< ((0 : Int32) &&& 31)))]))
  refine W2.getS (cx.w 80 rfl) Via.refl (cx.lob.ext W2.e0) (hb hby d16_53) ?_
  intro T3 W3
  refine Go.st (fun _ => XS.ishl W3.here W3.ex rfl (hb hby d16_56) rfl) ?_
  refine Go.st (fun _ => XS.ior W3.here W3.ex rfl (hb hby d16_57) rfl) ?_
  refine Go.st (fun _ => XS.i2c W3.here W3.ex rfl (hb hby d16_58) rfl) ?_
  show Go _ _ _ _ (T3.setTop (mkF m_ 59 #[.val (.ref t), .val (.int (3 : Int32))] [(.int (((((lo8 y) &&& (255 : Int32)) <<< ((0 : Int32) &&& 31)) ||| (((hi8 y) &&& (255 : Int32)) <<< ((8 : Int32) &&& 31))).toUInt32.toUInt16.toUInt32.toInt32))]))
  exact W3.retN hret (by simp) (hb hby d16_59) (by decide) (by decide) fun vr_ cr_ => ⟨congrArg (fun z => some (Value.int z)) (getc hY), rfl⟩
theorem ct_uch1 {l : Launch} {Z a0 n0 g1 gf hxa khx} (cx : Ctx Z a0 n0 g1 gf hxa khx) {h : Heap} (O : Old Z n0 h) (t : Addr) (x y : Int32) {kb : ClassId} (V_t : Arv Z h t kb .byte 4 [(.int (lo8 x)), (.int (hi8 x)), (.int (lo8 y)), (.int (hi8 y))] (.int 0)) (hX : R16 x) (hY : R16 y) :
    Ct l Z consts_1 n0 [] Y28 jdk_52_method_83_code 2 (some .char) ({ frames := 3, cells := 0, slots := 0, locals := 40 } : Room) #[(.ref t), (.int (1 : Int32))] [] h (fun v _ h' => v = some (.int y) ∧ h' = h) := by
  refine Ct.intro (plainFor_of_name pn2) O cx.ew ?_
  intro p_ e_ s_ m_ bl_ mt_ c_ T0 W0 hby hml hret hnm
  refine Go.st (fun t_ k_ => castTop (g' := mkF m_ 0 #[.val (.ref t), .val (.int (1 : Int32))] []) (by first | (simp [entryFrame, mkF, argsToLocals, Value.category]; done) | rfl) k_) ?_
  refine Go.st (fun _ => XS.iloadN W0.here W0.ex rfl (hb hby d28_0) rfl) ?_
  refine Go.st (fun _ => XS.aloadN W0.here W0.ex rfl (hb hby d28_1) rfl rfl) ?_
  show Go _ _ _ _ (T0.setTop (mkF m_ 2 #[.val (.ref t), .val (.int (1 : Int32))] [(.ref t), (.int (1 : Int32))]))
  refine W0.callS (y := Y29) (cx.w 137 rfl) (cx.w 138 rfl) (cx.w 18 rfl) (cx.w 139 rfl) (by decide) (ct_uchk1 cx W0.old t V_t) all0 (by decide) (Wd := 0) (by decide) (k' := 0) (n' := 0) rfl rfl (by decide) (by decide) (by rw [hml]; rfl) (argsL := [(.int (1 : Int32)), (.ref t)]) (rest := []) rfl (lenOf pd4 rfl) rfl (Nat.le_of_eq rfl) (hb hby d28_2) ?_
  intro v1 vm1 T1 h1 L1 W1 q1
  obtain ⟨rfl, eh_⟩ := q1
  subst h1
  refine Go.st (fun _ => XS.aloadN W1.here W1.ex rfl (hb hby d28_5) rfl rfl) ?_
  refine Go.st (fun _ => XS.iloadN W1.here W1.ex rfl (hb hby d28_6) rfl) ?_
  show Go _ _ _ _ (T1.setTop (mkF m_ 7 #[.val (.ref t), .val (.int (1 : Int32))] [(.int (1 : Int32)), (.ref t)]))
  refine W1.callS (y := Y33) (cx.w 81 rfl) (cx.w 82 rfl) (cx.w 18 rfl) (cx.w 83 rfl) (by decide) (ct_getc1 cx W1.old t x y V_t hX hY) all0 (by decide) (Wd := 0) (by decide) (k' := 0) (n' := 0) rfl rfl (by decide) (by decide) (by rw [hml]; rfl) (argsL := [(.ref t), (.int (1 : Int32))]) (rest := []) rfl (lenOf pd5 rfl) rfl (Nat.le_of_eq rfl) (hb hby d28_7) ?_
  intro v2 vm2 T2 h2 L2 W2 q2
  obtain ⟨rfl, eh_⟩ := q2
  subst h2
  show Go _ _ _ _ (T2.setTop (mkF m_ 10 #[.val (.ref t), .val (.int (1 : Int32))] [(.int y)]))
  exact W2.retN hret (by simp) (hb hby d28_10) (by decide) (by decide) fun vr_ cr_ => ⟨congrArg (fun z => some (Value.int z)) (nar_char16 hY), rfl⟩
theorem ct_chU1 {l : Launch} {Z a0 n0 g1 gf hxa khx} (cx : Ctx Z a0 n0 g1 gf hxa khx) {h : Heap} (O : Old Z n0 h) (q t : Addr) (x y : Int32) {kb : ClassId} (E_q : Exa Z h q "java/lang/String") (F_value_q : Fld Z h q "java/lang/String" "value" "[B" (.ref t)) (F_coder_q : Fld Z h q "java/lang/String" "coder" "B" (.int 1)) (V_t : Arv Z h t kb .byte 4 [(.int (lo8 x)), (.int (hi8 x)), (.int (lo8 y)), (.int (hi8 y))] (.int 0)) (hX : R16 x) (hY : R16 y) :
    Ct l Z consts_1 n0 [] Y22 jdk_42_method_56_code 2 (some .char) ({ frames := 4, cells := 0, slots := 0, locals := 53 } : Room) #[(.ref q), (.int (1 : Int32))] [] h (fun v _ h' => v = some (.int y) ∧ h' = h) := by
  refine Ct.intro (plainFor_of_name pn1) O cx.ew ?_
  intro p_ e_ s_ m_ bl_ mt_ c_ T0 W0 hby hml hret hnm
  refine Go.st (fun t_ k_ => castTop (g' := mkF m_ 0 #[.val (.ref q), .val (.int (1 : Int32))] []) (by first | (simp [entryFrame, mkF, argsToLocals, Value.category]; done) | rfl) k_) ?_
  refine Go.st (fun _ => XS.aloadN W0.here W0.ex rfl (hb hby d26_0) rfl rfl) ?_
  show Go _ _ _ _ (T0.setTop (mkF m_ 1 #[.val (.ref q), .val (.int (1 : Int32))] [(.ref q)]))
  refine W0.callV (y := Y25) (z := Y25) (cx.w 129 rfl) (cx.w 130 rfl) (cx.w 132 rfl) (cx.w 131 rfl) (cx.w 4 rfl) (cx.w 133 rfl) (W0.nf (cx.w 132 rfl)) (by decide) E_q (ct_isl1 cx W0.old q F_coder_q) all0 (by decide) (Wd := 0) (by decide) (k' := 0) (n' := 0) rfl rfl (by decide) (by decide) (by rw [hml]; rfl) (a := q) (argsL := []) (rest := []) rfl (lenOf pd6 rfl) rfl (Nat.le_of_eq rfl) (hb hby d26_1) ?_
  intro v1 vm1 T1 h1 L1 W1 q1
  obtain ⟨rfl, eh_⟩ := q1
  subst h1
  refine Go.st (fun _ => XS.ifYes W1.here W1.ex rfl (pc0 := 4) (pc' := 16) rfl (hb hby d26_4) rfl ((if0 _ _).trans (teq (rfl : (0 : Int32) = (0 : Int32))).1) (by decide) (by decide)) ?_
  refine Go.st (fun _ => XS.aloadN W1.here W1.ex rfl (hb hby d26_16) rfl rfl) ?_
  show Go _ _ _ _ (T1.setTop (mkF m_ 17 #[.val (.ref q), .val (.int (1 : Int32))] [(.ref q)]))
  refine W1.getF (cx.w 29 rfl) Via.refl F_value_q (hb hby d26_17) ?_
  intro T2 W2
  refine Go.st (fun _ => XS.iloadN W2.here W2.ex rfl (hb hby d26_20) rfl) ?_
  show Go _ _ _ _ (T2.setTop (mkF m_ 21 #[.val (.ref q), .val (.int (1 : Int32))] [(.int (1 : Int32)), (.ref t)]))
  refine W2.callS (y := Y28) (cx.w 134 rfl) (cx.w 135 rfl) (cx.w 18 rfl) (cx.w 136 rfl) (by decide) (ct_uch1 cx W2.old t x y V_t hX hY) all0 (by decide) (Wd := 0) (by decide) (k' := 0) (n' := 0) rfl rfl (by decide) (by decide) (by rw [hml]; rfl) (argsL := [(.ref t), (.int (1 : Int32))]) (rest := []) rfl (lenOf pd5 rfl) rfl (Nat.le_of_eq rfl) (hb hby d26_21) ?_
  intro v3 vm3 T3 h3 L3 W3 q3
  obtain ⟨rfl, eh_⟩ := q3
  subst h3
  show Go _ _ _ _ (T3.setTop (mkF m_ 24 #[.val (.ref q), .val (.int (1 : Int32))] [(.int y)]))
  exact W3.retN hret (by simp) (hb hby d26_24) (by decide) (by decide) fun vr_ cr_ => ⟨congrArg (fun z => some (Value.int z)) (nar_char16 hY), rfl⟩
theorem ct_l1 {l : Launch} {Z a0 n0 g1 gf hxa khx} (cx : Ctx Z a0 n0 g1 gf hxa khx) {h : Heap} (O : Old Z n0 h) (t : Addr) (i n b r : Int32) {kb : ClassId} {vs : List Value} (V_t : Arv Z h t kb .byte n vs (.int 0)) (hi : ¬ i < 0 ∧ i < n) (hv : vs.getD i.toNatClampNeg (.int 0) = .int b) (hr : nar .char (b &&& (255 : Int32)) = r) :
    Ct l Z consts_1 n0 [] (⟨"java/lang/StringLatin1", "charAt", "([BI)C"⟩ : MethodName) jdk_43_method_2_code 2 (some .char) ({ frames := 2, cells := 0, slots := 0, locals := 27 } : Room) #[(.ref t), (.int i)] [] h (fun v _ h' => v = some (.int r) ∧ h' = h) := by
  refine Ct.intro (plainFor_of_name pn3) O cx.ew ?_
  intro p_ e_ s_ m_ bl_ mt_ c_ T0 W0 hby hml hret hnm
  refine Go.st (fun t_ k_ => castTop (g' := mkF m_ 0 #[.val (.ref t), .val (.int i)] []) (by first | (simp [entryFrame, mkF, argsToLocals, Value.category]; done) | rfl) k_) ?_
  refine Go.st (fun _ => XS.iloadN W0.here W0.ex rfl (hb hby d37_0) rfl) ?_
  refine Go.st (fun _ => XS.aloadN W0.here W0.ex rfl (hb hby d37_1) rfl rfl) ?_
  show Go _ _ _ _ (T0.setTop (mkF m_ 2 #[.val (.ref t), .val (.int i)] [(.ref t), (.int i)]))
  refine W0.alen V_t (hb hby d37_2) ?_
  show Go _ _ _ _ (T0.setTop (mkF m_ 3 #[.val (.ref t), .val (.int i)] [(.int n), (.int i)]))
  refine W0.callS (y := Y23) (cx.w 176 rfl) (cx.w 144 rfl) (cx.w 4 rfl) (cx.w 145 rfl) (by decide) (ct_chk cx W0.old i n hi) all0 (by decide) (Wd := 0) (by decide) (k' := 0) (n' := 0) rfl rfl (by decide) (by decide) (by rw [hml]; rfl) (argsL := [(.int i), (.int n)]) (rest := []) rfl (lenOf pd3 rfl) rfl (Nat.le_of_eq rfl) (hb hby d37_3) ?_
  intro v1 vm1 T1 h1 L1 W1 q1
  obtain ⟨rfl, eh_⟩ := q1
  subst h1
  refine Go.st (fun _ => XS.aloadN W1.here W1.ex rfl (hb hby d37_6) rfl rfl) ?_
  refine Go.st (fun _ => XS.iloadN W1.here W1.ex rfl (hb hby d37_7) rfl) ?_
  show Go _ _ _ _ (T1.setTop (mkF m_ 8 #[.val (.ref t), .val (.int i)] [(.int i), (.ref t)]))
  refine W1.ldB V_t (j := i) (v := .int b) hi hv (hb hby d37_8) ?_
  refine Go.st (fun _ => XS.sipush W1.here W1.ex rfl (hb hby d37_9)) ?_
  refine Go.st (fun _ => XS.iand W1.here W1.ex rfl (hb hby d37_12) rfl) ?_
  show Go _ _ _ _ (T1.setTop (mkF m_ 13 #[.val (.ref t), .val (.int i)] [(.int (b &&& (255 : Int32)))]))
  refine Go.st (fun _ => XS.i2c W1.here W1.ex rfl (hb hby d37_13) rfl) ?_
  show Go _ _ _ _ (T1.setTop (mkF m_ 14 #[.val (.ref t), .val (.int i)] [(.int ((b &&& (255 : Int32)).toUInt32.toUInt16.toUInt32.toInt32))]))
  rw [i2c_id (and255 b)]
  show Go _ _ _ _ (T1.setTop (mkF m_ 14 #[.val (.ref t), .val (.int i)] [(.int (b &&& (255 : Int32)))]))
  exact W1.retN hret (by simp) (hb hby d37_14) (by decide) (by decide) fun vr_ cr_ => ⟨congrArg (fun z => some (Value.int z)) hr, rfl⟩
theorem ct_chL {l : Launch} {Z a0 n0 g1 gf hxa khx} (cx : Ctx Z a0 n0 g1 gf hxa khx) {h : Heap} (O : Old Z n0 h) (q t : Addr) (i n b r : Int32) {kb : ClassId} {vs : List Value} (E_q : Exa Z h q "java/lang/String") (F_value_q : Fld Z h q "java/lang/String" "value" "[B" (.ref t)) (F_coder_q : Fld Z h q "java/lang/String" "coder" "B" (.int 0)) (V_t : Arv Z h t kb .byte n vs (.int 0)) (hi : ¬ i < 0 ∧ i < n) (hv : vs.getD i.toNatClampNeg (.int 0) = .int b) (hr : nar .char (b &&& (255 : Int32)) = r) (hq : nar .char r = r) :
    Ct l Z consts_1 n0 [] Y22 jdk_42_method_56_code 2 (some .char) ({ frames := 4, cells := 0, slots := 0, locals := 53 } : Room) #[(.ref q), (.int i)] [] h (fun v _ h' => v = some (.int r) ∧ h' = h) := by
  refine Ct.intro (plainFor_of_name pn1) O cx.ew ?_
  intro p_ e_ s_ m_ bl_ mt_ c_ T0 W0 hby hml hret hnm
  refine Go.st (fun t_ k_ => castTop (g' := mkF m_ 0 #[.val (.ref q), .val (.int i)] []) (by first | (simp [entryFrame, mkF, argsToLocals, Value.category]; done) | rfl) k_) ?_
  refine Go.st (fun _ => XS.aloadN W0.here W0.ex rfl (hb hby d26_0) rfl rfl) ?_
  show Go _ _ _ _ (T0.setTop (mkF m_ 1 #[.val (.ref q), .val (.int i)] [(.ref q)]))
  refine W0.callV (y := Y25) (z := Y25) (cx.w 129 rfl) (cx.w 130 rfl) (cx.w 132 rfl) (cx.w 131 rfl) (cx.w 4 rfl) (cx.w 133 rfl) (W0.nf (cx.w 132 rfl)) (by decide) E_q (ct_isl0 cx W0.old q F_coder_q) all0 (by decide) (Wd := 0) (by decide) (k' := 0) (n' := 0) rfl rfl (by decide) (by decide) (by rw [hml]; rfl) (a := q) (argsL := []) (rest := []) rfl (lenOf pd6 rfl) rfl (Nat.le_of_eq rfl) (hb hby d26_1) ?_
  intro v1 vm1 T1 h1 L1 W1 q1
  obtain ⟨rfl, eh_⟩ := q1
  subst h1
  refine Go.st (fun _ => XS.ifNo W1.here W1.ex rfl (hb hby d26_4) rfl ((if0 _ _).trans (feq ((by decide) : ¬ ((1 : Int32) = (0 : Int32)))).1)) ?_
  refine Go.st (fun _ => XS.aloadN W1.here W1.ex rfl (hb hby d26_7) rfl rfl) ?_
  show Go _ _ _ _ (T1.setTop (mkF m_ 8 #[.val (.ref q), .val (.int i)] [(.ref q)]))
  refine W1.getF (cx.w 29 rfl) Via.refl F_value_q (hb hby d26_8) ?_
  intro T2 W2
  refine Go.st (fun _ => XS.iloadN W2.here W2.ex rfl (hb hby d26_11) rfl) ?_
  show Go _ _ _ _ (T2.setTop (mkF m_ 12 #[.val (.ref q), .val (.int i)] [(.int i), (.ref t)]))
  refine W2.callS (y := (⟨"java/lang/StringLatin1", "charAt", "([BI)C"⟩ : MethodName)) (cx.w 172 rfl) (cx.w 173 rfl) (cx.w 174 rfl) (cx.w 175 rfl) (by decide) (ct_l1 cx W2.old t i n b r V_t hi hv hr) all0 (by decide) (Wd := 0) (by decide) (k' := 0) (n' := 0) rfl rfl (by decide) (by decide) (by rw [hml]; rfl) (argsL := [(.ref t), (.int i)]) (rest := []) rfl (lenOf pd5 rfl) rfl (Nat.le_of_eq rfl) (hb hby d26_12) ?_
  intro v3 vm3 T3 h3 L3 W3 q3
  obtain ⟨rfl, eh_⟩ := q3
  subst h3
  show Go _ _ _ _ (T3.setTop (mkF m_ 15 #[.val (.ref q), .val (.int i)] [(.int r)]))
  exact W3.retN hret (by simp) (hb hby d26_15) (by decide) (by decide) fun vr_ cr_ => ⟨congrArg (fun z => some (Value.int z)) hq, rfl⟩
theorem ct_lenS {l : Launch} {Z a0 n0 g1 gf hxa khx} (cx : Ctx Z a0 n0 g1 gf hxa khx) {h : Heap} (O : Old Z n0 h) (q t : Addr) (x y : Int32) (S_q : Str2 Z h q t x y) :
    Ct l Z consts_1 n0 [] Y26 jdk_42_method_54_code 1 (some .int) ({ frames := 1, cells := 0, slots := 0, locals := 13 } : Room) #[(.ref q)] [] h (fun v _ h' => v = some (.int 2) ∧ h' = h) := by
  obtain ⟨E, F, ⟨C, ⟨kb, V⟩, -, -⟩ | ⟨C, kb, V⟩⟩ := S_q
  · exact ct_len02 cx O q t E F C V
  · exact ct_len14 cx O q t E F C V
theorem ct_chS0 {l : Launch} {Z a0 n0 g1 gf hxa khx} (cx : Ctx Z a0 n0 g1 gf hxa khx) {h : Heap} (O : Old Z n0 h) (q t : Addr) (x y : Int32) (S_q : Str2 Z h q t x y) (hX : R16 x) (hY : R16 y) :
    Ct l Z consts_1 n0 [] Y22 jdk_42_method_56_code 2 (some .char) ({ frames := 4, cells := 0, slots := 0, locals := 53 } : Room) #[(.ref q), (.int (0 : Int32))] [] h (fun v _ h' => v = some (.int x) ∧ h' = h) := by
  obtain ⟨E, F, ⟨C, ⟨kb, V⟩, z1, z2⟩ | ⟨C, kb, V⟩⟩ := S_q
  · exact ct_chL cx O q t (0 : Int32) 2 (lo8 x) x E F C V (by decide) rfl (getl hX z1) (nar_char16 hX)
  · exact ct_chU0 cx O q t x y E F C V hX hY
theorem ct_chS1 {l : Launch} {Z a0 n0 g1 gf hxa khx} (cx : Ctx Z a0 n0 g1 gf hxa khx) {h : Heap} (O : Old Z n0 h) (q t : Addr) (x y : Int32) (S_q : Str2 Z h q t x y) (hX : R16 x) (hY : R16 y) :
    Ct l Z consts_1 n0 [] Y22 jdk_42_method_56_code 2 (some .char) ({ frames := 4, cells := 0, slots := 0, locals := 53 } : Room) #[(.ref q), (.int (1 : Int32))] [] h (fun v _ h' => v = some (.int y) ∧ h' = h) := by
  obtain ⟨E, F, ⟨C, ⟨kb, V⟩, z1, z2⟩ | ⟨C, kb, V⟩⟩ := S_q
  · exact ct_chL cx O q t (1 : Int32) 2 (lo8 y) y E F C V (by decide) rfl (getl hY z2) (nar_char16 hY)
  · exact ct_chU1 cx O q t x y E F C V hX hY
theorem ct_nbl {l : Launch} {Z a0 n0 g1 gf hxa khx} (cx : Ctx Z a0 n0 g1 gf hxa khx) {h : Heap} (O : Old Z n0 h)   :
    Ct l Z consts_1 n0 [] (⟨"java/lang/StringUTF16", "newBytesLength", "(I)I"⟩ : MethodName) jdk_52_method_3_code 1 (some .int) ({ frames := 0, cells := 0, slots := 0, locals := 0 } : Room) #[(.int (2 : Int32))] [] h (fun v _ h' => v = some (.int 4) ∧ h' = h) := by
  refine Ct.intro (plainFor_of_name pn2) O cx.ew ?_
  intro p_ e_ s_ m_ bl_ mt_ c_ T0 W0 hby hml hret hnm
  refine Go.st (fun t_ k_ => castTop (g' := mkF m_ 0 #[.val (.int (2 : Int32))] []) (by first | (simp [entryFrame, mkF, argsToLocals, Value.category]; done) | rfl) k_) ?_
  refine Go.st (fun _ => XS.iloadN W0.here W0.ex rfl (hb hby d14_0) rfl) ?_
  refine Go.st (fun _ => XS.ifYes W0.here W0.ex rfl (pc0 := 1) (pc' := 12) rfl (hb hby d14_1) rfl ((if0 _ _).trans (flt ((by decide) : ¬ ((2 : Int32) < (0 : Int32)))).2.1) (by decide) (by decide)) ?_
  refine Go.st (fun _ => XS.iloadN W0.here W0.ex rfl (hb hby d14_12) rfl) ?_
  show Go _ _ _ _ (T0.setTop (mkF m_ 13 #[.val (.int (2 : Int32))] [(.int (2 : Int32))]))
  refine Go.st (fun _ => W0.X.ldcInt W0.ex W0.ho (mvT W0.hZ (cx.w 74 rfl)) (g := (mkF m_ 13 #[.val (.int (2 : Int32))] [(.int (2 : Int32))])) rfl (hb hby d14_13) _) ?_
  refine Go.st (fun _ => XS.icmpYes W0.here W0.ex rfl (pc0 := 15) (pc' := 55) rfl (hb hby d14_15) rfl (tlt ((by decide) : (2 : Int32) < (1073741823 : Int32))).1 (by decide) (by decide)) ?_
  refine Go.st (fun _ => XS.iloadN W0.here W0.ex rfl (hb hby d14_55) rfl) ?_
  show Go _ _ _ _ (T0.setTop (mkF m_ 56 #[.val (.int (2 : Int32))] [(.int (2 : Int32))]))
  refine Go.st (fun _ => XS.iconst W0.here W0.ex rfl (hb hby d14_56)) ?_
  refine Go.st (fun _ => XS.ishl W0.here W0.ex rfl (hb hby d14_57) rfl) ?_
  show Go _ _ _ _ (T0.setTop (mkF m_ 58 #[.val (.int (2 : Int32))] [(.int ((2 : Int32) <<< ((1 : Int32) &&& 31)))]))
  rw [show ((2 : Int32) <<< ((1 : Int32) &&& 31)) = (4 : Int32) from by decide]
  show Go _ _ _ _ (T0.setTop (mkF m_ 58 #[.val (.int (2 : Int32))] [(.int (4 : Int32))]))
  exact W0.retI hret (hb hby d14_58) (by decide) (by decide) fun vr_ cr_ => ⟨rfl, rfl⟩
theorem ct_nbf {l : Launch} {Z a0 n0 g1 gf hxa khx} (cx : Ctx Z a0 n0 g1 gf hxa khx) {h : Heap} (O : Old Z n0 h)   :
    Ct l Z consts_1 n0 [] (⟨"java/lang/StringUTF16", "newBytesFor", "(I)[B"⟩ : MethodName) jdk_52_method_2_code 1 (some (.array .byte)) ({ frames := 1, cells := 1, slots := 4, locals := 12 } : Room) #[(.int (2 : Int32))] [] h (fun v vm h' => ∃ (t : Addr) (kb : ClassId), v = some (.ref t) ∧ h.size ≤ t ∧ n0 ≤ t ∧ Keep h h' [] ∧ Arv Z h' t kb .byte 4 [(.int 0), (.int 0), (.int 0), (.int 0)] (.int 0) ∧ Safe Z consts_1 vm h' t) := by
  refine Ct.intro (plainFor_of_name pn2) O cx.ew ?_
  intro p_ e_ s_ m_ bl_ mt_ c_ T0 W0 hby hml hret hnm
  refine Go.st (fun t_ k_ => castTop (g' := mkF m_ 0 #[.val (.int (2 : Int32))] []) (by first | (simp [entryFrame, mkF, argsToLocals, Value.category]; done) | rfl) k_) ?_
  show Go _ _ _ _ (T0.setTop (mkF m_ 0 #[.val (.int (2 : Int32))] []))
  have K0 : Keep h h [] := Keep.refl _ _
  refine Go.st (fun _ => XS.iloadN W0.here W0.ex rfl (hb hby d13_0) rfl) ?_
  show Go _ _ _ _ (T0.setTop (mkF m_ 1 #[.val (.int (2 : Int32))] [(.int (2 : Int32))]))
  refine W0.callS (y := (⟨"java/lang/StringUTF16", "newBytesLength", "(I)I"⟩ : MethodName)) (cx.w 71 rfl) (cx.w 72 rfl) (cx.w 18 rfl) (cx.w 73 rfl) (by decide) (ct_nbl cx W0.old ) all0 (by decide) (Wd := 0) (by decide) (k' := 0) (n' := 0) rfl rfl (by decide) (by decide) (by rw [hml]; rfl) (argsL := [(.int (2 : Int32))]) (rest := []) rfl (lenOf pd7 rfl) rfl (Nat.le_of_eq rfl) (hb hby d13_1) ?_
  intro v1 vm1 T1 h1 L1 W1 q1
  obtain ⟨rfl, eh_⟩ := q1
  subst h1
  show Go _ _ _ _ (T1.setTop (mkF m_ 4 #[.val (.int (2 : Int32))] [(.int (4 : Int32))]))
  refine W1.newP (ty := .byte) (dv := .int 0) rfl rfl (cx.w 20 rfl) (hb hby d13_4) (z := (4 : Int32)) (by decide) (cap := 4) (by decide) (by decide) (k' := 1) (n' := 4) rfl rfl (by decide) (by decide) ?_
  intro T2 h2 b2 kA_b2 hb2 g_b2 W2 E2 V_b2
  have sz_b2 : h.size ≤ b2 := Nat.le_trans K0.1 (Nat.le_of_eq hb2.symm)
  replace K0 := K0.ext E2
  replace V_b2 : Arv Z h2 b2 kA_b2 .byte (4 : Int32) [(.int 0), (.int 0), (.int 0), (.int 0)] (.int 0) := V_b2
  show Go _ _ _ _ (T2.setTop (mkF m_ 6 #[.val (.int (2 : Int32))] [(.ref b2)]))
  exact W2.retA hret rfl rfl (hb hby d13_6) (by decide) (by decide) fun vr_ cr_ => ⟨b2, kA_b2, rfl, sz_b2, g_b2, K0, V_b2, (W2.sf.chr cr_ _ (List.mem_of_getElem? (i := 0) rfl)).1⟩
theorem ct_putc0 {l : Launch} {Z a0 n0 g1 gf hxa khx} (cx : Ctx Z a0 n0 g1 gf hxa khx) {h : Heap} (O : Old Z n0 h) (t : Addr) (x u v : Int32) {kb : ClassId} (V_t : Arv Z h t kb .byte 4 [(.int 0), (.int 0), (.int 0), (.int 0)] (.int 0)) (g_t : n0 ≤ t) :
    Ct l Z consts_1 n0 [] Y37 jdk_52_method_4_code 3 none ({ frames := 0, cells := 0, slots := 0, locals := 0 } : Room) #[(.ref t), (.int (0 : Int32)), (.int x)] [t] h (fun v' _ h' => v' = none ∧ Keep h h' [t] ∧ Arv Z h' t kb .byte 4 [(.int (lo8 x)), (.int (hi8 x)), (.int 0), (.int 0)] (.int 0)) := by
  refine Ct.intro (plainFor_of_name pn2) O cx.ew ?_
  intro p_ e_ s_ m_ bl_ mt_ c_ T0 W0 hby hml hret hnm
  refine Go.st (fun t_ k_ => castTop (g' := mkF m_ 0 #[.val (.ref t), .val (.int (0 : Int32)), .val (.int x)] []) (by first | (simp [entryFrame, mkF, argsToLocals, Value.category]; done) | rfl) k_) ?_
  show Go _ _ _ _ (T0.setTop (mkF m_ 0 #[.val (.ref t), .val (.int (0 : Int32)), .val (.int x)] []))
  have K0 : Keep h h [t] := Keep.refl _ _
  refine W0.getS (cx.w 78 rfl) Via.refl (cx.asr.ext W0.e0) (hb hby d15_0) ?_
  intro T1 W1
  refine Go.st (fun _ => XS.ifYes W1.here W1.ex rfl (pc0 := 3) (pc' := 28) rfl (hb hby d15_3) rfl ((if0 _ _).trans (feq ((by decide) : ¬ ((1 : Int32) = (0 : Int32)))).2) (by decide) (by decide)) ?_
  refine Go.st (fun _ => XS.iloadN W1.here W1.ex rfl (hb hby d15_28) rfl) ?_
  refine Go.st (fun _ => XS.iconst W1.here W1.ex rfl (hb hby d15_29)) ?_
  show Go _ _ _ _ (T1.setTop (mkF m_ 30 #[.val (.ref t), .val (.int (0 : Int32)), .val (.int x)] [(.int (1 : Int32)), (.int (0 : Int32))]))
  refine Go.st (fun _ => XS.ishl W1.here W1.ex rfl (hb hby d15_30) rfl) ?_
  show Go _ _ _ _ (T1.setTop (mkF m_ 31 #[.val (.ref t), .val (.int (0 : Int32)), .val (.int x)] [(.int ((0 : Int32) <<< ((1 : Int32) &&& 31)))]))
  rw [show ((0 : Int32) <<< ((1 : Int32) &&& 31)) = (0 : Int32) from by decide]
  refine Go.st (fun _ => XS.istoreN W1.here W1.ex rfl (hb hby d15_31) rfl (l' := #[.val (.ref t), .val (.int (0 : Int32)), .val (.int x)]) rfl) ?_
  refine Go.st (fun _ => XS.aloadN W1.here W1.ex rfl (hb hby d15_32) rfl rfl) ?_
  show Go _ _ _ _ (T1.setTop (mkF m_ 33 #[.val (.ref t), .val (.int (0 : Int32)), .val (.int x)] [(.ref t)]))
  refine Go.st (fun _ => XS.iloadN W1.here W1.ex rfl (hb hby d15_33) rfl) ?_
  refine Go.st (fun _ => XS.iinc W1.here W1.ex rfl (hb hby d15_34) rfl (l' := #[.val (.ref t), .val (.int (1 : Int32)), .val (.int x)]) rfl) ?_
  refine Go.st (fun _ => XS.iloadN W1.here W1.ex rfl (hb hby d15_37) rfl) ?_
  show Go _ _ _ _ (T1.setTop (mkF m_ 38 #[.val (.ref t), .val (.int (1 : Int32)), .val (.int x)] [(.int x), (.int (0 : Int32)), (.ref t)]))
  refine W1.getS (cx.w 79 rfl) Via.refl (cx.hib.ext W1.e0) (hb hby d15_38) ?_
  intro T2 W2
  refine Go.st (fun _ => XS.ishr W2.here W2.ex rfl (hb hby d15_41) rfl) ?_
  refine Go.st (fun _ => XS.i2b W2.here W2.ex rfl (hb hby d15_42) rfl) ?_
  show Go _ _ _ _ (T2.setTop (mkF m_ 43 #[.val (.ref t), .val (.int (1 : Int32)), .val (.int x)] [(.int ((x >>> ((0 : Int32) &&& 31)).toInt8.toInt32)), (.int (0 : Int32)), (.ref t)]))
  refine W2.stB V_t (j := (0 : Int32)) (x := ((x >>> ((0 : Int32) &&& 31)).toInt8.toInt32)) ⟨by decide, by decide⟩ 0 rfl (Nat.le_of_ble_eq_true rfl) (List.mem_of_getElem? (i := 0) rfl) g_t (hb hby d15_43) ?_
  intro T3 h3 L3 W3 w3 V_new
  replace K0 := K0.wr w3 (Or.inl (List.mem_of_getElem? (i := 0) rfl))
  replace V_t : Arv Z h3 t kb .byte (4 : Int32) [(.int (nar .byte ((x >>> ((0 : Int32) &&& 31)).toInt8.toInt32))), (.int 0), (.int 0), (.int 0)] (.int 0) := V_new
  clear V_new
  refine Go.st (fun _ => XS.aloadN W3.here W3.ex rfl (hb hby d15_44) rfl rfl) ?_
  refine Go.st (fun _ => XS.iloadN W3.here W3.ex rfl (hb hby d15_45) rfl) ?_
  refine Go.st (fun _ => XS.iloadN W3.here W3.ex rfl (hb hby d15_46) rfl) ?_
  show Go _ _ _ _ (T3.setTop (mkF m_ 47 #[.val (.ref t), .val (.int (1 : Int32)), .val (.int x)] [(.int x), (.int (1 : Int32)), (.ref t)]))
  refine W3.getS (cx.w 80 rfl) Via.refl (cx.lob.ext W3.e0) (hb hby d15_47) ?_
  intro T4 W4
  refine Go.st (fun _ => XS.ishr W4.here W4.ex rfl (hb hby d15_50) rfl) ?_
  refine Go.st (fun _ => XS.i2b W4.here W4.ex rfl (hb hby d15_51) rfl) ?_
  show Go _ _ _ _ (T4.setTop (mkF m_ 52 #[.val (.ref t), .val (.int (1 : Int32)), .val (.int x)] [(.int ((x >>> ((8 : Int32) &&& 31)).toInt8.toInt32)), (.int (1 : Int32)), (.ref t)]))
  refine W4.stB V_t (j := (1 : Int32)) (x := ((x >>> ((8 : Int32) &&& 31)).toInt8.toInt32)) ⟨by decide, by decide⟩ 1 rfl (Nat.le_of_ble_eq_true rfl) (List.mem_of_getElem? (i := 0) rfl) g_t (hb hby d15_52) ?_
  intro T5 h5 L5 W5 w5 V_new
  replace K0 := K0.wr w5 (Or.inl (List.mem_of_getElem? (i := 0) rfl))
  replace V_t : Arv Z h5 t kb .byte (4 : Int32) [(.int (nar .byte ((x >>> ((0 : Int32) &&& 31)).toInt8.toInt32))), (.int (nar .byte ((x >>> ((8 : Int32) &&& 31)).toInt8.toInt32))), (.int 0), (.int 0)] (.int 0) := V_new
  clear V_new
  show Go _ _ _ _ (T5.setTop (mkF m_ 53 #[.val (.ref t), .val (.int (1 : Int32)), .val (.int x)] []))
  simp only [nar_byte, StrChars.shr0] at V_t
  exact W5.retV hret (hb hby d15_53) (by decide) (by decide) fun vr_ cr_ => ⟨rfl, K0, V_t⟩
theorem ct_putc1 {l : Launch} {Z a0 n0 g1 gf hxa khx} (cx : Ctx Z a0 n0 g1 gf hxa khx) {h : Heap} (O : Old Z n0 h) (t : Addr) (x u v : Int32) {kb : ClassId} (V_t : Arv Z h t kb .byte 4 [(.int u), (.int v), (.int 0), (.int 0)] (.int 0)) (g_t : n0 ≤ t) :
    Ct l Z consts_1 n0 [] Y37 jdk_52_method_4_code 3 none ({ frames := 0, cells := 0, slots := 0, locals := 0 } : Room) #[(.ref t), (.int (1 : Int32)), (.int x)] [t] h (fun v' _ h' => v' = none ∧ Keep h h' [t] ∧ Arv Z h' t kb .byte 4 [(.int u), (.int v), (.int (lo8 x)), (.int (hi8 x))] (.int 0)) := by
  refine Ct.intro (plainFor_of_name pn2) O cx.ew ?_
  intro p_ e_ s_ m_ bl_ mt_ c_ T0 W0 hby hml hret hnm
  refine Go.st (fun t_ k_ => castTop (g' := mkF m_ 0 #[.val (.ref t), .val (.int (1 : Int32)), .val (.int x)] []) (by first | (simp [entryFrame, mkF, argsToLocals, Value.category]; done) | rfl) k_) ?_
  show Go _ _ _ _ (T0.setTop (mkF m_ 0 #[.val (.ref t), .val (.int (1 : Int32)), .val (.int x)] []))
  have K0 : Keep h h [t] := Keep.refl _ _
  refine W0.getS (cx.w 78 rfl) Via.refl (cx.asr.ext W0.e0) (hb hby d15_0) ?_
  intro T1 W1
  refine Go.st (fun _ => XS.ifYes W1.here W1.ex rfl (pc0 := 3) (pc' := 28) rfl (hb hby d15_3) rfl ((if0 _ _).trans (feq ((by decide) : ¬ ((1 : Int32) = (0 : Int32)))).2) (by decide) (by decide)) ?_
  refine Go.st (fun _ => XS.iloadN W1.here W1.ex rfl (hb hby d15_28) rfl) ?_
  refine Go.st (fun _ => XS.iconst W1.here W1.ex rfl (hb hby d15_29)) ?_
  show Go _ _ _ _ (T1.setTop (mkF m_ 30 #[.val (.ref t), .val (.int (1 : Int32)), .val (.int x)] [(.int (1 : Int32)), (.int (1 : Int32))]))
  refine Go.st (fun _ => XS.ishl W1.here W1.ex rfl (hb hby d15_30) rfl) ?_
  show Go _ _ _ _ (T1.setTop (mkF m_ 31 #[.val (.ref t), .val (.int (1 : Int32)), .val (.int x)] [(.int ((1 : Int32) <<< ((1 : Int32) &&& 31)))]))
  rw [show ((1 : Int32) <<< ((1 : Int32) &&& 31)) = (2 : Int32) from by decide]
  refine Go.st (fun _ => XS.istoreN W1.here W1.ex rfl (hb hby d15_31) rfl (l' := #[.val (.ref t), .val (.int (2 : Int32)), .val (.int x)]) rfl) ?_
  refine Go.st (fun _ => XS.aloadN W1.here W1.ex rfl (hb hby d15_32) rfl rfl) ?_
  show Go _ _ _ _ (T1.setTop (mkF m_ 33 #[.val (.ref t), .val (.int (2 : Int32)), .val (.int x)] [(.ref t)]))
  refine Go.st (fun _ => XS.iloadN W1.here W1.ex rfl (hb hby d15_33) rfl) ?_
  refine Go.st (fun _ => XS.iinc W1.here W1.ex rfl (hb hby d15_34) rfl (l' := #[.val (.ref t), .val (.int (3 : Int32)), .val (.int x)]) rfl) ?_
  refine Go.st (fun _ => XS.iloadN W1.here W1.ex rfl (hb hby d15_37) rfl) ?_
  show Go _ _ _ _ (T1.setTop (mkF m_ 38 #[.val (.ref t), .val (.int (3 : Int32)), .val (.int x)] [(.int x), (.int (2 : Int32)), (.ref t)]))
  refine W1.getS (cx.w 79 rfl) Via.refl (cx.hib.ext W1.e0) (hb hby d15_38) ?_
  intro T2 W2
  refine Go.st (fun _ => XS.ishr W2.here W2.ex rfl (hb hby d15_41) rfl) ?_
  refine Go.st (fun _ => XS.i2b W2.here W2.ex rfl (hb hby d15_42) rfl) ?_
  show Go _ _ _ _ (T2.setTop (mkF m_ 43 #[.val (.ref t), .val (.int (3 : Int32)), .val (.int x)] [(.int ((x >>> ((0 : Int32) &&& 31)).toInt8.toInt32)), (.int (2 : Int32)), (.ref t)]))
  refine W2.stB V_t (j := (2 : Int32)) (x := ((x >>> ((0 : Int32) &&& 31)).toInt8.toInt32)) ⟨by decide, by decide⟩ 2 rfl (Nat.le_of_ble_eq_true rfl) (List.mem_of_getElem? (i := 0) rfl) g_t (hb hby d15_43) ?_
  intro T3 h3 L3 W3 w3 V_new
  replace K0 := K0.wr w3 (Or.inl (List.mem_of_getElem? (i := 0) rfl))
  replace V_t : Arv Z h3 t kb .byte (4 : Int32) [(.int u), (.int v), (.int (nar .byte ((x >>> ((0 : Int32) &&& 31)).toInt8.toInt32))), (.int 0)] (.int 0) := V_new
  clear V_new
  refine Go.st (fun _ => XS.aloadN W3.here W3.ex rfl (hb hby d15_44) rfl rfl) ?_
  refine Go.st (fun _ => XS.iloadN W3.here W3.ex rfl (hb hby d15_45) rfl) ?_
  refine Go.st (fun _ => XS.iloadN W3.here W3.ex rfl (hb hby d15_46) rfl) ?_
  show Go _ _ _ _ (T3.setTop (mkF m_ 47 #[.val (.ref t), .val (.int (3 : Int32)), .val (.int x)] [(.int x), (.int (3 : Int32)), (.ref t)]))
  refine W3.getS (cx.w 80 rfl) Via.refl (cx.lob.ext W3.e0) (hb hby d15_47) ?_
  intro T4 W4
  refine Go.st (fun _ => XS.ishr W4.here W4.ex rfl (hb hby d15_50) rfl) ?_
  refine Go.st (fun _ => XS.i2b W4.here W4.ex rfl (hb hby d15_51) rfl) ?_
  show Go _ _ _ _ (T4.setTop (mkF m_ 52 #[.val (.ref t), .val (.int (3 : Int32)), .val (.int x)] [(.int ((x >>> ((8 : Int32) &&& 31)).toInt8.toInt32)), (.int (3 : Int32)), (.ref t)]))
  refine W4.stB V_t (j := (3 : Int32)) (x := ((x >>> ((8 : Int32) &&& 31)).toInt8.toInt32)) ⟨by decide, by decide⟩ 3 rfl (Nat.le_of_ble_eq_true rfl) (List.mem_of_getElem? (i := 0) rfl) g_t (hb hby d15_52) ?_
  intro T5 h5 L5 W5 w5 V_new
  replace K0 := K0.wr w5 (Or.inl (List.mem_of_getElem? (i := 0) rfl))
  replace V_t : Arv Z h5 t kb .byte (4 : Int32) [(.int u), (.int v), (.int (nar .byte ((x >>> ((0 : Int32) &&& 31)).toInt8.toInt32))), (.int (nar .byte ((x >>> ((8 : Int32) &&& 31)).toInt8.toInt32)))] (.int 0) := V_new
  clear V_new
  show Go _ _ _ _ (T5.setTop (mkF m_ 53 #[.val (.ref t), .val (.int (3 : Int32)), .val (.int x)] []))
  simp only [nar_byte, StrChars.shr0] at V_t
  exact W5.retV hret (hb hby d15_53) (by decide) (by decide) fun vr_ cr_ => ⟨rfl, K0, V_t⟩
theorem ct_tob {l : Launch} {Z a0 n0 g1 gf hxa khx} (cx : Ctx Z a0 n0 g1 gf hxa khx) {h : Heap} (O : Old Z n0 h) (ca : Addr) (x y : Int32) {kc : ClassId} (V_ca : Arv Z h ca kc .char 2 [(.int x), (.int y)] (.int 0)) :
    Ct l Z consts_1 n0 [] Y38 jdk_52_method_14_code 5 (some (.array .byte)) ({ frames := 2, cells := 1, slots := 4, locals := 24 } : Room) #[(.ref ca), (.int (0 : Int32)), (.int (2 : Int32))] [] h (fun v _ h' => ∃ (t : Addr) (kb : ClassId), v = some (.ref t) ∧ h.size ≤ t ∧ n0 ≤ t ∧ Keep h h' [] ∧ Arv Z h' t kb .byte 4 [(.int (lo8 x)), (.int (hi8 x)), (.int (lo8 y)), (.int (hi8 y))] (.int 0)) := by
  refine Ct.intro (plainFor_of_name pn2) O cx.ew ?_
  intro p_ e_ s_ m_ bl_ mt_ c_ T0 W0 hby hml hret hnm
  refine Go.st (fun t_ k_ => castTop (g' := mkF m_ 0 #[.val (.ref ca), .val (.int (0 : Int32)), .val (.int (2 : Int32)), .unset, .unset] []) (by first | (simp [entryFrame, mkF, argsToLocals, Value.category]; done) | rfl) k_) ?_
  show Go _ _ _ _ (T0.setTop (mkF m_ 0 #[.val (.ref ca), .val (.int (0 : Int32)), .val (.int (2 : Int32)), .unset, .unset] []))
  have K0 : Keep h h [] := Keep.refl _ _
  refine Go.st (fun _ => XS.iloadN W0.here W0.ex rfl (hb hby d12_0) rfl) ?_
  show Go _ _ _ _ (T0.setTop (mkF m_ 1 #[.val (.ref ca), .val (.int (0 : Int32)), .val (.int (2 : Int32)), .unset, .unset] [(.int (2 : Int32))]))
  refine W0.callS (y := (⟨"java/lang/StringUTF16", "newBytesFor", "(I)[B"⟩ : MethodName)) (cx.w 68 rfl) (cx.w 69 rfl) (cx.w 18 rfl) (cx.w 70 rfl) (by decide) (ct_nbf cx W0.old ) all0 (by decide) (Wd := 0) (by decide) (k' := 1) (n' := 4) rfl rfl (by decide) (by decide) (by rw [hml]; rfl) (argsL := [(.int (2 : Int32))]) (rest := []) rfl (lenOf pd8 rfl) rfl (Nat.le_of_eq rfl) (hb hby d12_1) ?_
  intro v1 vm1 T1 h1 L1 W1 q1
  obtain ⟨t, kb, rfl, hz_t, g_t, K1, V_t, sf_t⟩ := q1
  have ne_ca_t : ca ≠ t := Nat.ne_of_lt (Nat.lt_of_lt_of_le V_ca.lt hz_t)
  have sz_t : h.size ≤ t := Nat.le_trans K0.1 hz_t
  replace V_ca := V_ca.keep K1 nin0
  replace K0 := K0.trans K1 all0
  show Go _ _ _ _ (T1.setTop (mkF m_ 4 #[.val (.ref ca), .val (.int (0 : Int32)), .val (.int (2 : Int32)), .unset, .unset] [(.ref t)]))
  have Wb2 := W1.cons sf_t V_t.lt
  refine Go.st (fun _ => XS.astoreN Wb2.here Wb2.ex rfl (hb hby d12_4) rfl rfl (l' := #[.val (.ref ca), .val (.int (0 : Int32)), .val (.int (2 : Int32)), .val (.ref t), .unset]) rfl) ?_
  refine Go.st (fun _ => XS.iconst Wb2.here Wb2.ex rfl (hb hby d12_5)) ?_
  show Go _ _ _ _ (T1.setTop (mkF m_ 6 #[.val (.ref ca), .val (.int (0 : Int32)), .val (.int (2 : Int32)), .val (.ref t), .unset] [(.int (0 : Int32))]))
  refine Go.st (fun _ => XS.istore Wb2.here Wb2.ex rfl (hb hby d12_6) rfl (l' := #[.val (.ref ca), .val (.int (0 : Int32)), .val (.int (2 : Int32)), .val (.ref t), .val (.int (0 : Int32))]) rfl) ?_
  refine Go.st (fun _ => XS.iload Wb2.here Wb2.ex rfl (hb hby d12_8) rfl) ?_
  refine Go.st (fun _ => XS.iloadN Wb2.here Wb2.ex rfl (hb hby d12_10) rfl) ?_
  show Go _ _ _ _ (T1.setTop (mkF m_ 11 #[.val (.ref ca), .val (.int (0 : Int32)), .val (.int (2 : Int32)), .val (.ref t), .val (.int (0 : Int32))] [(.int (2 : Int32)), (.int (0 : Int32))]))
  refine Go.st (fun _ => XS.icmpNo Wb2.here Wb2.ex rfl (hb hby d12_11) rfl (tlt ((by decide) : (0 : Int32) < (2 : Int32))).2.1) ?_
  refine Go.st (fun _ => XS.aloadN Wb2.here Wb2.ex rfl (hb hby d12_14) rfl rfl) ?_
  refine Go.st (fun _ => XS.iload Wb2.here Wb2.ex rfl (hb hby d12_15) rfl) ?_
  show Go _ _ _ _ (T1.setTop (mkF m_ 17 #[.val (.ref ca), .val (.int (0 : Int32)), .val (.int (2 : Int32)), .val (.ref t), .val (.int (0 : Int32))] [(.int (0 : Int32)), (.ref t)]))
  refine Go.st (fun _ => XS.aloadN Wb2.here Wb2.ex rfl (hb hby d12_17) rfl rfl) ?_
  refine Go.st (fun _ => XS.iloadN Wb2.here Wb2.ex rfl (hb hby d12_18) rfl) ?_
  show Go _ _ _ _ (T1.setTop (mkF m_ 19 #[.val (.ref ca), .val (.int (0 : Int32)), .val (.int (2 : Int32)), .val (.ref t), .val (.int (0 : Int32))] [(.int (0 : Int32)), (.ref ca), (.int (0 : Int32)), (.ref t)]))
  refine Wb2.ldC V_ca (j := (0 : Int32)) (v := (.int x)) ⟨by decide, by decide⟩ rfl (hb hby d12_19) ?_
  show Go _ _ _ _ (T1.setTop (mkF m_ 20 #[.val (.ref ca), .val (.int (0 : Int32)), .val (.int (2 : Int32)), .val (.ref t), .val (.int (0 : Int32))] [(.int x), (.int (0 : Int32)), (.ref t)]))
  refine Wb2.callS (y := Y37) (cx.w 75 rfl) (cx.w 76 rfl) (cx.w 18 rfl) (cx.w 77 rfl) (by decide) (ct_putc0 cx Wb2.old t x 0 0 V_t g_t) (allS (List.mem_of_getElem? (i := 0) rfl) all0) (by decide) (Wd := 0) (by decide) (k' := 1) (n' := 4) rfl rfl (by decide) (by decide) (by rw [hml]; rfl) (argsL := [(.ref t), (.int (0 : Int32)), (.int x)]) (rest := []) rfl (lenOf pd9 rfl) rfl (Nat.le_of_eq rfl) (hb hby d12_20) ?_
  intro v3 vm3 T3 h3 L3 W3 q3
  obtain ⟨rfl, K2, V_t⟩ := q3
  replace V_ca := V_ca.keep K2 (ninS ne_ca_t nin0)
  replace K0 := K0.trans K2 (allS (Or.inr sz_t) all0)
  refine Go.st (fun _ => XS.iinc W3.here W3.ex rfl (hb hby d12_23) rfl (l' := #[.val (.ref ca), .val (.int (1 : Int32)), .val (.int (2 : Int32)), .val (.ref t), .val (.int (0 : Int32))]) rfl) ?_
  refine Go.st (fun _ => XS.iinc W3.here W3.ex rfl (hb hby d12_26) rfl (l' := #[.val (.ref ca), .val (.int (1 : Int32)), .val (.int (2 : Int32)), .val (.ref t), .val (.int (1 : Int32))]) rfl) ?_
  refine Go.st (fun _ => XS.goto W3.here W3.ex rfl (pc0 := 29) (pc' := 8) rfl (hb hby d12_29) (by decide) (by decide)) ?_
  show Go _ _ _ _ (T3.setTop (mkF m_ 8 #[.val (.ref ca), .val (.int (1 : Int32)), .val (.int (2 : Int32)), .val (.ref t), .val (.int (1 : Int32))] []))
  refine Go.st (fun _ => XS.iload W3.here W3.ex rfl (hb hby d12_8) rfl) ?_
  refine Go.st (fun _ => XS.iloadN W3.here W3.ex rfl (hb hby d12_10) rfl) ?_
  refine Go.st (fun _ => XS.icmpNo W3.here W3.ex rfl (hb hby d12_11) rfl (tlt ((by decide) : (1 : Int32) < (2 : Int32))).2.1) ?_
  show Go _ _ _ _ (T3.setTop (mkF m_ 14 #[.val (.ref ca), .val (.int (1 : Int32)), .val (.int (2 : Int32)), .val (.ref t), .val (.int (1 : Int32))] []))
  refine Go.st (fun _ => XS.aloadN W3.here W3.ex rfl (hb hby d12_14) rfl rfl) ?_
  refine Go.st (fun _ => XS.iload W3.here W3.ex rfl (hb hby d12_15) rfl) ?_
  refine Go.st (fun _ => XS.aloadN W3.here W3.ex rfl (hb hby d12_17) rfl rfl) ?_
  show Go _ _ _ _ (T3.setTop (mkF m_ 18 #[.val (.ref ca), .val (.int (1 : Int32)), .val (.int (2 : Int32)), .val (.ref t), .val (.int (1 : Int32))] [(.ref ca), (.int (1 : Int32)), (.ref t)]))
  refine Go.st (fun _ => XS.iloadN W3.here W3.ex rfl (hb hby d12_18) rfl) ?_
  show Go _ _ _ _ (T3.setTop (mkF m_ 19 #[.val (.ref ca), .val (.int (1 : Int32)), .val (.int (2 : Int32)), .val (.ref t), .val (.int (1 : Int32))] [(.int (1 : Int32)), (.ref ca), (.int (1 : Int32)), (.ref t)]))
  refine W3.ldC V_ca (j := (1 : Int32)) (v := (.int y)) ⟨by decide, by decide⟩ rfl (hb hby d12_19) ?_
  show Go _ _ _ _ (T3.setTop (mkF m_ 20 #[.val (.ref ca), .val (.int (1 : Int32)), .val (.int (2 : Int32)), .val (.ref t), .val (.int (1 : Int32))] [(.int y), (.int (1 : Int32)), (.ref t)]))
  refine W3.callS (y := Y37) (cx.w 75 rfl) (cx.w 76 rfl) (cx.w 18 rfl) (cx.w 77 rfl) (by decide) (ct_putc1 cx W3.old t y (lo8 x) (hi8 x) V_t g_t) (allS (List.mem_of_getElem? (i := 0) rfl) all0) (by decide) (Wd := 0) (by decide) (k' := 1) (n' := 4) rfl rfl (by decide) (by decide) (by rw [hml]; rfl) (argsL := [(.ref t), (.int (1 : Int32)), (.int y)]) (rest := []) rfl (lenOf pd9 rfl) rfl (Nat.le_of_eq rfl) (hb hby d12_20) ?_
  intro v4 vm4 T4 h4 L4 W4 q4
  obtain ⟨rfl, K3, V_t⟩ := q4
  replace V_ca := V_ca.keep K3 (ninS ne_ca_t nin0)
  replace K0 := K0.trans K3 (allS (Or.inr sz_t) all0)
  refine Go.st (fun _ => XS.iinc W4.here W4.ex rfl (hb hby d12_23) rfl (l' := #[.val (.ref ca), .val (.int (2 : Int32)), .val (.int (2 : Int32)), .val (.ref t), .val (.int (1 : Int32))]) rfl) ?_
  refine Go.st (fun _ => XS.iinc W4.here W4.ex rfl (hb hby d12_26) rfl (l' := #[.val (.ref ca), .val (.int (2 : Int32)), .val (.int (2 : Int32)), .val (.ref t), .val (.int (2 : Int32))]) rfl) ?_
  refine Go.st (fun _ => XS.goto W4.here W4.ex rfl (pc0 := 29) (pc' := 8) rfl (hb hby d12_29) (by decide) (by decide)) ?_
  show Go _ _ _ _ (T4.setTop (mkF m_ 8 #[.val (.ref ca), .val (.int (2 : Int32)), .val (.int (2 : Int32)), .val (.ref t), .val (.int (2 : Int32))] []))
  refine Go.st (fun _ => XS.iload W4.here W4.ex rfl (hb hby d12_8) rfl) ?_
  refine Go.st (fun _ => XS.iloadN W4.here W4.ex rfl (hb hby d12_10) rfl) ?_
  refine Go.st (fun _ => XS.icmpYes W4.here W4.ex rfl (pc0 := 11) (pc' := 32) rfl (hb hby d12_11) rfl (flt ((by decide) : ¬ ((2 : Int32) < (2 : Int32)))).2.1 (by decide) (by decide)) ?_
  show Go _ _ _ _ (T4.setTop (mkF m_ 32 #[.val (.ref ca), .val (.int (2 : Int32)), .val (.int (2 : Int32)), .val (.ref t), .val (.int (2 : Int32))] []))
  refine Go.st (fun _ => XS.aloadN W4.here W4.ex rfl (hb hby d12_32) rfl rfl) ?_
  show Go _ _ _ _ (T4.setTop (mkF m_ 33 #[.val (.ref ca), .val (.int (2 : Int32)), .val (.int (2 : Int32)), .val (.ref t), .val (.int (2 : Int32))] [(.ref t)]))
  exact W4.retA hret rfl rfl (hb hby d12_33) (by decide) (by decide) fun vr_ cr_ => ⟨t, kb, rfl, sz_t, g_t, K0, V_t⟩
theorem ct_c5A {l : Launch} {Z a0 n0 g1 gf hxa khx} (cx : Ctx Z a0 n0 g1 gf hxa khx) {h : Heap} (O : Old Z n0 h) (ca t : Addr) (x y : Int32) {kc kb : ClassId} (V_ca : Arv Z h ca kc .char 2 [(.int x), (.int y)] (.int 0)) (V_t : Arv Z h t kb .byte 2 [(.int 0), (.int 0)] (.int 0)) (g_t : n0 ≤ t) (ne_ca_t : ca ≠ t) (z1 : (255 : Int32) < x) :
    Ct l Z consts_1 n0 [] Y32 jdk_52_method_21_code 7 (some .int) ({ frames := 0, cells := 0, slots := 0, locals := 0 } : Room) #[(.ref ca), (.int (0 : Int32)), (.ref t), (.int (0 : Int32)), (.int (2 : Int32))] [t] h (fun v _ h' => v = some (.int 0) ∧ Keep h h' [t] ∧ Arv Z h' t kb .byte 2 [(.int 0), (.int 0)] (.int 0)) := by
  refine Ct.intro (plainFor_of_name pn2) O cx.ew ?_
  intro p_ e_ s_ m_ bl_ mt_ c_ T0 W0 hby hml hret hnm
  refine Go.st (fun t_ k_ => castTop (g' := mkF m_ 0 #[.val (.ref ca), .val (.int (0 : Int32)), .val (.ref t), .val (.int (0 : Int32)), .val (.int (2 : Int32)), .unset, .unset] []) (by first | (simp [entryFrame, mkF, argsToLocals, Value.category]; done) | rfl) k_) ?_
  show Go _ _ _ _ (T0.setTop (mkF m_ 0 #[.val (.ref ca), .val (.int (0 : Int32)), .val (.ref t), .val (.int (0 : Int32)), .val (.int (2 : Int32)), .unset, .unset] []))
  have K0 : Keep h h [t] := Keep.refl _ _
  refine Go.st (fun _ => XS.iconst W0.here W0.ex rfl (hb hby d5_0)) ?_
  refine Go.st (fun _ => XS.istore W0.here W0.ex rfl (hb hby d5_1) rfl (l' := #[.val (.ref ca), .val (.int (0 : Int32)), .val (.ref t), .val (.int (0 : Int32)), .val (.int (2 : Int32)), .val (.int (0 : Int32)), .unset]) rfl) ?_
  show Go _ _ _ _ (T0.setTop (mkF m_ 3 #[.val (.ref ca), .val (.int (0 : Int32)), .val (.ref t), .val (.int (0 : Int32)), .val (.int (2 : Int32)), .val (.int (0 : Int32)), .unset] []))
  refine Go.st (fun _ => XS.iload W0.here W0.ex rfl (hb hby d5_3) rfl) ?_
  refine Go.st (fun _ => XS.iload W0.here W0.ex rfl (hb hby d5_5) rfl) ?_
  refine Go.st (fun _ => XS.icmpNo W0.here W0.ex rfl (hb hby d5_7) rfl (tlt ((by decide) : (0 : Int32) < (2 : Int32))).2.1) ?_
  show Go _ _ _ _ (T0.setTop (mkF m_ 10 #[.val (.ref ca), .val (.int (0 : Int32)), .val (.ref t), .val (.int (0 : Int32)), .val (.int (2 : Int32)), .val (.int (0 : Int32)), .unset] []))
  refine Go.st (fun _ => XS.aloadN W0.here W0.ex rfl (hb hby d5_10) rfl rfl) ?_
  refine Go.st (fun _ => XS.iloadN W0.here W0.ex rfl (hb hby d5_11) rfl) ?_
  show Go _ _ _ _ (T0.setTop (mkF m_ 12 #[.val (.ref ca), .val (.int (0 : Int32)), .val (.ref t), .val (.int (0 : Int32)), .val (.int (2 : Int32)), .val (.int (0 : Int32)), .unset] [(.int (0 : Int32)), (.ref ca)]))
  refine W0.ldC V_ca (j := (0 : Int32)) (v := (.int x)) ⟨by decide, by decide⟩ rfl (hb hby d5_12) ?_
  refine Go.st (fun _ => XS.istore W0.here W0.ex rfl (hb hby d5_13) rfl (l' := #[.val (.ref ca), .val (.int (0 : Int32)), .val (.ref t), .val (.int (0 : Int32)), .val (.int (2 : Int32)), .val (.int (0 : Int32)), .val (.int x)]) rfl) ?_
  refine Go.st (fun _ => XS.iload W0.here W0.ex rfl (hb hby d5_15) rfl) ?_
  show Go _ _ _ _ (T0.setTop (mkF m_ 17 #[.val (.ref ca), .val (.int (0 : Int32)), .val (.ref t), .val (.int (0 : Int32)), .val (.int (2 : Int32)), .val (.int (0 : Int32)), .val (.int x)] [(.int x)]))
  refine Go.st (fun _ => XS.sipush W0.here W0.ex rfl (hb hby d5_17)) ?_
  refine Go.st (fun _ => XS.icmpNo W0.here W0.ex rfl (hb hby d5_20) rfl (tlt (z1 : (255 : Int32) < x)).2.2.2) ?_
  refine Go.st (fun _ => XS.iload W0.here W0.ex rfl (hb hby d5_23) rfl) ?_
  show Go _ _ _ _ (T0.setTop (mkF m_ 25 #[.val (.ref ca), .val (.int (0 : Int32)), .val (.ref t), .val (.int (0 : Int32)), .val (.int (2 : Int32)), .val (.int (0 : Int32)), .val (.int x)] [(.int (0 : Int32))]))
  exact W0.retI hret (hb hby d5_25) (by decide) (by decide) fun vr_ cr_ => ⟨rfl, K0, V_t⟩
theorem ct_c5B {l : Launch} {Z a0 n0 g1 gf hxa khx} (cx : Ctx Z a0 n0 g1 gf hxa khx) {h : Heap} (O : Old Z n0 h) (ca t : Addr) (x y : Int32) {kc kb : ClassId} (V_ca : Arv Z h ca kc .char 2 [(.int x), (.int y)] (.int 0)) (V_t : Arv Z h t kb .byte 2 [(.int 0), (.int 0)] (.int 0)) (g_t : n0 ≤ t) (ne_ca_t : ca ≠ t) (z1 : ¬ (255 : Int32) < x) (z2 : (255 : Int32) < y) :
    Ct l Z consts_1 n0 [] Y32 jdk_52_method_21_code 7 (some .int) ({ frames := 0, cells := 0, slots := 0, locals := 0 } : Room) #[(.ref ca), (.int (0 : Int32)), (.ref t), (.int (0 : Int32)), (.int (2 : Int32))] [t] h (fun v _ h' => v = some (.int 1) ∧ Keep h h' [t] ∧ Arv Z h' t kb .byte 2 [(.int (lo8 x)), (.int 0)] (.int 0)) := by
  refine Ct.intro (plainFor_of_name pn2) O cx.ew ?_
  intro p_ e_ s_ m_ bl_ mt_ c_ T0 W0 hby hml hret hnm
  refine Go.st (fun t_ k_ => castTop (g' := mkF m_ 0 #[.val (.ref ca), .val (.int (0 : Int32)), .val (.ref t), .val (.int (0 : Int32)), .val (.int (2 : Int32)), .unset, .unset] []) (by first | (simp [entryFrame, mkF, argsToLocals, Value.category]; done) | rfl) k_) ?_
  show Go _ _ _ _ (T0.setTop (mkF m_ 0 #[.val (.ref ca), .val (.int (0 : Int32)), .val (.ref t), .val (.int (0 : Int32)), .val (.int (2 : Int32)), .unset, .unset] []))
  have K0 : Keep h h [t] := Keep.refl _ _
  refine Go.st (fun _ => XS.iconst W0.here W0.ex rfl (hb hby d5_0)) ?_
  refine Go.st (fun _ => XS.istore W0.here W0.ex rfl (hb hby d5_1) rfl (l' := #[.val (.ref ca), .val (.int (0 : Int32)), .val (.ref t), .val (.int (0 : Int32)), .val (.int (2 : Int32)), .val (.int (0 : Int32)), .unset]) rfl) ?_
  show Go _ _ _ _ (T0.setTop (mkF m_ 3 #[.val (.ref ca), .val (.int (0 : Int32)), .val (.ref t), .val (.int (0 : Int32)), .val (.int (2 : Int32)), .val (.int (0 : Int32)), .unset] []))
  refine Go.st (fun _ => XS.iload W0.here W0.ex rfl (hb hby d5_3) rfl) ?_
  refine Go.st (fun _ => XS.iload W0.here W0.ex rfl (hb hby d5_5) rfl) ?_
  refine Go.st (fun _ => XS.icmpNo W0.here W0.ex rfl (hb hby d5_7) rfl (tlt ((by decide) : (0 : Int32) < (2 : Int32))).2.1) ?_
  show Go _ _ _ _ (T0.setTop (mkF m_ 10 #[.val (.ref ca), .val (.int (0 : Int32)), .val (.ref t), .val (.int (0 : Int32)), .val (.int (2 : Int32)), .val (.int (0 : Int32)), .unset] []))
  refine Go.st (fun _ => XS.aloadN W0.here W0.ex rfl (hb hby d5_10) rfl rfl) ?_
  refine Go.st (fun _ => XS.iloadN W0.here W0.ex rfl (hb hby d5_11) rfl) ?_
  show Go _ _ _ _ (T0.setTop (mkF m_ 12 #[.val (.ref ca), .val (.int (0 : Int32)), .val (.ref t), .val (.int (0 : Int32)), .val (.int (2 : Int32)), .val (.int (0 : Int32)), .unset] [(.int (0 : Int32)), (.ref ca)]))
  refine W0.ldC V_ca (j := (0 : Int32)) (v := (.int x)) ⟨by decide, by decide⟩ rfl (hb hby d5_12) ?_
  refine Go.st (fun _ => XS.istore W0.here W0.ex rfl (hb hby d5_13) rfl (l' := #[.val (.ref ca), .val (.int (0 : Int32)), .val (.ref t), .val (.int (0 : Int32)), .val (.int (2 : Int32)), .val (.int (0 : Int32)), .val (.int x)]) rfl) ?_
  refine Go.st (fun _ => XS.iload W0.here W0.ex rfl (hb hby d5_15) rfl) ?_
  show Go _ _ _ _ (T0.setTop (mkF m_ 17 #[.val (.ref ca), .val (.int (0 : Int32)), .val (.ref t), .val (.int (0 : Int32)), .val (.int (2 : Int32)), .val (.int (0 : Int32)), .val (.int x)] [(.int x)]))
  refine Go.st (fun _ => XS.sipush W0.here W0.ex rfl (hb hby d5_17)) ?_
  refine Go.st (fun _ => XS.icmpYes W0.here W0.ex rfl (pc0 := 20) (pc' := 26) rfl (hb hby d5_20) rfl (flt (z1 : ¬ ((255 : Int32) < x))).2.2.2 (by decide) (by decide)) ?_
  refine Go.st (fun _ => XS.aloadN W0.here W0.ex rfl (hb hby d5_26) rfl rfl) ?_
  show Go _ _ _ _ (T0.setTop (mkF m_ 27 #[.val (.ref ca), .val (.int (0 : Int32)), .val (.ref t), .val (.int (0 : Int32)), .val (.int (2 : Int32)), .val (.int (0 : Int32)), .val (.int x)] [(.ref t)]))
  refine Go.st (fun _ => XS.iloadN W0.here W0.ex rfl (hb hby d5_27) rfl) ?_
  refine Go.st (fun _ => XS.iload W0.here W0.ex rfl (hb hby d5_28) rfl) ?_
  refine Go.st (fun _ => XS.i2b W0.here W0.ex rfl (hb hby d5_30) rfl) ?_
  show Go _ _ _ _ (T0.setTop (mkF m_ 31 #[.val (.ref ca), .val (.int (0 : Int32)), .val (.ref t), .val (.int (0 : Int32)), .val (.int (2 : Int32)), .val (.int (0 : Int32)), .val (.int x)] [(.int (x.toInt8.toInt32)), (.int (0 : Int32)), (.ref t)]))
  refine W0.stB V_t (j := (0 : Int32)) (x := (x.toInt8.toInt32)) ⟨by decide, by decide⟩ 0 rfl (Nat.le_of_ble_eq_true rfl) (List.mem_of_getElem? (i := 0) rfl) g_t (hb hby d5_31) ?_
  intro T1 h1 L1 W1 w1 V_new
  replace V_ca := V_ca.other w1 ne_ca_t
  replace K0 := K0.wr w1 (Or.inl (List.mem_of_getElem? (i := 0) rfl))
  replace V_t : Arv Z h1 t kb .byte (2 : Int32) [(.int (nar .byte (x.toInt8.toInt32))), (.int 0)] (.int 0) := V_new
  clear V_new
  show Go _ _ _ _ (T1.setTop (mkF m_ 32 #[.val (.ref ca), .val (.int (0 : Int32)), .val (.ref t), .val (.int (0 : Int32)), .val (.int (2 : Int32)), .val (.int (0 : Int32)), .val (.int x)] []))
  rw [nar_byte] at V_t
  refine Go.st (fun _ => XS.iinc W1.here W1.ex rfl (hb hby d5_32) rfl (l' := #[.val (.ref ca), .val (.int (1 : Int32)), .val (.ref t), .val (.int (0 : Int32)), .val (.int (2 : Int32)), .val (.int (0 : Int32)), .val (.int x)]) rfl) ?_
  refine Go.st (fun _ => XS.iinc W1.here W1.ex rfl (hb hby d5_35) rfl (l' := #[.val (.ref ca), .val (.int (1 : Int32)), .val (.ref t), .val (.int (1 : Int32)), .val (.int (2 : Int32)), .val (.int (0 : Int32)), .val (.int x)]) rfl) ?_
  show Go _ _ _ _ (T1.setTop (mkF m_ 38 #[.val (.ref ca), .val (.int (1 : Int32)), .val (.ref t), .val (.int (1 : Int32)), .val (.int (2 : Int32)), .val (.int (0 : Int32)), .val (.int x)] []))
  refine Go.st (fun _ => XS.iinc W1.here W1.ex rfl (hb hby d5_38) rfl (l' := #[.val (.ref ca), .val (.int (1 : Int32)), .val (.ref t), .val (.int (1 : Int32)), .val (.int (2 : Int32)), .val (.int (1 : Int32)), .val (.int x)]) rfl) ?_
  refine Go.st (fun _ => XS.goto W1.here W1.ex rfl (pc0 := 41) (pc' := 3) rfl (hb hby d5_41) (by decide) (by decide)) ?_
  refine Go.st (fun _ => XS.iload W1.here W1.ex rfl (hb hby d5_3) rfl) ?_
  show Go _ _ _ _ (T1.setTop (mkF m_ 5 #[.val (.ref ca), .val (.int (1 : Int32)), .val (.ref t), .val (.int (1 : Int32)), .val (.int (2 : Int32)), .val (.int (1 : Int32)), .val (.int x)] [(.int (1 : Int32))]))
  refine Go.st (fun _ => XS.iload W1.here W1.ex rfl (hb hby d5_5) rfl) ?_
  refine Go.st (fun _ => XS.icmpNo W1.here W1.ex rfl (hb hby d5_7) rfl (tlt ((by decide) : (1 : Int32) < (2 : Int32))).2.1) ?_
  refine Go.st (fun _ => XS.aloadN W1.here W1.ex rfl (hb hby d5_10) rfl rfl) ?_
  show Go _ _ _ _ (T1.setTop (mkF m_ 11 #[.val (.ref ca), .val (.int (1 : Int32)), .val (.ref t), .val (.int (1 : Int32)), .val (.int (2 : Int32)), .val (.int (1 : Int32)), .val (.int x)] [(.ref ca)]))
  refine Go.st (fun _ => XS.iloadN W1.here W1.ex rfl (hb hby d5_11) rfl) ?_
  show Go _ _ _ _ (T1.setTop (mkF m_ 12 #[.val (.ref ca), .val (.int (1 : Int32)), .val (.ref t), .val (.int (1 : Int32)), .val (.int (2 : Int32)), .val (.int (1 : Int32)), .val (.int x)] [(.int (1 : Int32)), (.ref ca)]))
  refine W1.ldC V_ca (j := (1 : Int32)) (v := (.int y)) ⟨by decide, by decide⟩ rfl (hb hby d5_12) ?_
  refine Go.st (fun _ => XS.istore W1.here W1.ex rfl (hb hby d5_13) rfl (l' := #[.val (.ref ca), .val (.int (1 : Int32)), .val (.ref t), .val (.int (1 : Int32)), .val (.int (2 : Int32)), .val (.int (1 : Int32)), .val (.int y)]) rfl) ?_
  refine Go.st (fun _ => XS.iload W1.here W1.ex rfl (hb hby d5_15) rfl) ?_
  show Go _ _ _ _ (T1.setTop (mkF m_ 17 #[.val (.ref ca), .val (.int (1 : Int32)), .val (.ref t), .val (.int (1 : Int32)), .val (.int (2 : Int32)), .val (.int (1 : Int32)), .val (.int y)] [(.int y)]))
  refine Go.st (fun _ => XS.sipush W1.here W1.ex rfl (hb hby d5_17)) ?_
  refine Go.st (fun _ => XS.icmpNo W1.here W1.ex rfl (hb hby d5_20) rfl (tlt (z2 : (255 : Int32) < y)).2.2.2) ?_
  refine Go.st (fun _ => XS.iload W1.here W1.ex rfl (hb hby d5_23) rfl) ?_
  show Go _ _ _ _ (T1.setTop (mkF m_ 25 #[.val (.ref ca), .val (.int (1 : Int32)), .val (.ref t), .val (.int (1 : Int32)), .val (.int (2 : Int32)), .val (.int (1 : Int32)), .val (.int y)] [(.int (1 : Int32))]))
  exact W1.retI hret (hb hby d5_25) (by decide) (by decide) fun vr_ cr_ => ⟨rfl, K0, V_t⟩
theorem ct_c5C {l : Launch} {Z a0 n0 g1 gf hxa khx} (cx : Ctx Z a0 n0 g1 gf hxa khx) {h : Heap} (O : Old Z n0 h) (ca t : Addr) (x y : Int32) {kc kb : ClassId} (V_ca : Arv Z h ca kc .char 2 [(.int x), (.int y)] (.int 0)) (V_t : Arv Z h t kb .byte 2 [(.int 0), (.int 0)] (.int 0)) (g_t : n0 ≤ t) (ne_ca_t : ca ≠ t) (z1 : ¬ (255 : Int32) < x) (z2 : ¬ (255 : Int32) < y) :
    Ct l Z consts_1 n0 [] Y32 jdk_52_method_21_code 7 (some .int) ({ frames := 0, cells := 0, slots := 0, locals := 0 } : Room) #[(.ref ca), (.int (0 : Int32)), (.ref t), (.int (0 : Int32)), (.int (2 : Int32))] [t] h (fun v _ h' => v = some (.int 2) ∧ Keep h h' [t] ∧ Arv Z h' t kb .byte 2 [(.int (lo8 x)), (.int (lo8 y))] (.int 0)) := by
  refine Ct.intro (plainFor_of_name pn2) O cx.ew ?_
  intro p_ e_ s_ m_ bl_ mt_ c_ T0 W0 hby hml hret hnm
  refine Go.st (fun t_ k_ => castTop (g' := mkF m_ 0 #[.val (.ref ca), .val (.int (0 : Int32)), .val (.ref t), .val (.int (0 : Int32)), .val (.int (2 : Int32)), .unset, .unset] []) (by first | (simp [entryFrame, mkF, argsToLocals, Value.category]; done) | rfl) k_) ?_
  show Go _ _ _ _ (T0.setTop (mkF m_ 0 #[.val (.ref ca), .val (.int (0 : Int32)), .val (.ref t), .val (.int (0 : Int32)), .val (.int (2 : Int32)), .unset, .unset] []))
  have K0 : Keep h h [t] := Keep.refl _ _
  refine Go.st (fun _ => XS.iconst W0.here W0.ex rfl (hb hby d5_0)) ?_
  refine Go.st (fun _ => XS.istore W0.here W0.ex rfl (hb hby d5_1) rfl (l' := #[.val (.ref ca), .val (.int (0 : Int32)), .val (.ref t), .val (.int (0 : Int32)), .val (.int (2 : Int32)), .val (.int (0 : Int32)), .unset]) rfl) ?_
  show Go _ _ _ _ (T0.setTop (mkF m_ 3 #[.val (.ref ca), .val (.int (0 : Int32)), .val (.ref t), .val (.int (0 : Int32)), .val (.int (2 : Int32)), .val (.int (0 : Int32)), .unset] []))
  refine Go.st (fun _ => XS.iload W0.here W0.ex rfl (hb hby d5_3) rfl) ?_
  refine Go.st (fun _ => XS.iload W0.here W0.ex rfl (hb hby d5_5) rfl) ?_
  refine Go.st (fun _ => XS.icmpNo W0.here W0.ex rfl (hb hby d5_7) rfl (tlt ((by decide) : (0 : Int32) < (2 : Int32))).2.1) ?_
  show Go _ _ _ _ (T0.setTop (mkF m_ 10 #[.val (.ref ca), .val (.int (0 : Int32)), .val (.ref t), .val (.int (0 : Int32)), .val (.int (2 : Int32)), .val (.int (0 : Int32)), .unset] []))
  refine Go.st (fun _ => XS.aloadN W0.here W0.ex rfl (hb hby d5_10) rfl rfl) ?_
  refine Go.st (fun _ => XS.iloadN W0.here W0.ex rfl (hb hby d5_11) rfl) ?_
  show Go _ _ _ _ (T0.setTop (mkF m_ 12 #[.val (.ref ca), .val (.int (0 : Int32)), .val (.ref t), .val (.int (0 : Int32)), .val (.int (2 : Int32)), .val (.int (0 : Int32)), .unset] [(.int (0 : Int32)), (.ref ca)]))
  refine W0.ldC V_ca (j := (0 : Int32)) (v := (.int x)) ⟨by decide, by decide⟩ rfl (hb hby d5_12) ?_
  refine Go.st (fun _ => XS.istore W0.here W0.ex rfl (hb hby d5_13) rfl (l' := #[.val (.ref ca), .val (.int (0 : Int32)), .val (.ref t), .val (.int (0 : Int32)), .val (.int (2 : Int32)), .val (.int (0 : Int32)), .val (.int x)]) rfl) ?_
  refine Go.st (fun _ => XS.iload W0.here W0.ex rfl (hb hby d5_15) rfl) ?_
  show Go _ _ _ _ (T0.setTop (mkF m_ 17 #[.val (.ref ca), .val (.int (0 : Int32)), .val (.ref t), .val (.int (0 : Int32)), .val (.int (2 : Int32)), .val (.int (0 : Int32)), .val (.int x)] [(.int x)]))
  refine Go.st (fun _ => XS.sipush W0.here W0.ex rfl (hb hby d5_17)) ?_
  refine Go.st (fun _ => XS.icmpYes W0.here W0.ex rfl (pc0 := 20) (pc' := 26) rfl (hb hby d5_20) rfl (flt (z1 : ¬ ((255 : Int32) < x))).2.2.2 (by decide) (by decide)) ?_
  refine Go.st (fun _ => XS.aloadN W0.here W0.ex rfl (hb hby d5_26) rfl rfl) ?_
  show Go _ _ _ _ (T0.setTop (mkF m_ 27 #[.val (.ref ca), .val (.int (0 : Int32)), .val (.ref t), .val (.int (0 : Int32)), .val (.int (2 : Int32)), .val (.int (0 : Int32)), .val (.int x)] [(.ref t)]))
  refine Go.st (fun _ => XS.iloadN W0.here W0.ex rfl (hb hby d5_27) rfl) ?_
  refine Go.st (fun _ => XS.iload W0.here W0.ex rfl (hb hby d5_28) rfl) ?_
  refine Go.st (fun _ => XS.i2b W0.here W0.ex rfl (hb hby d5_30) rfl) ?_
  show Go _ _ _ _ (T0.setTop (mkF m_ 31 #[.val (.ref ca), .val (.int (0 : Int32)), .val (.ref t), .val (.int (0 : Int32)), .val (.int (2 : Int32)), .val (.int (0 : Int32)), .val (.int x)] [(.int (x.toInt8.toInt32)), (.int (0 : Int32)), (.ref t)]))
  refine W0.stB V_t (j := (0 : Int32)) (x := (x.toInt8.toInt32)) ⟨by decide, by decide⟩ 0 rfl (Nat.le_of_ble_eq_true rfl) (List.mem_of_getElem? (i := 0) rfl) g_t (hb hby d5_31) ?_
  intro T1 h1 L1 W1 w1 V_new
  replace V_ca := V_ca.other w1 ne_ca_t
  replace K0 := K0.wr w1 (Or.inl (List.mem_of_getElem? (i := 0) rfl))
  replace V_t : Arv Z h1 t kb .byte (2 : Int32) [(.int (nar .byte (x.toInt8.toInt32))), (.int 0)] (.int 0) := V_new
  clear V_new
  show Go _ _ _ _ (T1.setTop (mkF m_ 32 #[.val (.ref ca), .val (.int (0 : Int32)), .val (.ref t), .val (.int (0 : Int32)), .val (.int (2 : Int32)), .val (.int (0 : Int32)), .val (.int x)] []))
  rw [nar_byte] at V_t
  refine Go.st (fun _ => XS.iinc W1.here W1.ex rfl (hb hby d5_32) rfl (l' := #[.val (.ref ca), .val (.int (1 : Int32)), .val (.ref t), .val (.int (0 : Int32)), .val (.int (2 : Int32)), .val (.int (0 : Int32)), .val (.int x)]) rfl) ?_
  refine Go.st (fun _ => XS.iinc W1.here W1.ex rfl (hb hby d5_35) rfl (l' := #[.val (.ref ca), .val (.int (1 : Int32)), .val (.ref t), .val (.int (1 : Int32)), .val (.int (2 : Int32)), .val (.int (0 : Int32)), .val (.int x)]) rfl) ?_
  show Go _ _ _ _ (T1.setTop (mkF m_ 38 #[.val (.ref ca), .val (.int (1 : Int32)), .val (.ref t), .val (.int (1 : Int32)), .val (.int (2 : Int32)), .val (.int (0 : Int32)), .val (.int x)] []))
  refine Go.st (fun _ => XS.iinc W1.here W1.ex rfl (hb hby d5_38) rfl (l' := #[.val (.ref ca), .val (.int (1 : Int32)), .val (.ref t), .val (.int (1 : Int32)), .val (.int (2 : Int32)), .val (.int (1 : Int32)), .val (.int x)]) rfl) ?_
  refine Go.st (fun _ => XS.goto W1.here W1.ex rfl (pc0 := 41) (pc' := 3) rfl (hb hby d5_41) (by decide) (by decide)) ?_
  refine Go.st (fun _ => XS.iload W1.here W1.ex rfl (hb hby d5_3) rfl) ?_
  show Go _ _ _ _ (T1.setTop (mkF m_ 5 #[.val (.ref ca), .val (.int (1 : Int32)), .val (.ref t), .val (.int (1 : Int32)), .val (.int (2 : Int32)), .val (.int (1 : Int32)), .val (.int x)] [(.int (1 : Int32))]))
  refine Go.st (fun _ => XS.iload W1.here W1.ex rfl (hb hby d5_5) rfl) ?_
  refine Go.st (fun _ => XS.icmpNo W1.here W1.ex rfl (hb hby d5_7) rfl (tlt ((by decide) : (1 : Int32) < (2 : Int32))).2.1) ?_
  refine Go.st (fun _ => XS.aloadN W1.here W1.ex rfl (hb hby d5_10) rfl rfl) ?_
  show Go _ _ _ _ (T1.setTop (mkF m_ 11 #[.val (.ref ca), .val (.int (1 : Int32)), .val (.ref t), .val (.int (1 : Int32)), .val (.int (2 : Int32)), .val (.int (1 : Int32)), .val (.int x)] [(.ref ca)]))
  refine Go.st (fun _ => XS.iloadN W1.here W1.ex rfl (hb hby d5_11) rfl) ?_
  show Go _ _ _ _ (T1.setTop (mkF m_ 12 #[.val (.ref ca), .val (.int (1 : Int32)), .val (.ref t), .val (.int (1 : Int32)), .val (.int (2 : Int32)), .val (.int (1 : Int32)), .val (.int x)] [(.int (1 : Int32)), (.ref ca)]))
  refine W1.ldC V_ca (j := (1 : Int32)) (v := (.int y)) ⟨by decide, by decide⟩ rfl (hb hby d5_12) ?_
  refine Go.st (fun _ => XS.istore W1.here W1.ex rfl (hb hby d5_13) rfl (l' := #[.val (.ref ca), .val (.int (1 : Int32)), .val (.ref t), .val (.int (1 : Int32)), .val (.int (2 : Int32)), .val (.int (1 : Int32)), .val (.int y)]) rfl) ?_
  refine Go.st (fun _ => XS.iload W1.here W1.ex rfl (hb hby d5_15) rfl) ?_
  show Go _ _ _ _ (T1.setTop (mkF m_ 17 #[.val (.ref ca), .val (.int (1 : Int32)), .val (.ref t), .val (.int (1 : Int32)), .val (.int (2 : Int32)), .val (.int (1 : Int32)), .val (.int y)] [(.int y)]))
  refine Go.st (fun _ => XS.sipush W1.here W1.ex rfl (hb hby d5_17)) ?_
  refine Go.st (fun _ => XS.icmpYes W1.here W1.ex rfl (pc0 := 20) (pc' := 26) rfl (hb hby d5_20) rfl (flt (z2 : ¬ ((255 : Int32) < y))).2.2.2 (by decide) (by decide)) ?_
  refine Go.st (fun _ => XS.aloadN W1.here W1.ex rfl (hb hby d5_26) rfl rfl) ?_
  show Go _ _ _ _ (T1.setTop (mkF m_ 27 #[.val (.ref ca), .val (.int (1 : Int32)), .val (.ref t), .val (.int (1 : Int32)), .val (.int (2 : Int32)), .val (.int (1 : Int32)), .val (.int y)] [(.ref t)]))
  refine Go.st (fun _ => XS.iloadN W1.here W1.ex rfl (hb hby d5_27) rfl) ?_
  refine Go.st (fun _ => XS.iload W1.here W1.ex rfl (hb hby d5_28) rfl) ?_
  refine Go.st (fun _ => XS.i2b W1.here W1.ex rfl (hb hby d5_30) rfl) ?_
  show Go _ _ _ _ (T1.setTop (mkF m_ 31 #[.val (.ref ca), .val (.int (1 : Int32)), .val (.ref t), .val (.int (1 : Int32)), .val (.int (2 : Int32)), .val (.int (1 : Int32)), .val (.int y)] [(.int (y.toInt8.toInt32)), (.int (1 : Int32)), (.ref t)]))
  refine W1.stB V_t (j := (1 : Int32)) (x := (y.toInt8.toInt32)) ⟨by decide, by decide⟩ 1 rfl (Nat.le_of_ble_eq_true rfl) (List.mem_of_getElem? (i := 0) rfl) g_t (hb hby d5_31) ?_
  intro T2 h2 L2 W2 w2 V_new
  replace V_ca := V_ca.other w2 ne_ca_t
  replace K0 := K0.wr w2 (Or.inl (List.mem_of_getElem? (i := 0) rfl))
  replace V_t : Arv Z h2 t kb .byte (2 : Int32) [(.int (lo8 x)), (.int (nar .byte (y.toInt8.toInt32)))] (.int 0) := V_new
  clear V_new
  show Go _ _ _ _ (T2.setTop (mkF m_ 32 #[.val (.ref ca), .val (.int (1 : Int32)), .val (.ref t), .val (.int (1 : Int32)), .val (.int (2 : Int32)), .val (.int (1 : Int32)), .val (.int y)] []))
  rw [nar_byte] at V_t
  refine Go.st (fun _ => XS.iinc W2.here W2.ex rfl (hb hby d5_32) rfl (l' := #[.val (.ref ca), .val (.int (2 : Int32)), .val (.ref t), .val (.int (1 : Int32)), .val (.int (2 : Int32)), .val (.int (1 : Int32)), .val (.int y)]) rfl) ?_
  refine Go.st (fun _ => XS.iinc W2.here W2.ex rfl (hb hby d5_35) rfl (l' := #[.val (.ref ca), .val (.int (2 : Int32)), .val (.ref t), .val (.int (2 : Int32)), .val (.int (2 : Int32)), .val (.int (1 : Int32)), .val (.int y)]) rfl) ?_
  show Go _ _ _ _ (T2.setTop (mkF m_ 38 #[.val (.ref ca), .val (.int (2 : Int32)), .val (.ref t), .val (.int (2 : Int32)), .val (.int (2 : Int32)), .val (.int (1 : Int32)), .val (.int y)] []))
  refine Go.st (fun _ => XS.iinc W2.here W2.ex rfl (hb hby d5_38) rfl (l' := #[.val (.ref ca), .val (.int (2 : Int32)), .val (.ref t), .val (.int (2 : Int32)), .val (.int (2 : Int32)), .val (.int (2 : Int32)), .val (.int y)]) rfl) ?_
  refine Go.st (fun _ => XS.goto W2.here W2.ex rfl (pc0 := 41) (pc' := 3) rfl (hb hby d5_41) (by decide) (by decide)) ?_
  refine Go.st (fun _ => XS.iload W2.here W2.ex rfl (hb hby d5_3) rfl) ?_
  show Go _ _ _ _ (T2.setTop (mkF m_ 5 #[.val (.ref ca), .val (.int (2 : Int32)), .val (.ref t), .val (.int (2 : Int32)), .val (.int (2 : Int32)), .val (.int (2 : Int32)), .val (.int y)] [(.int (2 : Int32))]))
  refine Go.st (fun _ => XS.iload W2.here W2.ex rfl (hb hby d5_5) rfl) ?_
  refine Go.st (fun _ => XS.icmpYes W2.here W2.ex rfl (pc0 := 7) (pc' := 44) rfl (hb hby d5_7) rfl (flt ((by decide) : ¬ ((2 : Int32) < (2 : Int32)))).2.1 (by decide) (by decide)) ?_
  refine Go.st (fun _ => XS.iload W2.here W2.ex rfl (hb hby d5_44) rfl) ?_
  show Go _ _ _ _ (T2.setTop (mkF m_ 46 #[.val (.ref ca), .val (.int (2 : Int32)), .val (.ref t), .val (.int (2 : Int32)), .val (.int (2 : Int32)), .val (.int (2 : Int32)), .val (.int y)] [(.int (2 : Int32))]))
  exact W2.retI hret (hb hby d5_46) (by decide) (by decide) fun vr_ cr_ => ⟨rfl, K0, V_t⟩
theorem ct_c3 {l : Launch} {Z a0 n0 g1 gf hxa khx} (cx : Ctx Z a0 n0 g1 gf hxa khx) {h : Heap} (O : Old Z n0 h) (ca : Addr) (x y : Int32) {kc : ClassId} (V_ca : Arv Z h ca kc .char 2 [(.int x), (.int y)] (.int 0)) (hX : R16 x) (hY : R16 y) :
    Ct l Z consts_1 n0 [] (⟨"java/lang/StringUTF16", "compress", "([CII)[B"⟩ : MethodName) jdk_52_method_16_code 6 (some (.array .byte)) ({ frames := 3, cells := 2, slots := 6, locals := 40 } : Room) #[(.ref ca), (.int (0 : Int32)), (.int (2 : Int32))] [] h (fun v _ h' => ∃ t : Addr, v = some (.ref t) ∧ h.size ≤ t ∧ n0 ≤ t ∧ Keep h h' [] ∧ ((¬ (255 : Int32) < x ∧ ¬ (255 : Int32) < y ∧ ∃ kb, Arv Z h' t kb .byte 2 [.int (lo8 x), .int (lo8 y)] (.int 0)) ∨ (∃ kb, Arv Z h' t kb .byte 4 [(.int (lo8 x)), (.int (hi8 x)), (.int (lo8 y)), (.int (hi8 y))] (.int 0)))) := by
  refine Ct.intro (plainFor_of_name pn2) O cx.ew ?_
  intro p_ e_ s_ m_ bl_ mt_ c_ T0 W0 hby hml hret hnm
  refine Go.st (fun t_ k_ => castTop (g' := mkF m_ 0 #[.val (.ref ca), .val (.int (0 : Int32)), .val (.int (2 : Int32)), .unset, .unset, .unset] []) (by first | (simp [entryFrame, mkF, argsToLocals, Value.category]; done) | rfl) k_) ?_
  show Go _ _ _ _ (T0.setTop (mkF m_ 0 #[.val (.ref ca), .val (.int (0 : Int32)), .val (.int (2 : Int32)), .unset, .unset, .unset] []))
  have K0 : Keep h h [] := Keep.refl _ _
  refine Go.st (fun _ => XS.iloadN W0.here W0.ex rfl (hb hby d4_0) rfl) ?_
  show Go _ _ _ _ (T0.setTop (mkF m_ 1 #[.val (.ref ca), .val (.int (0 : Int32)), .val (.int (2 : Int32)), .unset, .unset, .unset] [(.int (2 : Int32))]))
  refine W0.newP (ty := .byte) (dv := .int 0) rfl rfl (cx.w 20 rfl) (hb hby d4_1) (z := (2 : Int32)) (by decide) (cap := 2) (by decide) (by decide) (k' := 1) (n' := 2) rfl rfl (by decide) (by decide) ?_
  intro T1 h1 b1 kA_b1 hb1 g_b1 W1 E1 V_b1
  have ne_ca_b1 : ca ≠ b1 := Nat.ne_of_lt (Nat.lt_of_lt_of_le V_ca.lt (Nat.le_of_eq hb1.symm))
  have sz_b1 : h.size ≤ b1 := Nat.le_trans K0.1 (Nat.le_of_eq hb1.symm)
  replace V_ca := V_ca.ext E1
  replace K0 := K0.ext E1
  replace V_b1 : Arv Z h1 b1 kA_b1 .byte (2 : Int32) [(.int 0), (.int 0)] (.int 0) := V_b1
  refine Go.st (fun _ => XS.astoreN W1.here W1.ex rfl (hb hby d4_3) rfl rfl (l' := #[.val (.ref ca), .val (.int (0 : Int32)), .val (.int (2 : Int32)), .val (.ref b1), .unset, .unset]) rfl) ?_
  refine Go.st (fun _ => XS.aloadN W1.here W1.ex rfl (hb hby d4_4) rfl rfl) ?_
  refine Go.st (fun _ => XS.iloadN W1.here W1.ex rfl (hb hby d4_5) rfl) ?_
  show Go _ _ _ _ (T1.setTop (mkF m_ 6 #[.val (.ref ca), .val (.int (0 : Int32)), .val (.int (2 : Int32)), .val (.ref b1), .unset, .unset] [(.int (0 : Int32)), (.ref ca)]))
  refine Go.st (fun _ => XS.aloadN W1.here W1.ex rfl (hb hby d4_6) rfl rfl) ?_
  refine Go.st (fun _ => XS.iconst W1.here W1.ex rfl (hb hby d4_7)) ?_
  refine Go.st (fun _ => XS.iloadN W1.here W1.ex rfl (hb hby d4_8) rfl) ?_
  show Go _ _ _ _ (T1.setTop (mkF m_ 9 #[.val (.ref ca), .val (.int (0 : Int32)), .val (.int (2 : Int32)), .val (.ref b1), .unset, .unset] [(.int (2 : Int32)), (.int (0 : Int32)), (.ref b1), (.int (0 : Int32)), (.ref ca)]))
  by_cases z1 : (255 : Int32) < x
  · refine W1.callS (y := Y32) (cx.w 21 rfl) (cx.w 22 rfl) (cx.w 18 rfl) (cx.w 23 rfl) (by decide) (ct_c5A cx W1.old ca b1 x y V_ca V_b1 g_b1 ne_ca_b1 z1) (allS (List.mem_of_getElem? (i := 0) rfl) all0) (by decide) (Wd := 0) (by decide) (k' := 1) (n' := 2) rfl rfl (by decide) (by decide) (by rw [hml]; rfl) (argsL := [(.ref ca), (.int (0 : Int32)), (.ref b1), (.int (0 : Int32)), (.int (2 : Int32))]) (rest := []) rfl (lenOf pd10 rfl) rfl (Nat.le_of_eq rfl) (hb hby d4_9) ?_
    intro v2 vm2 T2 h2 L2 W2 q2
    obtain ⟨rfl, K1, V_b1⟩ := q2
    replace V_ca := V_ca.keep K1 (ninS ne_ca_b1 nin0)
    replace K0 := K0.trans K1 (allS (Or.inr sz_b1) all0)
    refine Go.st (fun _ => XS.istore W2.here W2.ex rfl (hb hby d4_12) rfl (l' := #[.val (.ref ca), .val (.int (0 : Int32)), .val (.int (2 : Int32)), .val (.ref b1), .val (.int (0 : Int32)), .unset]) rfl) ?_
    refine Go.st (fun _ => XS.iload W2.here W2.ex rfl (hb hby d4_14) rfl) ?_
    refine Go.st (fun _ => XS.iloadN W2.here W2.ex rfl (hb hby d4_16) rfl) ?_
    show Go _ _ _ _ (T2.setTop (mkF m_ 17 #[.val (.ref ca), .val (.int (0 : Int32)), .val (.int (2 : Int32)), .val (.ref b1), .val (.int (0 : Int32)), .unset] [(.int (2 : Int32)), (.int (0 : Int32))]))
    refine Go.st (fun _ => XS.icmpNo W2.here W2.ex rfl (hb hby d4_17) rfl (feq ((by decide) : ¬ ((0 : Int32) = (2 : Int32)))).1) ?_
    refine Go.st (fun _ => XS.aloadN W2.here W2.ex rfl (hb hby d4_20) rfl rfl) ?_
    refine Go.st (fun _ => XS.iloadN W2.here W2.ex rfl (hb hby d4_21) rfl) ?_
    show Go _ _ _ _ (T2.setTop (mkF m_ 22 #[.val (.ref ca), .val (.int (0 : Int32)), .val (.int (2 : Int32)), .val (.ref b1), .val (.int (0 : Int32)), .unset] [(.int (0 : Int32)), (.ref ca)]))
    refine Go.st (fun _ => XS.iloadN W2.here W2.ex rfl (hb hby d4_22) rfl) ?_
    show Go _ _ _ _ (T2.setTop (mkF m_ 23 #[.val (.ref ca), .val (.int (0 : Int32)), .val (.int (2 : Int32)), .val (.ref b1), .val (.int (0 : Int32)), .unset] [(.int (2 : Int32)), (.int (0 : Int32)), (.ref ca)]))
    refine W2.callS (y := Y38) (cx.w 65 rfl) (cx.w 66 rfl) (cx.w 18 rfl) (cx.w 67 rfl) (by decide) (ct_tob cx W2.old ca x y V_ca) all0 (by decide) (Wd := 0) (by decide) (k' := 2) (n' := 6) rfl rfl (by decide) (by decide) (by rw [hml]; rfl) (argsL := [(.ref ca), (.int (0 : Int32)), (.int (2 : Int32))]) (rest := []) rfl (lenOf pd11 rfl) rfl (Nat.le_of_eq rfl) (hb hby d4_23) ?_
    intro v3 vm3 T3 h3 L3 W3 q3
    obtain ⟨t, kt, rfl, hz_t, g_t, K2, V_t⟩ := q3
    have ne_ca_t : ca ≠ t := Nat.ne_of_lt (Nat.lt_of_lt_of_le V_ca.lt hz_t)
    have sz_t : h.size ≤ t := Nat.le_trans K0.1 hz_t
    replace V_ca := V_ca.keep K2 nin0
    replace K0 := K0.trans K2 all0
    refine Go.st (fun _ => XS.astore W3.here W3.ex rfl (hb hby d4_26) rfl rfl (l' := #[.val (.ref ca), .val (.int (0 : Int32)), .val (.int (2 : Int32)), .val (.ref b1), .val (.int (0 : Int32)), .val (.ref t)]) rfl) ?_
    refine Go.st (fun _ => XS.aload W3.here W3.ex rfl (hb hby d4_28) rfl rfl) ?_
    refine Go.st (fun _ => XS.iload W3.here W3.ex rfl (hb hby d4_30) rfl) ?_
    show Go _ _ _ _ (T3.setTop (mkF m_ 32 #[.val (.ref ca), .val (.int (0 : Int32)), .val (.int (2 : Int32)), .val (.ref b1), .val (.int (0 : Int32)), .val (.ref t)] [(.int (0 : Int32)), (.ref t)]))
    refine W3.callS (y := Y33) (cx.w 81 rfl) (cx.w 82 rfl) (cx.w 18 rfl) (cx.w 83 rfl) (by decide) (ct_getc0 cx W3.old t x y V_t hX hY) all0 (by decide) (Wd := 0) (by decide) (k' := 2) (n' := 6) rfl rfl (by decide) (by decide) (by rw [hml]; rfl) (argsL := [(.ref t), (.int (0 : Int32))]) (rest := []) rfl (lenOf pd5 rfl) rfl (Nat.le_of_eq rfl) (hb hby d4_32) ?_
    intro v4 vm4 T4 h4 L4 W4 q4
    obtain ⟨rfl, eh_⟩ := q4
    subst h4
    refine Go.st (fun _ => XS.sipush W4.here W4.ex rfl (hb hby d4_35)) ?_
    refine Go.st (fun _ => XS.icmpYes W4.here W4.ex rfl (pc0 := 38) (pc' := 54) rfl (hb hby d4_38) rfl (tlt (z1 : (255 : Int32) < x)).2.2.1 (by decide) (by decide)) ?_
    refine Go.st (fun _ => XS.aload W4.here W4.ex rfl (hb hby d4_54) rfl rfl) ?_
    show Go _ _ _ _ (T4.setTop (mkF m_ 56 #[.val (.ref ca), .val (.int (0 : Int32)), .val (.int (2 : Int32)), .val (.ref b1), .val (.int (0 : Int32)), .val (.ref t)] [(.ref t)]))
    exact W4.retA hret rfl rfl (hb hby d4_56) (by decide) (by decide) fun vr_ cr_ => ⟨t, rfl, sz_t, g_t, K0, Or.inr ⟨_, V_t⟩⟩
  · by_cases z2 : (255 : Int32) < y
    · refine W1.callS (y := Y32) (cx.w 21 rfl) (cx.w 22 rfl) (cx.w 18 rfl) (cx.w 23 rfl) (by decide) (ct_c5B cx W1.old ca b1 x y V_ca V_b1 g_b1 ne_ca_b1 z1 z2) (allS (List.mem_of_getElem? (i := 0) rfl) all0) (by decide) (Wd := 0) (by decide) (k' := 1) (n' := 2) rfl rfl (by decide) (by decide) (by rw [hml]; rfl) (argsL := [(.ref ca), (.int (0 : Int32)), (.ref b1), (.int (0 : Int32)), (.int (2 : Int32))]) (rest := []) rfl (lenOf pd10 rfl) rfl (Nat.le_of_eq rfl) (hb hby d4_9) ?_
      intro v5 vm5 T5 h5 L5 W5 q5
      obtain ⟨rfl, K1, V_b1⟩ := q5
      replace V_ca := V_ca.keep K1 (ninS ne_ca_b1 nin0)
      replace K0 := K0.trans K1 (allS (Or.inr sz_b1) all0)
      refine Go.st (fun _ => XS.istore W5.here W5.ex rfl (hb hby d4_12) rfl (l' := #[.val (.ref ca), .val (.int (0 : Int32)), .val (.int (2 : Int32)), .val (.ref b1), .val (.int (1 : Int32)), .unset]) rfl) ?_
      refine Go.st (fun _ => XS.iload W5.here W5.ex rfl (hb hby d4_14) rfl) ?_
      refine Go.st (fun _ => XS.iloadN W5.here W5.ex rfl (hb hby d4_16) rfl) ?_
      show Go _ _ _ _ (T5.setTop (mkF m_ 17 #[.val (.ref ca), .val (.int (0 : Int32)), .val (.int (2 : Int32)), .val (.ref b1), .val (.int (1 : Int32)), .unset] [(.int (2 : Int32)), (.int (1 : Int32))]))
      refine Go.st (fun _ => XS.icmpNo W5.here W5.ex rfl (hb hby d4_17) rfl (feq ((by decide) : ¬ ((1 : Int32) = (2 : Int32)))).1) ?_
      refine Go.st (fun _ => XS.aloadN W5.here W5.ex rfl (hb hby d4_20) rfl rfl) ?_
      refine Go.st (fun _ => XS.iloadN W5.here W5.ex rfl (hb hby d4_21) rfl) ?_
      show Go _ _ _ _ (T5.setTop (mkF m_ 22 #[.val (.ref ca), .val (.int (0 : Int32)), .val (.int (2 : Int32)), .val (.ref b1), .val (.int (1 : Int32)), .unset] [(.int (0 : Int32)), (.ref ca)]))
      refine Go.st (fun _ => XS.iloadN W5.here W5.ex rfl (hb hby d4_22) rfl) ?_
      show Go _ _ _ _ (T5.setTop (mkF m_ 23 #[.val (.ref ca), .val (.int (0 : Int32)), .val (.int (2 : Int32)), .val (.ref b1), .val (.int (1 : Int32)), .unset] [(.int (2 : Int32)), (.int (0 : Int32)), (.ref ca)]))
      refine W5.callS (y := Y38) (cx.w 65 rfl) (cx.w 66 rfl) (cx.w 18 rfl) (cx.w 67 rfl) (by decide) (ct_tob cx W5.old ca x y V_ca) all0 (by decide) (Wd := 0) (by decide) (k' := 2) (n' := 6) rfl rfl (by decide) (by decide) (by rw [hml]; rfl) (argsL := [(.ref ca), (.int (0 : Int32)), (.int (2 : Int32))]) (rest := []) rfl (lenOf pd11 rfl) rfl (Nat.le_of_eq rfl) (hb hby d4_23) ?_
      intro v6 vm6 T6 h6 L6 W6 q6
      obtain ⟨t, kt, rfl, hz_t, g_t, K2, V_t⟩ := q6
      have ne_ca_t : ca ≠ t := Nat.ne_of_lt (Nat.lt_of_lt_of_le V_ca.lt hz_t)
      have sz_t : h.size ≤ t := Nat.le_trans K0.1 hz_t
      replace V_ca := V_ca.keep K2 nin0
      replace K0 := K0.trans K2 all0
      refine Go.st (fun _ => XS.astore W6.here W6.ex rfl (hb hby d4_26) rfl rfl (l' := #[.val (.ref ca), .val (.int (0 : Int32)), .val (.int (2 : Int32)), .val (.ref b1), .val (.int (1 : Int32)), .val (.ref t)]) rfl) ?_
      refine Go.st (fun _ => XS.aload W6.here W6.ex rfl (hb hby d4_28) rfl rfl) ?_
      refine Go.st (fun _ => XS.iload W6.here W6.ex rfl (hb hby d4_30) rfl) ?_
      show Go _ _ _ _ (T6.setTop (mkF m_ 32 #[.val (.ref ca), .val (.int (0 : Int32)), .val (.int (2 : Int32)), .val (.ref b1), .val (.int (1 : Int32)), .val (.ref t)] [(.int (1 : Int32)), (.ref t)]))
      refine W6.callS (y := Y33) (cx.w 81 rfl) (cx.w 82 rfl) (cx.w 18 rfl) (cx.w 83 rfl) (by decide) (ct_getc1 cx W6.old t x y V_t hX hY) all0 (by decide) (Wd := 0) (by decide) (k' := 2) (n' := 6) rfl rfl (by decide) (by decide) (by rw [hml]; rfl) (argsL := [(.ref t), (.int (1 : Int32))]) (rest := []) rfl (lenOf pd5 rfl) rfl (Nat.le_of_eq rfl) (hb hby d4_32) ?_
      intro v7 vm7 T7 h7 L7 W7 q7
      obtain ⟨rfl, eh_⟩ := q7
      subst h7
      refine Go.st (fun _ => XS.sipush W7.here W7.ex rfl (hb hby d4_35)) ?_
      refine Go.st (fun _ => XS.icmpYes W7.here W7.ex rfl (pc0 := 38) (pc' := 54) rfl (hb hby d4_38) rfl (tlt (z2 : (255 : Int32) < y)).2.2.1 (by decide) (by decide)) ?_
      refine Go.st (fun _ => XS.aload W7.here W7.ex rfl (hb hby d4_54) rfl rfl) ?_
      show Go _ _ _ _ (T7.setTop (mkF m_ 56 #[.val (.ref ca), .val (.int (0 : Int32)), .val (.int (2 : Int32)), .val (.ref b1), .val (.int (1 : Int32)), .val (.ref t)] [(.ref t)]))
      exact W7.retA hret rfl rfl (hb hby d4_56) (by decide) (by decide) fun vr_ cr_ => ⟨t, rfl, sz_t, g_t, K0, Or.inr ⟨_, V_t⟩⟩
    · refine W1.callS (y := Y32) (cx.w 21 rfl) (cx.w 22 rfl) (cx.w 18 rfl) (cx.w 23 rfl) (by decide) (ct_c5C cx W1.old ca b1 x y V_ca V_b1 g_b1 ne_ca_b1 z1 z2) (allS (List.mem_of_getElem? (i := 0) rfl) all0) (by decide) (Wd := 0) (by decide) (k' := 1) (n' := 2) rfl rfl (by decide) (by decide) (by rw [hml]; rfl) (argsL := [(.ref ca), (.int (0 : Int32)), (.ref b1), (.int (0 : Int32)), (.int (2 : Int32))]) (rest := []) rfl (lenOf pd10 rfl) rfl (Nat.le_of_eq rfl) (hb hby d4_9) ?_
      intro v8 vm8 T8 h8 L8 W8 q8
      obtain ⟨rfl, K1, V_b1⟩ := q8
      replace V_ca := V_ca.keep K1 (ninS ne_ca_b1 nin0)
      replace K0 := K0.trans K1 (allS (Or.inr sz_b1) all0)
      refine Go.st (fun _ => XS.istore W8.here W8.ex rfl (hb hby d4_12) rfl (l' := #[.val (.ref ca), .val (.int (0 : Int32)), .val (.int (2 : Int32)), .val (.ref b1), .val (.int (2 : Int32)), .unset]) rfl) ?_
      refine Go.st (fun _ => XS.iload W8.here W8.ex rfl (hb hby d4_14) rfl) ?_
      refine Go.st (fun _ => XS.iloadN W8.here W8.ex rfl (hb hby d4_16) rfl) ?_
      show Go _ _ _ _ (T8.setTop (mkF m_ 17 #[.val (.ref ca), .val (.int (0 : Int32)), .val (.int (2 : Int32)), .val (.ref b1), .val (.int (2 : Int32)), .unset] [(.int (2 : Int32)), (.int (2 : Int32))]))
      refine Go.st (fun _ => XS.icmpYes W8.here W8.ex rfl (pc0 := 17) (pc' := 57) rfl (hb hby d4_17) rfl (teq (rfl : (2 : Int32) = (2 : Int32))).1 (by decide) (by decide)) ?_
      refine Go.st (fun _ => XS.aloadN W8.here W8.ex rfl (hb hby d4_57) rfl rfl) ?_
      show Go _ _ _ _ (T8.setTop (mkF m_ 58 #[.val (.ref ca), .val (.int (0 : Int32)), .val (.int (2 : Int32)), .val (.ref b1), .val (.int (2 : Int32)), .unset] [(.ref b1)]))
      exact W8.retA hret rfl rfl (hb hby d4_58) (by decide) (by decide) fun vr_ cr_ => ⟨b1, rfl, sz_b1, g_b1, K0, Or.inl ⟨z1, z2, _, V_b1⟩⟩
theorem ct_cfa2 {l : Launch} {Z a0 n0 g1 gf hxa khx} (cx : Ctx Z a0 n0 g1 gf hxa khx) {h : Heap} (O : Old Z n0 h) (t : Addr) {kb : ClassId} {vs : List Value} (V_t : Arv Z h t kb .byte 2 vs (.int 0)) :
    Ct l Z consts_1 n0 [] Y30 jdk_52_method_15_code 2 (some .byte) ({ frames := 0, cells := 0, slots := 0, locals := 0 } : Room) #[(.ref t), (.int (2 : Int32))] [] h (fun v _ h' => v = some (.int 0) ∧ h' = h) := by
  refine Ct.intro (plainFor_of_name pn2) O cx.ew ?_
  intro p_ e_ s_ m_ bl_ mt_ c_ T0 W0 hby hml hret hnm
  refine Go.st (fun t_ k_ => castTop (g' := mkF m_ 0 #[.val (.ref t), .val (.int (2 : Int32))] []) (by first | (simp [entryFrame, mkF, argsToLocals, Value.category]; done) | rfl) k_) ?_
  refine Go.st (fun _ => XS.iloadN W0.here W0.ex rfl (hb hby d6_0) rfl) ?_
  refine Go.st (fun _ => XS.aloadN W0.here W0.ex rfl (hb hby d6_1) rfl rfl) ?_
  show Go _ _ _ _ (T0.setTop (mkF m_ 2 #[.val (.ref t), .val (.int (2 : Int32))] [(.ref t), (.int (2 : Int32))]))
  refine W0.alen V_t (hb hby d6_2) ?_
  refine Go.st (fun _ => XS.isub W0.here W0.ex rfl (hb hby d6_3) rfl) ?_
  show Go _ _ _ _ (T0.setTop (mkF m_ 4 #[.val (.ref t), .val (.int (2 : Int32))] [(.int ((2 : Int32) - (2 : Int32)))]))
  rw [show ((2 : Int32) - (2 : Int32)) = (0 : Int32) from by decide]
  refine Go.st (fun _ => XS.bipush W0.here W0.ex rfl (hb hby d6_4)) ?_
  refine Go.st (fun _ => XS.iushr W0.here W0.ex rfl (hb hby d6_6) rfl) ?_
  show Go _ _ _ _ (T0.setTop (mkF m_ 7 #[.val (.ref t), .val (.int (2 : Int32))] [(.int (((0 : Int32).toUInt32 >>> ((31 : Int32) &&& 31).toUInt32).toInt32))]))
  refine Go.st (fun _ => XS.i2b W0.here W0.ex rfl (hb hby d6_7) rfl) ?_
  show Go _ _ _ _ (T0.setTop (mkF m_ 8 #[.val (.ref t), .val (.int (2 : Int32))] [(.int ((((0 : Int32).toUInt32 >>> ((31 : Int32) &&& 31).toUInt32).toInt32).toInt8.toInt32))]))
  exact W0.retN hret (by simp) (hb hby d6_8) (by decide) (by decide) fun vr_ cr_ => ⟨rfl, rfl⟩
theorem ct_cfa4 {l : Launch} {Z a0 n0 g1 gf hxa khx} (cx : Ctx Z a0 n0 g1 gf hxa khx) {h : Heap} (O : Old Z n0 h) (t : Addr) {kb : ClassId} {vs : List Value} (V_t : Arv Z h t kb .byte 4 vs (.int 0)) :
    Ct l Z consts_1 n0 [] Y30 jdk_52_method_15_code 2 (some .byte) ({ frames := 0, cells := 0, slots := 0, locals := 0 } : Room) #[(.ref t), (.int (2 : Int32))] [] h (fun v _ h' => v = some (.int 1) ∧ h' = h) := by
  refine Ct.intro (plainFor_of_name pn2) O cx.ew ?_
  intro p_ e_ s_ m_ bl_ mt_ c_ T0 W0 hby hml hret hnm
  refine Go.st (fun t_ k_ => castTop (g' := mkF m_ 0 #[.val (.ref t), .val (.int (2 : Int32))] []) (by first | (simp [entryFrame, mkF, argsToLocals, Value.category]; done) | rfl) k_) ?_
  refine Go.st (fun _ => XS.iloadN W0.here W0.ex rfl (hb hby d6_0) rfl) ?_
  refine Go.st (fun _ => XS.aloadN W0.here W0.ex rfl (hb hby d6_1) rfl rfl) ?_
  show Go _ _ _ _ (T0.setTop (mkF m_ 2 #[.val (.ref t), .val (.int (2 : Int32))] [(.ref t), (.int (2 : Int32))]))
  refine W0.alen V_t (hb hby d6_2) ?_
  refine Go.st (fun _ => XS.isub W0.here W0.ex rfl (hb hby d6_3) rfl) ?_
  show Go _ _ _ _ (T0.setTop (mkF m_ 4 #[.val (.ref t), .val (.int (2 : Int32))] [(.int ((2 : Int32) - (4 : Int32)))]))
  rw [show ((2 : Int32) - (4 : Int32)) = (-2 : Int32) from by decide]
  refine Go.st (fun _ => XS.bipush W0.here W0.ex rfl (hb hby d6_4)) ?_
  refine Go.st (fun _ => XS.iushr W0.here W0.ex rfl (hb hby d6_6) rfl) ?_
  show Go _ _ _ _ (T0.setTop (mkF m_ 7 #[.val (.ref t), .val (.int (2 : Int32))] [(.int (((-2 : Int32).toUInt32 >>> ((31 : Int32) &&& 31).toUInt32).toInt32))]))
  refine Go.st (fun _ => XS.i2b W0.here W0.ex rfl (hb hby d6_7) rfl) ?_
  show Go _ _ _ _ (T0.setTop (mkF m_ 8 #[.val (.ref t), .val (.int (2 : Int32))] [(.int ((((-2 : Int32).toUInt32 >>> ((31 : Int32) &&& 31).toUInt32).toInt32).toInt8.toInt32))]))
  exact W0.retN hret (by simp) (hb hby d6_8) (by decide) (by decide) fun vr_ cr_ => ⟨rfl, rfl⟩
theorem ct_i4 {l : Launch} {Z a0 n0 g1 gf hxa khx} (cx : Ctx Z a0 n0 g1 gf hxa khx) {h : Heap} (O : Old Z n0 h) (q ca : Addr) (x y : Int32) {kc : ClassId} (E_q : Exa Z h q "java/lang/String") (F_value_q : Fld Z h q "java/lang/String" "value" "[B" .null) (F_coder_q : Fld Z h q "java/lang/String" "coder" "B" (.int 0)) (g_q : n0 ≤ q) (V_ca : Arv Z h ca kc .char 2 [(.int x), (.int y)] (.int 0)) (hX : R16 x) (hY : R16 y) :
    Ct l Z consts_1 n0 [] (⟨"java/lang/String", "<init>", "([CIILjava/lang/Void;)V"⟩ : MethodName) jdk_42_method_149_code 6 none ({ frames := 4, cells := 2, slots := 6, locals := 57 } : Room) #[(.ref q), (.ref ca), (.int (0 : Int32)), (.int (2 : Int32)), .null] [q] h (fun v _ h' => v = none ∧ ∃ t : Addr, h.size ≤ t ∧ Keep h h' [q] ∧ Str2 Z h' q t x y) := by
  refine Ct.intro (plainFor_of_name pn1) O cx.ew ?_
  intro p_ e_ s_ m_ bl_ mt_ c_ T0 W0 hby hml hret hnm
  refine Go.st (fun t_ k_ => castTop (g' := mkF m_ 0 #[.val (.ref q), .val (.ref ca), .val (.int (0 : Int32)), .val (.int (2 : Int32)), .val .null, .unset] []) (by first | (simp [entryFrame, mkF, argsToLocals, Value.category]; done) | rfl) k_) ?_
  show Go _ _ _ _ (T0.setTop (mkF m_ 0 #[.val (.ref q), .val (.ref ca), .val (.int (0 : Int32)), .val (.int (2 : Int32)), .val .null, .unset] []))
  have K0 : Keep h h [q] := Keep.refl _ _
  refine Go.st (fun _ => XS.aloadN W0.here W0.ex rfl (hb hby d2_0) rfl rfl) ?_
  show Go _ _ _ _ (T0.setTop (mkF m_ 1 #[.val (.ref q), .val (.ref ca), .val (.int (0 : Int32)), .val (.int (2 : Int32)), .val .null, .unset] [(.ref q)]))
  refine W0.initO (cx.w 12 rfl) (cx.w 13 rfl) (cx.w 14 rfl) (by rw [hml]; rfl) (hb hby d2_1) (by decide) (Wd := 0) (Nat.le_of_eq rfl) (by decide) ?_
  intro T1 W1
  refine Go.st (fun _ => XS.iloadN W1.here W1.ex rfl (hb hby d2_4) rfl) ?_
  refine Go.st (fun _ => XS.ifYes W1.here W1.ex rfl (pc0 := 5) (pc' := 27) rfl (hb hby d2_5) rfl ((if0 _ _).trans (feq ((by decide) : ¬ ((2 : Int32) = (0 : Int32)))).2) (by decide) (by decide)) ?_
  show Go _ _ _ _ (T1.setTop (mkF m_ 27 #[.val (.ref q), .val (.ref ca), .val (.int (0 : Int32)), .val (.int (2 : Int32)), .val .null, .unset] []))
  refine W1.getS (cx.w 15 rfl) Via.refl (cx.cmp.ext W1.e0) (hb hby d2_27) ?_
  intro T2 W2
  refine Go.st (fun _ => XS.ifNo W2.here W2.ex rfl (hb hby d2_30) rfl ((if0 _ _).trans (feq (cx.g1 : ¬ (g1 = (0 : Int32)))).1)) ?_
  refine Go.st (fun _ => XS.aloadN W2.here W2.ex rfl (hb hby d2_33) rfl rfl) ?_
  refine Go.st (fun _ => XS.iloadN W2.here W2.ex rfl (hb hby d2_34) rfl) ?_
  show Go _ _ _ _ (T2.setTop (mkF m_ 35 #[.val (.ref q), .val (.ref ca), .val (.int (0 : Int32)), .val (.int (2 : Int32)), .val .null, .unset] [(.int (0 : Int32)), (.ref ca)]))
  refine Go.st (fun _ => XS.iloadN W2.here W2.ex rfl (hb hby d2_35) rfl) ?_
  show Go _ _ _ _ (T2.setTop (mkF m_ 36 #[.val (.ref q), .val (.ref ca), .val (.int (0 : Int32)), .val (.int (2 : Int32)), .val .null, .unset] [(.int (2 : Int32)), (.int (0 : Int32)), (.ref ca)]))
  refine W2.callS (y := (⟨"java/lang/StringUTF16", "compress", "([CII)[B"⟩ : MethodName)) (cx.w 16 rfl) (cx.w 17 rfl) (cx.w 18 rfl) (cx.w 19 rfl) (by decide) (ct_c3 cx W2.old ca x y V_ca hX hY) all0 (by decide) (Wd := 0) (by decide) (k' := 2) (n' := 6) rfl rfl (by decide) (by decide) (by rw [hml]; rfl) (argsL := [(.ref ca), (.int (0 : Int32)), (.int (2 : Int32))]) (rest := []) rfl (lenOf pd11 rfl) rfl (Nat.le_of_eq rfl) (hb hby d2_36) ?_
  intro v3 vm3 T3 h3 L3 W3 q3
  obtain ⟨t, rfl, hz_t, g_t, K1, hAlt⟩ := q3
  have ne_q_t : q ≠ t := Nat.ne_of_lt (Nat.lt_of_lt_of_le E_q.lt hz_t)
  have ne_ca_t : ca ≠ t := Nat.ne_of_lt (Nat.lt_of_lt_of_le V_ca.lt hz_t)
  have sz_t : h.size ≤ t := Nat.le_trans K0.1 hz_t
  replace E_q := E_q.keep K1
  replace F_value_q := F_value_q.keep K1 nin0
  replace F_coder_q := F_coder_q.keep K1 nin0
  replace V_ca := V_ca.keep K1 nin0
  replace K0 := K0.trans K1 all0
  show Go _ _ _ _ (T3.setTop (mkF m_ 39 #[.val (.ref q), .val (.ref ca), .val (.int (0 : Int32)), .val (.int (2 : Int32)), .val .null, .unset] [(.ref t)]))
  rcases hAlt with ⟨z1, z2, kb, V_t⟩ | ⟨kb, V_t⟩
  · refine Go.st (fun _ => XS.astore W3.here W3.ex rfl (hb hby d2_39) rfl rfl (l' := #[.val (.ref q), .val (.ref ca), .val (.int (0 : Int32)), .val (.int (2 : Int32)), .val .null, .val (.ref t)]) rfl) ?_
    refine Go.st (fun _ => XS.aloadN W3.here W3.ex rfl (hb hby d2_41) rfl rfl) ?_
    show Go _ _ _ _ (T3.setTop (mkF m_ 42 #[.val (.ref q), .val (.ref ca), .val (.int (0 : Int32)), .val (.int (2 : Int32)), .val .null, .val (.ref t)] [(.ref q)]))
    refine Go.st (fun _ => XS.aload W3.here W3.ex rfl (hb hby d2_42) rfl rfl) ?_
    refine Go.st (fun _ => XS.iloadN W3.here W3.ex rfl (hb hby d2_44) rfl) ?_
    show Go _ _ _ _ (T3.setTop (mkF m_ 45 #[.val (.ref q), .val (.ref ca), .val (.int (0 : Int32)), .val (.int (2 : Int32)), .val .null, .val (.ref t)] [(.int (2 : Int32)), (.ref t), (.ref q)]))
    refine W3.callS (y := Y30) (cx.w 24 rfl) (cx.w 25 rfl) (cx.w 18 rfl) (cx.w 26 rfl) (by decide) (ct_cfa2 cx W3.old t V_t) all0 (by decide) (Wd := 1) (by decide) (k' := 2) (n' := 6) rfl rfl (by decide) (by decide) (by rw [hml]; rfl) (argsL := [(.ref t), (.int (2 : Int32))]) (rest := [(.ref q)]) rfl (lenOf pd12 rfl) rfl (Nat.le_of_eq rfl) (hb hby d2_45) ?_
    intro v4 vm4 T4 h4 L4 W4 q4
    obtain ⟨rfl, eh_⟩ := q4
    subst h4
    show Go _ _ _ _ (T4.setTop (mkF m_ 48 #[.val (.ref q), .val (.ref ca), .val (.int (0 : Int32)), .val (.int (2 : Int32)), .val .null, .val (.ref t)] [(.int (0 : Int32)), (.ref q)]))
    refine W4.putF (cx.w 27 rfl) Via.refl F_coder_q E_q (Or.inr ⟨(cx.w 28 rfl), rfl, hnm⟩) (cx.w 3 rfl) (ty := .byte) (by decide) rfl rfl (List.mem_of_getElem? (i := 0) rfl) g_q (hb hby d2_48) ?_
    intro T5 h5 L5 W5 w5
    have ne_ca_q : ca ≠ q := (Ne.symm (Exa.neArv E_q V_ca (cx.w 3 rfl)))
    replace E_q := E_q.wr w5
    replace F_value_q := F_value_q.other w5 (Or.inr (slot_ne (Or.inr (cx.w 30 rfl)) (Or.inr (cx.w 28 rfl)) (by decide) (t := (.array .byte)) (t' := .byte) (by decide) (by decide)))
    replace F_coder_q := F_coder_q.same w5
    replace V_ca := V_ca.other w5 ne_ca_q
    replace V_t := V_t.other w5 (Ne.symm ne_q_t)
    replace K0 := K0.wr w5 (Or.inl (List.mem_of_getElem? (i := 0) rfl))
    refine Go.st (fun _ => XS.aloadN W5.here W5.ex rfl (hb hby d2_51) rfl rfl) ?_
    refine Go.st (fun _ => XS.aload W5.here W5.ex rfl (hb hby d2_52) rfl rfl) ?_
    show Go _ _ _ _ (T5.setTop (mkF m_ 54 #[.val (.ref q), .val (.ref ca), .val (.int (0 : Int32)), .val (.int (2 : Int32)), .val .null, .val (.ref t)] [(.ref t), (.ref q)]))
    refine W5.putF (cx.w 29 rfl) Via.refl F_value_q E_q (Or.inr ⟨(cx.w 30 rfl), rfl, hnm⟩) (cx.w 3 rfl) (ty := (.array .byte)) (by decide) rfl rfl (List.mem_of_getElem? (i := 0) rfl) g_q (hb hby d2_54) ?_
    intro T6 h6 L6 W6 w6
    replace E_q := E_q.wr w6
    replace F_value_q := F_value_q.same w6
    replace F_coder_q := F_coder_q.other w6 (Or.inr (slot_ne (Or.inr (cx.w 28 rfl)) (Or.inr (cx.w 30 rfl)) (by decide) (t := .byte) (t' := (.array .byte)) (by decide) (by decide)))
    replace V_ca := V_ca.other w6 ne_ca_q
    replace V_t := V_t.other w6 (Ne.symm ne_q_t)
    replace K0 := K0.wr w6 (Or.inl (List.mem_of_getElem? (i := 0) rfl))
    show Go _ _ _ _ (T6.setTop (mkF m_ 57 #[.val (.ref q), .val (.ref ca), .val (.int (0 : Int32)), .val (.int (2 : Int32)), .val .null, .val (.ref t)] []))
    exact W6.retV hret (hb hby d2_57) (by decide) (by decide) fun vr_ cr_ => ⟨rfl, t, hz_t, K0, E_q, F_value_q, Or.inl ⟨F_coder_q, ⟨_, V_t⟩, z1, z2⟩⟩
  · refine Go.st (fun _ => XS.astore W3.here W3.ex rfl (hb hby d2_39) rfl rfl (l' := #[.val (.ref q), .val (.ref ca), .val (.int (0 : Int32)), .val (.int (2 : Int32)), .val .null, .val (.ref t)]) rfl) ?_
    refine Go.st (fun _ => XS.aloadN W3.here W3.ex rfl (hb hby d2_41) rfl rfl) ?_
    show Go _ _ _ _ (T3.setTop (mkF m_ 42 #[.val (.ref q), .val (.ref ca), .val (.int (0 : Int32)), .val (.int (2 : Int32)), .val .null, .val (.ref t)] [(.ref q)]))
    refine Go.st (fun _ => XS.aload W3.here W3.ex rfl (hb hby d2_42) rfl rfl) ?_
    refine Go.st (fun _ => XS.iloadN W3.here W3.ex rfl (hb hby d2_44) rfl) ?_
    show Go _ _ _ _ (T3.setTop (mkF m_ 45 #[.val (.ref q), .val (.ref ca), .val (.int (0 : Int32)), .val (.int (2 : Int32)), .val .null, .val (.ref t)] [(.int (2 : Int32)), (.ref t), (.ref q)]))
    refine W3.callS (y := Y30) (cx.w 24 rfl) (cx.w 25 rfl) (cx.w 18 rfl) (cx.w 26 rfl) (by decide) (ct_cfa4 cx W3.old t V_t) all0 (by decide) (Wd := 1) (by decide) (k' := 2) (n' := 6) rfl rfl (by decide) (by decide) (by rw [hml]; rfl) (argsL := [(.ref t), (.int (2 : Int32))]) (rest := [(.ref q)]) rfl (lenOf pd12 rfl) rfl (Nat.le_of_eq rfl) (hb hby d2_45) ?_
    intro v7 vm7 T7 h7 L7 W7 q7
    obtain ⟨rfl, eh_⟩ := q7
    subst h7
    show Go _ _ _ _ (T7.setTop (mkF m_ 48 #[.val (.ref q), .val (.ref ca), .val (.int (0 : Int32)), .val (.int (2 : Int32)), .val .null, .val (.ref t)] [(.int (1 : Int32)), (.ref q)]))
    refine W7.putF (cx.w 27 rfl) Via.refl F_coder_q E_q (Or.inr ⟨(cx.w 28 rfl), rfl, hnm⟩) (cx.w 3 rfl) (ty := .byte) (by decide) rfl rfl (List.mem_of_getElem? (i := 0) rfl) g_q (hb hby d2_48) ?_
    intro T8 h8 L8 W8 w8
    have ne_ca_q : ca ≠ q := (Ne.symm (Exa.neArv E_q V_ca (cx.w 3 rfl)))
    replace E_q := E_q.wr w8
    replace F_value_q := F_value_q.other w8 (Or.inr (slot_ne (Or.inr (cx.w 30 rfl)) (Or.inr (cx.w 28 rfl)) (by decide) (t := (.array .byte)) (t' := .byte) (by decide) (by decide)))
    replace F_coder_q := F_coder_q.same w8
    replace V_ca := V_ca.other w8 ne_ca_q
    replace V_t := V_t.other w8 (Ne.symm ne_q_t)
    replace K0 := K0.wr w8 (Or.inl (List.mem_of_getElem? (i := 0) rfl))
    refine Go.st (fun _ => XS.aloadN W8.here W8.ex rfl (hb hby d2_51) rfl rfl) ?_
    refine Go.st (fun _ => XS.aload W8.here W8.ex rfl (hb hby d2_52) rfl rfl) ?_
    show Go _ _ _ _ (T8.setTop (mkF m_ 54 #[.val (.ref q), .val (.ref ca), .val (.int (0 : Int32)), .val (.int (2 : Int32)), .val .null, .val (.ref t)] [(.ref t), (.ref q)]))
    refine W8.putF (cx.w 29 rfl) Via.refl F_value_q E_q (Or.inr ⟨(cx.w 30 rfl), rfl, hnm⟩) (cx.w 3 rfl) (ty := (.array .byte)) (by decide) rfl rfl (List.mem_of_getElem? (i := 0) rfl) g_q (hb hby d2_54) ?_
    intro T9 h9 L9 W9 w9
    replace E_q := E_q.wr w9
    replace F_value_q := F_value_q.same w9
    replace F_coder_q := F_coder_q.other w9 (Or.inr (slot_ne (Or.inr (cx.w 28 rfl)) (Or.inr (cx.w 30 rfl)) (by decide) (t := .byte) (t' := (.array .byte)) (by decide) (by decide)))
    replace V_ca := V_ca.other w9 ne_ca_q
    replace V_t := V_t.other w9 (Ne.symm ne_q_t)
    replace K0 := K0.wr w9 (Or.inl (List.mem_of_getElem? (i := 0) rfl))
    show Go _ _ _ _ (T9.setTop (mkF m_ 57 #[.val (.ref q), .val (.ref ca), .val (.int (0 : Int32)), .val (.int (2 : Int32)), .val .null, .val (.ref t)] []))
    exact W9.retV hret (hb hby d2_57) (by decide) (by decide) fun vr_ cr_ => ⟨rfl, t, hz_t, K0, E_q, F_value_q, Or.inr ⟨F_coder_q, _, V_t⟩⟩
theorem ct_i1 {l : Launch} {Z a0 n0 g1 gf hxa khx} (cx : Ctx Z a0 n0 g1 gf hxa khx) {h : Heap} (O : Old Z n0 h) (q ca : Addr) (x y : Int32) {kc : ClassId} (E_q : Exa Z h q "java/lang/String") (F_value_q : Fld Z h q "java/lang/String" "value" "[B" .null) (F_coder_q : Fld Z h q "java/lang/String" "coder" "B" (.int 0)) (g_q : n0 ≤ q) (V_ca : Arv Z h ca kc .char 2 [(.int x), (.int y)] (.int 0)) (hX : R16 x) (hY : R16 y) :
    Ct l Z consts_1 n0 [] (⟨"java/lang/String", "<init>", "([C)V"⟩ : MethodName) jdk_42_method_3_code 2 none ({ frames := 5, cells := 2, slots := 6, locals := 74 } : Room) #[(.ref q), (.ref ca)] [q] h (fun v _ h' => v = none ∧ ∃ t : Addr, h.size ≤ t ∧ Keep h h' [q] ∧ Str2 Z h' q t x y) := by
  refine Ct.intro (plainFor_of_name pn1) O cx.ew ?_
  intro p_ e_ s_ m_ bl_ mt_ c_ T0 W0 hby hml hret hnm
  refine Go.st (fun t_ k_ => castTop (g' := mkF m_ 0 #[.val (.ref q), .val (.ref ca)] []) (by first | (simp [entryFrame, mkF, argsToLocals, Value.category]; done) | rfl) k_) ?_
  refine Go.st (fun _ => XS.aloadN W0.here W0.ex rfl (hb hby d1_0) rfl rfl) ?_
  refine Go.st (fun _ => XS.aloadN W0.here W0.ex rfl (hb hby d1_1) rfl rfl) ?_
  refine Go.st (fun _ => XS.iconst W0.here W0.ex rfl (hb hby d1_2)) ?_
  show Go _ _ _ _ (T0.setTop (mkF m_ 3 #[.val (.ref q), .val (.ref ca)] [(.int (0 : Int32)), (.ref ca), (.ref q)]))
  refine Go.st (fun _ => XS.aloadN W0.here W0.ex rfl (hb hby d1_3) rfl rfl) ?_
  show Go _ _ _ _ (T0.setTop (mkF m_ 4 #[.val (.ref q), .val (.ref ca)] [(.ref ca), (.int (0 : Int32)), (.ref ca), (.ref q)]))
  refine W0.alen V_ca (hb hby d1_4) ?_
  refine Go.st (fun _ => XS.aconstNull W0.here W0.ex rfl (hb hby d1_5)) ?_
  show Go _ _ _ _ (T0.setTop (mkF m_ 6 #[.val (.ref q), .val (.ref ca)] [.null, (.int (2 : Int32)), (.int (0 : Int32)), (.ref ca), (.ref q)]))
  refine W0.callI (y := (⟨"java/lang/String", "<init>", "([CIILjava/lang/Void;)V"⟩ : MethodName)) rfl (cx.w 8 rfl) (cx.w 9 rfl) (cx.w 4 rfl) (cx.w 11 rfl) (by decide) (ct_i4 cx W0.old q ca x y E_q F_value_q F_coder_q g_q V_ca hX hY) (allS (List.mem_of_getElem? (i := 0) rfl) all0) (by decide) (Wd := 0) (by decide) (k' := 2) (n' := 6) rfl rfl (by decide) (by decide) (by rw [hml]; rfl) (a := q) (argsL := [(.ref ca), (.int (0 : Int32)), (.int (2 : Int32)), .null]) (rest := []) rfl (lenOf pd13 rfl) rfl (Nat.le_of_eq rfl) (hb hby d1_6) ?_
  intro v1 vm1 T1 h1 L1 W1 q1
  obtain ⟨rfl, t, hz_t, K1, S_q⟩ := q1
  show Go _ _ _ _ (T1.setTop (mkF m_ 9 #[.val (.ref q), .val (.ref ca)] []))
  exact W1.retV hret (hb hby d1_9) (by decide) (by decide) fun vr_ cr_ => ⟨rfl, t, hz_t, K1, S_q⟩
theorem ct_room {l : Launch} {Z a0 n0 g1 gf hxa khx} (cx : Ctx Z a0 n0 g1 gf hxa khx) {h : Heap} (O : Old Z n0 h) (j b : Addr) (bs : List Int32) {kb : ClassId} (k : Nat) (f : Int32) (hk : k ≤ 100) (J : JT Z h j b kb bs f) (g_j : n0 ≤ j) (g_b : n0 ≤ b) (hl : bs.length ≤ 190) :
    Ct l Z consts_1 n0 [] Y10 prog_10_method_20_code 2 none ({ frames := 0, cells := 0, slots := 0, locals := 0 } : Room) #[(.ref j), (.int (Int32.ofNat k))] [] h (fun v _ h' => v = none ∧ h' = h) := by
  obtain ⟨E_j, F_bytes_j, F_length_j, F_first_j, V_b⟩ := J
  have ne_b_j : b ≠ j := (Ne.symm (Exa.neArv E_j V_b (cx.w 32 rfl)))
  refine Ct.intro (plainFor_of_name pn4) O cx.ew ?_
  intro p_ e_ s_ m_ bl_ mt_ c_ T0 W0 hby hml hret hnm
  refine Go.st (fun t_ k_ => castTop (g' := mkF m_ 0 #[.val (.ref j), .val (.int (Int32.ofNat k))] []) (by first | (simp [entryFrame, mkF, argsToLocals, Value.category]; done) | rfl) k_) ?_
  refine Go.st (fun _ => XS.aloadN W0.here W0.ex rfl (hb hby d21_0) rfl rfl) ?_
  show Go _ _ _ _ (T0.setTop (mkF m_ 1 #[.val (.ref j), .val (.int (Int32.ofNat k))] [(.ref j)]))
  refine W0.getF (cx.w 47 rfl) Via.refl F_length_j (hb hby d21_1) ?_
  intro T1 W1
  refine Go.st (fun _ => XS.iloadN W1.here W1.ex rfl (hb hby d21_4) rfl) ?_
  refine Go.st (fun _ => XS.iadd W1.here W1.ex rfl (hb hby d21_5) rfl) ?_
  refine Go.st (fun _ => XS.aloadN W1.here W1.ex rfl (hb hby d21_6) rfl rfl) ?_
  show Go _ _ _ _ (T1.setTop (mkF m_ 7 #[.val (.ref j), .val (.int (Int32.ofNat k))] [(.ref j), (.int ((Int32.ofNat bs.length) + (Int32.ofNat k)))]))
  refine W1.getF (cx.w 38 rfl) Via.refl F_bytes_j (hb hby d21_7) ?_
  intro T2 W2
  show Go _ _ _ _ (T2.setTop (mkF m_ 10 #[.val (.ref j), .val (.int (Int32.ofNat k))] [(.ref b), (.int ((Int32.ofNat bs.length) + (Int32.ofNat k)))]))
  refine W2.alen V_b (hb hby d21_10) ?_
  refine Go.st (fun _ => XS.icmpYes W2.here W2.ex rfl (pc0 := 11) (pc' := 41) rfl (hb hby d21_11) rfl (flt ((room_ok (by omega)) : ¬ ((4096 : Int32) < ((Int32.ofNat bs.length) + (Int32.ofNat k))))).2.2.2 (by decide) (by decide)) ?_
  show Go _ _ _ _ (T2.setTop (mkF m_ 41 #[.val (.ref j), .val (.int (Int32.ofNat k))] []))
  exact W2.retV hret (hb hby d21_41) (by decide) (by decide) fun vr_ cr_ => ⟨rfl, rfl⟩
theorem ct_put {l : Launch} {Z a0 n0 g1 gf hxa khx} (cx : Ctx Z a0 n0 g1 gf hxa khx) {h : Heap} (O : Old Z n0 h) (j b : Addr) (bs : List Int32) {kb : ClassId} (c d f : Int32) (hd : c.toInt8.toInt32 = d) (J : JT Z h j b kb bs f) (g_j : n0 ≤ j) (g_b : n0 ≤ b) (hl : bs.length ≤ 190) :
    Ct l Z consts_1 n0 [] Y8 prog_10_method_19_code 2 none ({ frames := 1, cells := 0, slots := 0, locals := 13 } : Room) #[(.ref j), (.int c)] [j, b] h (fun v _ h' => v = none ∧ Keep h h' [j, b] ∧ JT Z h' j b kb (bs ++ [d]) f) := by
  obtain ⟨E_j, F_bytes_j, F_length_j, F_first_j, V_b⟩ := J
  have ne_b_j : b ≠ j := (Ne.symm (Exa.neArv E_j V_b (cx.w 32 rfl)))
  refine Ct.intro (plainFor_of_name pn4) O cx.ew ?_
  intro p_ e_ s_ m_ bl_ mt_ c_ T0 W0 hby hml hret hnm
  refine Go.st (fun t_ k_ => castTop (g' := mkF m_ 0 #[.val (.ref j), .val (.int c)] []) (by first | (simp [entryFrame, mkF, argsToLocals, Value.category]; done) | rfl) k_) ?_
  show Go _ _ _ _ (T0.setTop (mkF m_ 0 #[.val (.ref j), .val (.int c)] []))
  have K0 : Keep h h [j, b] := Keep.refl _ _
  refine Go.st (fun _ => XS.aloadN W0.here W0.ex rfl (hb hby d20_0) rfl rfl) ?_
  refine Go.st (fun _ => XS.iconst W0.here W0.ex rfl (hb hby d20_1)) ?_
  show Go _ _ _ _ (T0.setTop (mkF m_ 2 #[.val (.ref j), .val (.int c)] [(.int (1 : Int32)), (.ref j)]))
  refine W0.callP (y := Y10) (cx.w 101 rfl) (cx.w 103 rfl) (selP (y' := Y1) (cx.w 45 rfl) rfl (cx.w 103 rfl) (cx.w 102 rfl) (by decide)) (cx.w 102 rfl) (cx.w 33 rfl) (cx.w 104 rfl) (by decide) E_j (ct_room cx W0.old j b bs 1 f (by decide) ⟨E_j, F_bytes_j, F_length_j, F_first_j, V_b⟩ g_j g_b (by omega)) all0 (by decide) (Wd := 0) (by decide) (k' := 0) (n' := 0) rfl rfl (by decide) (by decide) (by rw [hml]; rfl) (a := j) (argsL := [(.int (1 : Int32))]) (rest := []) rfl (lenOf pd14 rfl) rfl (Nat.le_of_eq rfl) (hb hby d20_2) ?_
  intro v1 vm1 T1 h1 L1 W1 q1
  obtain ⟨rfl, eh_⟩ := q1
  subst h1
  refine Go.st (fun _ => XS.aloadN W1.here W1.ex rfl (hb hby d20_5) rfl rfl) ?_
  show Go _ _ _ _ (T1.setTop (mkF m_ 6 #[.val (.ref j), .val (.int c)] [(.ref j)]))
  refine W1.getF (cx.w 38 rfl) Via.refl F_bytes_j (hb hby d20_6) ?_
  intro T2 W2
  refine Go.st (fun _ => XS.aloadN W2.here W2.ex rfl (hb hby d20_9) rfl rfl) ?_
  refine Go.st (fun _ => XS.dup W2.here W2.ex rfl (hb hby d20_10) rfl rfl) ?_
  show Go _ _ _ _ (T2.setTop (mkF m_ 11 #[.val (.ref j), .val (.int c)] [(.ref j), (.ref j), (.ref b)]))
  refine W2.getF (cx.w 47 rfl) Via.refl F_length_j (hb hby d20_11) ?_
  intro T3 W3
  refine Go.st (fun _ => XS.dupX1 W3.here W3.ex rfl (hb hby d20_14) rfl rfl rfl) ?_
  refine Go.st (fun _ => XS.iconst W3.here W3.ex rfl (hb hby d20_15)) ?_
  refine Go.st (fun _ => XS.iadd W3.here W3.ex rfl (hb hby d20_16) rfl) ?_
  show Go _ _ _ _ (T3.setTop (mkF m_ 17 #[.val (.ref j), .val (.int c)] [(.int ((Int32.ofNat bs.length) + (1 : Int32))), (.ref j), (.int (Int32.ofNat bs.length)), (.ref b)]))
  rw [show ((Int32.ofNat bs.length) + (1 : Int32)) = (Int32.ofNat (bs.length + 1)) from ofn_add _ 1]
  show Go _ _ _ _ (T3.setTop (mkF m_ 17 #[.val (.ref j), .val (.int c)] [(.int (Int32.ofNat (bs.length + 1))), (.ref j), (.int (Int32.ofNat bs.length)), (.ref b)]))
  refine W3.putF (cx.w 47 rfl) Via.refl F_length_j E_j (Or.inl (cx.w 48 rfl)) (cx.w 32 rfl) (ty := .int) (by decide) rfl rfl (List.mem_of_getElem? (i := 0) rfl) g_j (hb hby d20_17) ?_
  intro T4 h4 L4 W4 w4
  replace E_j := E_j.wr w4
  replace F_bytes_j := F_bytes_j.other w4 (Or.inr (slot_ne (Or.inl (cx.w 39 rfl)) (Or.inl (cx.w 48 rfl)) (by decide) (t := (.array .byte)) (t' := .int) (by decide) (by decide)))
  replace F_length_j := F_length_j.same w4
  replace F_first_j := F_first_j.other w4 (Or.inr (slot_ne (Or.inl (cx.w 41 rfl)) (Or.inl (cx.w 48 rfl)) (by decide) (t := .boolean) (t' := .int) (by decide) (by decide)))
  replace V_b := V_b.other w4 ne_b_j
  replace K0 := K0.wr w4 (Or.inl (List.mem_of_getElem? (i := 0) rfl))
  refine Go.st (fun _ => XS.iloadN W4.here W4.ex rfl (hb hby d20_20) rfl) ?_
  refine Go.st (fun _ => XS.i2b W4.here W4.ex rfl (hb hby d20_21) rfl) ?_
  show Go _ _ _ _ (T4.setTop (mkF m_ 22 #[.val (.ref j), .val (.int c)] [(.int (c.toInt8.toInt32)), (.int (Int32.ofNat bs.length)), (.ref b)]))
  refine W4.stA V_b (x := (c.toInt8.toInt32)) (n1 := bs.length) rfl (rmB0 (by omega)) (List.mem_of_getElem? (i := 1) rfl) g_b (hb hby d20_22) ?_
  intro T5 h5 L5 sl5 vv5 W5 w5 V_new
  replace E_j := E_j.wr w5
  replace F_bytes_j := F_bytes_j.other w5 (Or.inl (Ne.symm ne_b_j))
  replace F_length_j := F_length_j.other w5 (Or.inl (Ne.symm ne_b_j))
  replace F_first_j := F_first_j.other w5 (Or.inl (Ne.symm ne_b_j))
  replace K0 := K0.wr w5 (Or.inl (List.mem_of_getElem? (i := 1) rfl))
  rw [nar_byte] at V_new
  replace V_b : Arv Z h5 b kb .byte (4096 : Int32) ((bs ++ [(c.toInt8.toInt32)]).map Value.int) (.int 0) := V_new
  clear V_new
  show Go _ _ _ _ (T5.setTop (mkF m_ 23 #[.val (.ref j), .val (.int c)] []))
  rw [hd] at V_b
  exact W5.retV hret (hb hby d20_23) (by decide) (by decide) fun vr_ cr_ => ⟨rfl, K0, E_j, F_bytes_j, fld_ln F_length_j rfl, F_first_j, V_b⟩
theorem ct_val1 {l : Launch} {Z a0 n0 g1 gf hxa khx} (cx : Ctx Z a0 n0 g1 gf hxa khx) {h : Heap} (O : Old Z n0 h) (j b : Addr) (bs : List Int32) {kb : ClassId} (J : JT Z h j b kb bs 1) (g_j : n0 ≤ j) (g_b : n0 ≤ b) (hl : bs.length ≤ 180) :
    Ct l Z consts_1 n0 [] Y13 prog_10_method_16_code 1 none ({ frames := 0, cells := 0, slots := 0, locals := 0 } : Room) #[(.ref j)] [j, b] h (fun v _ h' => v = none ∧ Keep h h' [j, b] ∧ JT Z h' j b kb bs 0) := by
  obtain ⟨E_j, F_bytes_j, F_length_j, F_first_j, V_b⟩ := J
  have ne_b_j : b ≠ j := (Ne.symm (Exa.neArv E_j V_b (cx.w 32 rfl)))
  refine Ct.intro (plainFor_of_name pn4) O cx.ew ?_
  intro p_ e_ s_ m_ bl_ mt_ c_ T0 W0 hby hml hret hnm
  refine Go.st (fun t_ k_ => castTop (g' := mkF m_ 0 #[.val (.ref j)] []) (by first | (simp [entryFrame, mkF, argsToLocals, Value.category]; done) | rfl) k_) ?_
  show Go _ _ _ _ (T0.setTop (mkF m_ 0 #[.val (.ref j)] []))
  have K0 : Keep h h [j, b] := Keep.refl _ _
  refine Go.st (fun _ => XS.aloadN W0.here W0.ex rfl (hb hby d19_0) rfl rfl) ?_
  show Go _ _ _ _ (T0.setTop (mkF m_ 1 #[.val (.ref j)] [(.ref j)]))
  refine W0.getF (cx.w 40 rfl) Via.refl F_first_j (hb hby d19_1) ?_
  intro T1 W1
  refine Go.st (fun _ => XS.ifYes W1.here W1.ex rfl (pc0 := 4) (pc' := 13) rfl (hb hby d19_4) rfl ((if0 _ _).trans (feq ((by decide) : ¬ ((1 : Int32) = (0 : Int32)))).2) (by decide) (by decide)) ?_
  refine Go.st (fun _ => XS.aloadN W1.here W1.ex rfl (hb hby d19_13) rfl rfl) ?_
  refine Go.st (fun _ => XS.iconst W1.here W1.ex rfl (hb hby d19_14)) ?_
  show Go _ _ _ _ (T1.setTop (mkF m_ 15 #[.val (.ref j)] [(.int (0 : Int32)), (.ref j)]))
  refine W1.putF (cx.w 40 rfl) Via.refl F_first_j E_j (Or.inl (cx.w 41 rfl)) (cx.w 32 rfl) (ty := .boolean) (by decide) rfl rfl (List.mem_of_getElem? (i := 0) rfl) g_j (hb hby d19_15) ?_
  intro T2 h2 L2 W2 w2
  replace E_j := E_j.wr w2
  replace F_bytes_j := F_bytes_j.other w2 (Or.inr (slot_ne (Or.inl (cx.w 39 rfl)) (Or.inl (cx.w 41 rfl)) (by decide) (t := (.array .byte)) (t' := .boolean) (by decide) (by decide)))
  replace F_length_j := F_length_j.other w2 (Or.inr (slot_ne (Or.inl (cx.w 48 rfl)) (Or.inl (cx.w 41 rfl)) (by decide) (t := .int) (t' := .boolean) (by decide) (by decide)))
  replace F_first_j := F_first_j.same w2
  replace V_b := V_b.other w2 ne_b_j
  replace K0 := K0.wr w2 (Or.inl (List.mem_of_getElem? (i := 0) rfl))
  show Go _ _ _ _ (T2.setTop (mkF m_ 18 #[.val (.ref j)] []))
  exact W2.retV hret (hb hby d19_18) (by decide) (by decide) fun vr_ cr_ => ⟨rfl, K0, ⟨E_j, F_bytes_j, F_length_j, F_first_j, V_b⟩⟩
theorem ct_val0 {l : Launch} {Z a0 n0 g1 gf hxa khx} (cx : Ctx Z a0 n0 g1 gf hxa khx) {h : Heap} (O : Old Z n0 h) (j b : Addr) (bs : List Int32) {kb : ClassId} (J : JT Z h j b kb bs 0) (g_j : n0 ≤ j) (g_b : n0 ≤ b) (hl : bs.length ≤ 180) :
    Ct l Z consts_1 n0 [] Y13 prog_10_method_16_code 1 none ({ frames := 2, cells := 0, slots := 0, locals := 26 } : Room) #[(.ref j)] [j, b] h (fun v _ h' => v = none ∧ Keep h h' [j, b] ∧ JT Z h' j b kb (bs ++ [(44 : Int32)]) 0) := by
  obtain ⟨E_j, F_bytes_j, F_length_j, F_first_j, V_b⟩ := J
  have ne_b_j : b ≠ j := (Ne.symm (Exa.neArv E_j V_b (cx.w 32 rfl)))
  refine Ct.intro (plainFor_of_name pn4) O cx.ew ?_
  intro p_ e_ s_ m_ bl_ mt_ c_ T0 W0 hby hml hret hnm
  refine Go.st (fun t_ k_ => castTop (g' := mkF m_ 0 #[.val (.ref j)] []) (by first | (simp [entryFrame, mkF, argsToLocals, Value.category]; done) | rfl) k_) ?_
  show Go _ _ _ _ (T0.setTop (mkF m_ 0 #[.val (.ref j)] []))
  have K0 : Keep h h [j, b] := Keep.refl _ _
  refine Go.st (fun _ => XS.aloadN W0.here W0.ex rfl (hb hby d19_0) rfl rfl) ?_
  show Go _ _ _ _ (T0.setTop (mkF m_ 1 #[.val (.ref j)] [(.ref j)]))
  refine W0.getF (cx.w 40 rfl) Via.refl F_first_j (hb hby d19_1) ?_
  intro T1 W1
  refine Go.st (fun _ => XS.ifNo W1.here W1.ex rfl (hb hby d19_4) rfl ((if0 _ _).trans (teq (rfl : (0 : Int32) = (0 : Int32))).2)) ?_
  refine Go.st (fun _ => XS.aloadN W1.here W1.ex rfl (hb hby d19_7) rfl rfl) ?_
  refine Go.st (fun _ => XS.bipush W1.here W1.ex rfl (hb hby d19_8)) ?_
  show Go _ _ _ _ (T1.setTop (mkF m_ 10 #[.val (.ref j)] [(.int (44 : Int32)), (.ref j)]))
  refine W1.callP (y := Y8) (cx.w 97 rfl) (cx.w 99 rfl) (selP (y' := Y1) (cx.w 45 rfl) rfl (cx.w 99 rfl) (cx.w 98 rfl) (by decide)) (cx.w 98 rfl) (cx.w 33 rfl) (cx.w 100 rfl) (by decide) E_j (ct_put cx W1.old j b bs (44 : Int32) 44 0 (by decide) ⟨E_j, F_bytes_j, F_length_j, F_first_j, V_b⟩ g_j g_b (by omega)) (allS (List.mem_of_getElem? (i := 0) rfl) (allS (List.mem_of_getElem? (i := 1) rfl) all0)) (by decide) (Wd := 0) (by decide) (k' := 0) (n' := 0) rfl rfl (by decide) (by decide) (by rw [hml]; rfl) (a := j) (argsL := [(.int (44 : Int32))]) (rest := []) rfl (lenOf pd15 rfl) rfl (Nat.le_of_eq rfl) (hb hby d19_10) ?_
  intro v2 vm2 T2 h2 L2 W2 q2
  obtain ⟨rfl, Kj1, Jq⟩ := q2
  replace E_j := E_j.keep Kj1
  replace K0 := K0.trans Kj1 (allS (Or.inl (List.mem_of_getElem? (i := 0) rfl)) (allS (Or.inl (List.mem_of_getElem? (i := 1) rfl)) all0))
  show Go _ _ _ _ (T2.setTop (mkF m_ 13 #[.val (.ref j)] []))
  obtain ⟨-, F_bytes_j, F_length_j, F_first_j, V_b⟩ := Jq
  replace F_length_j : Fld Z h2 j "com/example/dijtabla/dijtabla/JsonText" "length" "I" (.int (Int32.ofNat (bs.length + 1))) := fld_nl (xs := [(44 : Int32)]) F_length_j rfl
  replace V_b : Arv Z h2 b kb .byte 4096 (((bs ++ [(44 : Int32)])).map Value.int) (.int 0) := V_b
  refine Go.st (fun _ => XS.aloadN W2.here W2.ex rfl (hb hby d19_13) rfl rfl) ?_
  refine Go.st (fun _ => XS.iconst W2.here W2.ex rfl (hb hby d19_14)) ?_
  show Go _ _ _ _ (T2.setTop (mkF m_ 15 #[.val (.ref j)] [(.int (0 : Int32)), (.ref j)]))
  refine W2.putF (cx.w 40 rfl) Via.refl F_first_j E_j (Or.inl (cx.w 41 rfl)) (cx.w 32 rfl) (ty := .boolean) (by decide) rfl rfl (List.mem_of_getElem? (i := 0) rfl) g_j (hb hby d19_15) ?_
  intro T3 h3 L3 W3 w3
  replace E_j := E_j.wr w3
  replace F_bytes_j := F_bytes_j.other w3 (Or.inr (slot_ne (Or.inl (cx.w 39 rfl)) (Or.inl (cx.w 41 rfl)) (by decide) (t := (.array .byte)) (t' := .boolean) (by decide) (by decide)))
  replace F_length_j := F_length_j.other w3 (Or.inr (slot_ne (Or.inl (cx.w 48 rfl)) (Or.inl (cx.w 41 rfl)) (by decide) (t := .int) (t' := .boolean) (by decide) (by decide)))
  replace F_first_j := F_first_j.same w3
  replace V_b := V_b.other w3 ne_b_j
  replace K0 := K0.wr w3 (Or.inl (List.mem_of_getElem? (i := 0) rfl))
  show Go _ _ _ _ (T3.setTop (mkF m_ 18 #[.val (.ref j)] []))
  exact W3.retV hret (hb hby d19_18) (by decide) (by decide) fun vr_ cr_ => ⟨rfl, K0, ⟨E_j, F_bytes_j, fld_ln F_length_j rfl, F_first_j, V_b⟩⟩
theorem ct_open {l : Launch} {Z a0 n0 g1 gf hxa khx} (cx : Ctx Z a0 n0 g1 gf hxa khx) {h : Heap} (O : Old Z n0 h) (j b : Addr) (bs : List Int32) {kb : ClassId} (J : JT Z h j b kb bs 1) (g_j : n0 ≤ j) (g_b : n0 ≤ b) (hl : bs.length ≤ 170) :
    Ct l Z consts_1 n0 [] (⟨"com/example/dijtabla/dijtabla/JsonText", "open", "(C)Lcom/example/dijtabla/dijtabla/JsonText;"⟩ : MethodName) prog_10_method_12_code 2 (some (.object "com/example/dijtabla/dijtabla/JsonText")) ({ frames := 2, cells := 0, slots := 0, locals := 26 } : Room) #[(.ref j), (.int (91 : Int32))] [j, b] h (fun v _ h' => v = some (.ref j) ∧ Keep h h' [j, b] ∧ JT Z h' j b kb (bs ++ [(91 : Int32)]) 1) := by
  obtain ⟨E_j, F_bytes_j, F_length_j, F_first_j, V_b⟩ := J
  have ne_b_j : b ≠ j := (Ne.symm (Exa.neArv E_j V_b (cx.w 32 rfl)))
  refine Ct.intro (plainFor_of_name pn4) O cx.ew ?_
  intro p_ e_ s_ m_ bl_ mt_ c_ T0 W0 hby hml hret hnm
  refine Go.st (fun t_ k_ => castTop (g' := mkF m_ 0 #[.val (.ref j), .val (.int (91 : Int32))] []) (by first | (simp [entryFrame, mkF, argsToLocals, Value.category]; done) | rfl) k_) ?_
  show Go _ _ _ _ (T0.setTop (mkF m_ 0 #[.val (.ref j), .val (.int (91 : Int32))] []))
  have K0 : Keep h h [j, b] := Keep.refl _ _
  refine Go.st (fun _ => XS.aloadN W0.here W0.ex rfl (hb hby d18_0) rfl rfl) ?_
  show Go _ _ _ _ (T0.setTop (mkF m_ 1 #[.val (.ref j), .val (.int (91 : Int32))] [(.ref j)]))
  refine W0.callP (y := Y13) (cx.w 93 rfl) (cx.w 95 rfl) (selP (y' := Y1) (cx.w 45 rfl) rfl (cx.w 95 rfl) (cx.w 94 rfl) (by decide)) (cx.w 94 rfl) (cx.w 33 rfl) (cx.w 96 rfl) (by decide) E_j (ct_val1 cx W0.old j b bs  ⟨E_j, F_bytes_j, F_length_j, F_first_j, V_b⟩ g_j g_b (by omega)) (allS (List.mem_of_getElem? (i := 0) rfl) (allS (List.mem_of_getElem? (i := 1) rfl) all0)) (by decide) (Wd := 0) (by decide) (k' := 0) (n' := 0) rfl rfl (by decide) (by decide) (by rw [hml]; rfl) (a := j) (argsL := []) (rest := []) rfl (lenOf pd16 rfl) rfl (Nat.le_of_eq rfl) (hb hby d18_1) ?_
  intro v1 vm1 T1 h1 L1 W1 q1
  obtain ⟨rfl, Kj2, Jq⟩ := q1
  replace E_j := E_j.keep Kj2
  replace K0 := K0.trans Kj2 (allS (Or.inl (List.mem_of_getElem? (i := 0) rfl)) (allS (Or.inl (List.mem_of_getElem? (i := 1) rfl)) all0))
  show Go _ _ _ _ (T1.setTop (mkF m_ 4 #[.val (.ref j), .val (.int (91 : Int32))] []))
  obtain ⟨-, F_bytes_j, F_length_j, F_first_j, V_b⟩ := Jq
  refine Go.st (fun _ => XS.aloadN W1.here W1.ex rfl (hb hby d18_4) rfl rfl) ?_
  refine Go.st (fun _ => XS.iloadN W1.here W1.ex rfl (hb hby d18_5) rfl) ?_
  show Go _ _ _ _ (T1.setTop (mkF m_ 6 #[.val (.ref j), .val (.int (91 : Int32))] [(.int (91 : Int32)), (.ref j)]))
  refine W1.callP (y := Y8) (cx.w 97 rfl) (cx.w 99 rfl) (selP (y' := Y1) (cx.w 45 rfl) rfl (cx.w 99 rfl) (cx.w 98 rfl) (by decide)) (cx.w 98 rfl) (cx.w 33 rfl) (cx.w 100 rfl) (by decide) E_j (ct_put cx W1.old j b bs (91 : Int32) 91 0 (by decide) ⟨E_j, F_bytes_j, F_length_j, F_first_j, V_b⟩ g_j g_b (by omega)) (allS (List.mem_of_getElem? (i := 0) rfl) (allS (List.mem_of_getElem? (i := 1) rfl) all0)) (by decide) (Wd := 0) (by decide) (k' := 0) (n' := 0) rfl rfl (by decide) (by decide) (by rw [hml]; rfl) (a := j) (argsL := [(.int (91 : Int32))]) (rest := []) rfl (lenOf pd15 rfl) rfl (Nat.le_of_eq rfl) (hb hby d18_6) ?_
  intro v2 vm2 T2 h2 L2 W2 q2
  obtain ⟨rfl, Kj3, Jq⟩ := q2
  replace E_j := E_j.keep Kj3
  replace K0 := K0.trans Kj3 (allS (Or.inl (List.mem_of_getElem? (i := 0) rfl)) (allS (Or.inl (List.mem_of_getElem? (i := 1) rfl)) all0))
  show Go _ _ _ _ (T2.setTop (mkF m_ 9 #[.val (.ref j), .val (.int (91 : Int32))] []))
  obtain ⟨-, F_bytes_j, F_length_j, F_first_j, V_b⟩ := Jq
  replace F_length_j : Fld Z h2 j "com/example/dijtabla/dijtabla/JsonText" "length" "I" (.int (Int32.ofNat (bs.length + 1))) := fld_nl (xs := [(91 : Int32)]) F_length_j rfl
  replace V_b : Arv Z h2 b kb .byte 4096 (((bs ++ [(91 : Int32)])).map Value.int) (.int 0) := V_b
  refine Go.st (fun _ => XS.aloadN W2.here W2.ex rfl (hb hby d18_9) rfl rfl) ?_
  refine Go.st (fun _ => XS.iconst W2.here W2.ex rfl (hb hby d18_10)) ?_
  show Go _ _ _ _ (T2.setTop (mkF m_ 11 #[.val (.ref j), .val (.int (91 : Int32))] [(.int (1 : Int32)), (.ref j)]))
  refine W2.putF (cx.w 40 rfl) Via.refl F_first_j E_j (Or.inl (cx.w 41 rfl)) (cx.w 32 rfl) (ty := .boolean) (by decide) rfl rfl (List.mem_of_getElem? (i := 0) rfl) g_j (hb hby d18_11) ?_
  intro T3 h3 L3 W3 w3
  replace E_j := E_j.wr w3
  replace F_bytes_j := F_bytes_j.other w3 (Or.inr (slot_ne (Or.inl (cx.w 39 rfl)) (Or.inl (cx.w 41 rfl)) (by decide) (t := (.array .byte)) (t' := .boolean) (by decide) (by decide)))
  replace F_length_j := F_length_j.other w3 (Or.inr (slot_ne (Or.inl (cx.w 48 rfl)) (Or.inl (cx.w 41 rfl)) (by decide) (t := .int) (t' := .boolean) (by decide) (by decide)))
  replace F_first_j := F_first_j.same w3
  replace V_b := V_b.other w3 ne_b_j
  replace K0 := K0.wr w3 (Or.inl (List.mem_of_getElem? (i := 0) rfl))
  refine Go.st (fun _ => XS.aloadN W3.here W3.ex rfl (hb hby d18_14) rfl rfl) ?_
  show Go _ _ _ _ (T3.setTop (mkF m_ 15 #[.val (.ref j), .val (.int (91 : Int32))] [(.ref j)]))
  exact W3.retA hret rfl rfl (hb hby d18_15) (by decide) (by decide) fun vr_ cr_ => ⟨rfl, K0, ⟨E_j, F_bytes_j, fld_ln F_length_j rfl, F_first_j, V_b⟩⟩
theorem ct_start {l : Launch} {Z a0 n0 g1 gf hxa khx} (cx : Ctx Z a0 n0 g1 gf hxa khx) {h : Heap} (O : Old Z n0 h) (j b : Addr) (bs : List Int32) {kb : ClassId} (J : JT Z h j b kb bs 1) (g_j : n0 ≤ j) (g_b : n0 ≤ b) (hl : bs.length ≤ 170) :
    Ct l Z consts_1 n0 [] Y11 prog_10_method_4_code 1 (some (.object "com/example/dijtabla/dijtabla/JsonText")) ({ frames := 3, cells := 0, slots := 0, locals := 39 } : Room) #[(.ref j)] [j, b] h (fun v _ h' => v = some (.ref j) ∧ Keep h h' [j, b] ∧ JT Z h' j b kb (bs ++ [(91 : Int32)]) 1) := by
  obtain ⟨E_j, F_bytes_j, F_length_j, F_first_j, V_b⟩ := J
  have ne_b_j : b ≠ j := (Ne.symm (Exa.neArv E_j V_b (cx.w 32 rfl)))
  refine Ct.intro (plainFor_of_name pn4) O cx.ew ?_
  intro p_ e_ s_ m_ bl_ mt_ c_ T0 W0 hby hml hret hnm
  refine Go.st (fun t_ k_ => castTop (g' := mkF m_ 0 #[.val (.ref j)] []) (by first | (simp [entryFrame, mkF, argsToLocals, Value.category]; done) | rfl) k_) ?_
  show Go _ _ _ _ (T0.setTop (mkF m_ 0 #[.val (.ref j)] []))
  have K0 : Keep h h [j, b] := Keep.refl _ _
  refine Go.st (fun _ => XS.aloadN W0.here W0.ex rfl (hb hby d17_0) rfl rfl) ?_
  refine Go.st (fun _ => XS.bipush W0.here W0.ex rfl (hb hby d17_1)) ?_
  show Go _ _ _ _ (T0.setTop (mkF m_ 3 #[.val (.ref j)] [(.int (91 : Int32)), (.ref j)]))
  refine W0.callP (y := (⟨"com/example/dijtabla/dijtabla/JsonText", "open", "(C)Lcom/example/dijtabla/dijtabla/JsonText;"⟩ : MethodName)) (cx.w 89 rfl) (cx.w 91 rfl) (selP (y' := Y1) (cx.w 45 rfl) rfl (cx.w 91 rfl) (cx.w 90 rfl) (by decide)) (cx.w 90 rfl) (cx.w 33 rfl) (cx.w 92 rfl) (by decide) E_j (ct_open cx W0.old j b bs  ⟨E_j, F_bytes_j, F_length_j, F_first_j, V_b⟩ g_j g_b (by omega)) (allS (List.mem_of_getElem? (i := 0) rfl) (allS (List.mem_of_getElem? (i := 1) rfl) all0)) (by decide) (Wd := 0) (by decide) (k' := 0) (n' := 0) rfl rfl (by decide) (by decide) (by rw [hml]; rfl) (a := j) (argsL := [(.int (91 : Int32))]) (rest := []) rfl (lenOf pd17 rfl) rfl (Nat.le_of_eq rfl) (hb hby d17_3) ?_
  intro v1 vm1 T1 h1 L1 W1 q1
  obtain ⟨rfl, Kj4, Jq⟩ := q1
  replace E_j := E_j.keep Kj4
  replace K0 := K0.trans Kj4 (allS (Or.inl (List.mem_of_getElem? (i := 0) rfl)) (allS (Or.inl (List.mem_of_getElem? (i := 1) rfl)) all0))
  show Go _ _ _ _ (T1.setTop (mkF m_ 6 #[.val (.ref j)] [(.ref j)]))
  obtain ⟨-, F_bytes_j, F_length_j, F_first_j, V_b⟩ := Jq
  replace F_length_j : Fld Z h1 j "com/example/dijtabla/dijtabla/JsonText" "length" "I" (.int (Int32.ofNat (bs.length + 1))) := fld_nl (xs := [(91 : Int32)]) F_length_j rfl
  replace V_b : Arv Z h1 b kb .byte 4096 (((bs ++ [(91 : Int32)])).map Value.int) (.int 0) := V_b
  exact W1.retA hret rfl rfl (hb hby d17_6) (by decide) (by decide) fun vr_ cr_ => ⟨rfl, K0, ⟨E_j, F_bytes_j, fld_ln F_length_j rfl, F_first_j, V_b⟩⟩
theorem ct_close {l : Launch} {Z a0 n0 g1 gf hxa khx} (cx : Ctx Z a0 n0 g1 gf hxa khx) {h : Heap} (O : Old Z n0 h) (j b : Addr) (bs : List Int32) {kb : ClassId} (J : JT Z h j b kb bs 0) (g_j : n0 ≤ j) (g_b : n0 ≤ b) (hl : bs.length ≤ 170) :
    Ct l Z consts_1 n0 [] (⟨"com/example/dijtabla/dijtabla/JsonText", "close", "(C)Lcom/example/dijtabla/dijtabla/JsonText;"⟩ : MethodName) prog_10_method_13_code 2 (some (.object "com/example/dijtabla/dijtabla/JsonText")) ({ frames := 2, cells := 0, slots := 0, locals := 26 } : Room) #[(.ref j), (.int (93 : Int32))] [j, b] h (fun v _ h' => v = some (.ref j) ∧ Keep h h' [j, b] ∧ JT Z h' j b kb (bs ++ [(93 : Int32)]) 0) := by
  obtain ⟨E_j, F_bytes_j, F_length_j, F_first_j, V_b⟩ := J
  have ne_b_j : b ≠ j := (Ne.symm (Exa.neArv E_j V_b (cx.w 32 rfl)))
  refine Ct.intro (plainFor_of_name pn4) O cx.ew ?_
  intro p_ e_ s_ m_ bl_ mt_ c_ T0 W0 hby hml hret hnm
  refine Go.st (fun t_ k_ => castTop (g' := mkF m_ 0 #[.val (.ref j), .val (.int (93 : Int32))] []) (by first | (simp [entryFrame, mkF, argsToLocals, Value.category]; done) | rfl) k_) ?_
  show Go _ _ _ _ (T0.setTop (mkF m_ 0 #[.val (.ref j), .val (.int (93 : Int32))] []))
  have K0 : Keep h h [j, b] := Keep.refl _ _
  refine Go.st (fun _ => XS.aloadN W0.here W0.ex rfl (hb hby d39_0) rfl rfl) ?_
  refine Go.st (fun _ => XS.iloadN W0.here W0.ex rfl (hb hby d39_1) rfl) ?_
  show Go _ _ _ _ (T0.setTop (mkF m_ 2 #[.val (.ref j), .val (.int (93 : Int32))] [(.int (93 : Int32)), (.ref j)]))
  refine W0.callP (y := Y8) (cx.w 97 rfl) (cx.w 99 rfl) (selP (y' := Y1) (cx.w 45 rfl) rfl (cx.w 99 rfl) (cx.w 98 rfl) (by decide)) (cx.w 98 rfl) (cx.w 33 rfl) (cx.w 100 rfl) (by decide) E_j (ct_put cx W0.old j b bs (93 : Int32) 93 0 (by decide) ⟨E_j, F_bytes_j, F_length_j, F_first_j, V_b⟩ g_j g_b (by omega)) (allS (List.mem_of_getElem? (i := 0) rfl) (allS (List.mem_of_getElem? (i := 1) rfl) all0)) (by decide) (Wd := 0) (by decide) (k' := 0) (n' := 0) rfl rfl (by decide) (by decide) (by rw [hml]; rfl) (a := j) (argsL := [(.int (93 : Int32))]) (rest := []) rfl (lenOf pd15 rfl) rfl (Nat.le_of_eq rfl) (hb hby d39_2) ?_
  intro v1 vm1 T1 h1 L1 W1 q1
  obtain ⟨rfl, Kj5, Jq⟩ := q1
  replace E_j := E_j.keep Kj5
  replace K0 := K0.trans Kj5 (allS (Or.inl (List.mem_of_getElem? (i := 0) rfl)) (allS (Or.inl (List.mem_of_getElem? (i := 1) rfl)) all0))
  show Go _ _ _ _ (T1.setTop (mkF m_ 5 #[.val (.ref j), .val (.int (93 : Int32))] []))
  obtain ⟨-, F_bytes_j, F_length_j, F_first_j, V_b⟩ := Jq
  replace F_length_j : Fld Z h1 j "com/example/dijtabla/dijtabla/JsonText" "length" "I" (.int (Int32.ofNat (bs.length + 1))) := fld_nl (xs := [(93 : Int32)]) F_length_j rfl
  replace V_b : Arv Z h1 b kb .byte 4096 (((bs ++ [(93 : Int32)])).map Value.int) (.int 0) := V_b
  refine Go.st (fun _ => XS.aloadN W1.here W1.ex rfl (hb hby d39_5) rfl rfl) ?_
  refine Go.st (fun _ => XS.iconst W1.here W1.ex rfl (hb hby d39_6)) ?_
  show Go _ _ _ _ (T1.setTop (mkF m_ 7 #[.val (.ref j), .val (.int (93 : Int32))] [(.int (0 : Int32)), (.ref j)]))
  refine W1.putF (cx.w 40 rfl) Via.refl F_first_j E_j (Or.inl (cx.w 41 rfl)) (cx.w 32 rfl) (ty := .boolean) (by decide) rfl rfl (List.mem_of_getElem? (i := 0) rfl) g_j (hb hby d39_7) ?_
  intro T2 h2 L2 W2 w2
  replace E_j := E_j.wr w2
  replace F_bytes_j := F_bytes_j.other w2 (Or.inr (slot_ne (Or.inl (cx.w 39 rfl)) (Or.inl (cx.w 41 rfl)) (by decide) (t := (.array .byte)) (t' := .boolean) (by decide) (by decide)))
  replace F_length_j := F_length_j.other w2 (Or.inr (slot_ne (Or.inl (cx.w 48 rfl)) (Or.inl (cx.w 41 rfl)) (by decide) (t := .int) (t' := .boolean) (by decide) (by decide)))
  replace F_first_j := F_first_j.same w2
  replace V_b := V_b.other w2 ne_b_j
  replace K0 := K0.wr w2 (Or.inl (List.mem_of_getElem? (i := 0) rfl))
  refine Go.st (fun _ => XS.aloadN W2.here W2.ex rfl (hb hby d39_10) rfl rfl) ?_
  show Go _ _ _ _ (T2.setTop (mkF m_ 11 #[.val (.ref j), .val (.int (93 : Int32))] [(.ref j)]))
  exact W2.retA hret rfl rfl (hb hby d39_11) (by decide) (by decide) fun vr_ cr_ => ⟨rfl, K0, ⟨E_j, F_bytes_j, fld_ln F_length_j rfl, F_first_j, V_b⟩⟩
theorem ct_end {l : Launch} {Z a0 n0 g1 gf hxa khx} (cx : Ctx Z a0 n0 g1 gf hxa khx) {h : Heap} (O : Old Z n0 h) (j b : Addr) (bs : List Int32) {kb : ClassId} (J : JT Z h j b kb bs 0) (g_j : n0 ≤ j) (g_b : n0 ≤ b) (hl : bs.length ≤ 170) :
    Ct l Z consts_1 n0 [] Y3 prog_10_method_5_code 1 (some (.object "com/example/dijtabla/dijtabla/JsonText")) ({ frames := 3, cells := 0, slots := 0, locals := 39 } : Room) #[(.ref j)] [j, b] h (fun v _ h' => v = some (.ref j) ∧ Keep h h' [j, b] ∧ JT Z h' j b kb (bs ++ [(93 : Int32)]) 0) := by
  obtain ⟨E_j, F_bytes_j, F_length_j, F_first_j, V_b⟩ := J
  have ne_b_j : b ≠ j := (Ne.symm (Exa.neArv E_j V_b (cx.w 32 rfl)))
  refine Ct.intro (plainFor_of_name pn4) O cx.ew ?_
  intro p_ e_ s_ m_ bl_ mt_ c_ T0 W0 hby hml hret hnm
  refine Go.st (fun t_ k_ => castTop (g' := mkF m_ 0 #[.val (.ref j)] []) (by first | (simp [entryFrame, mkF, argsToLocals, Value.category]; done) | rfl) k_) ?_
  show Go _ _ _ _ (T0.setTop (mkF m_ 0 #[.val (.ref j)] []))
  have K0 : Keep h h [j, b] := Keep.refl _ _
  refine Go.st (fun _ => XS.aloadN W0.here W0.ex rfl (hb hby d38_0) rfl rfl) ?_
  refine Go.st (fun _ => XS.bipush W0.here W0.ex rfl (hb hby d38_1)) ?_
  show Go _ _ _ _ (T0.setTop (mkF m_ 3 #[.val (.ref j)] [(.int (93 : Int32)), (.ref j)]))
  refine W0.callP (y := (⟨"com/example/dijtabla/dijtabla/JsonText", "close", "(C)Lcom/example/dijtabla/dijtabla/JsonText;"⟩ : MethodName)) (cx.w 182 rfl) (cx.w 184 rfl) (selP (y' := Y1) (cx.w 45 rfl) rfl (cx.w 184 rfl) (cx.w 183 rfl) (by decide)) (cx.w 183 rfl) (cx.w 33 rfl) (cx.w 185 rfl) (by decide) E_j (ct_close cx W0.old j b bs  ⟨E_j, F_bytes_j, F_length_j, F_first_j, V_b⟩ g_j g_b (by omega)) (allS (List.mem_of_getElem? (i := 0) rfl) (allS (List.mem_of_getElem? (i := 1) rfl) all0)) (by decide) (Wd := 0) (by decide) (k' := 0) (n' := 0) rfl rfl (by decide) (by decide) (by rw [hml]; rfl) (a := j) (argsL := [(.int (93 : Int32))]) (rest := []) rfl (lenOf pd17 rfl) rfl (Nat.le_of_eq rfl) (hb hby d38_3) ?_
  intro v1 vm1 T1 h1 L1 W1 q1
  obtain ⟨rfl, Kj6, Jq⟩ := q1
  replace E_j := E_j.keep Kj6
  replace K0 := K0.trans Kj6 (allS (Or.inl (List.mem_of_getElem? (i := 0) rfl)) (allS (Or.inl (List.mem_of_getElem? (i := 1) rfl)) all0))
  show Go _ _ _ _ (T1.setTop (mkF m_ 6 #[.val (.ref j)] [(.ref j)]))
  obtain ⟨-, F_bytes_j, F_length_j, F_first_j, V_b⟩ := Jq
  replace F_length_j : Fld Z h1 j "com/example/dijtabla/dijtabla/JsonText" "length" "I" (.int (Int32.ofNat (bs.length + 1))) := fld_nl (xs := [(93 : Int32)]) F_length_j rfl
  replace V_b : Arv Z h1 b kb .byte 4096 (((bs ++ [(93 : Int32)])).map Value.int) (.int 0) := V_b
  exact W1.retA hret rfl rfl (hb hby d38_6) (by decide) (by decide) fun vr_ cr_ => ⟨rfl, K0, ⟨E_j, F_bytes_j, fld_ln F_length_j rfl, F_first_j, V_b⟩⟩
theorem ct_lit {l : Launch} {Z a0 n0 g1 gf hxa khx} (cx : Ctx Z a0 n0 g1 gf hxa khx) {h : Heap} (O : Old Z n0 h) (j b : Addr) (bs : List Int32) {kb : ClassId} (q t : Addr) {kt : ClassId} (J : JT Z h j b kb bs 0) (g_j : n0 ≤ j) (g_b : n0 ≤ b) (hl : bs.length ≤ 170) (E_q : Exa Z h q "java/lang/String") (F_value_q : Fld Z h q "java/lang/String" "value" "[B" (.ref t)) (F_coder_q : Fld Z h q "java/lang/String" "coder" "B" (.int 0)) (V_t : Arv Z h t kt .byte 4 (litV 165) (.int 0)) (ne_t_b : t ≠ b) :
    Ct l Z consts_1 n0 [] (⟨"com/example/dijtabla/dijtabla/JsonText", "literal", "(Ljava/lang/String;)Lcom/example/dijtabla/dijtabla/JsonText;"⟩ : MethodName) prog_10_method_14_code 3 (some (.object "com/example/dijtabla/dijtabla/JsonText")) ({ frames := 5, cells := 0, slots := 0, locals := 68 } : Room) #[(.ref j), (.ref q)] [j, b] h (fun v _ h' => v = some (.ref j) ∧ Keep h h' [j, b] ∧ JT Z h' j b kb (bs ++ [(44 : Int32), (110 : Int32), (117 : Int32), (108 : Int32), (108 : Int32)]) 0) := by
  obtain ⟨E_j, F_bytes_j, F_length_j, F_first_j, V_b⟩ := J
  have ne_b_j : b ≠ j := (Ne.symm (Exa.neArv E_j V_b (cx.w 32 rfl)))
  have ne_q_j : q ≠ j := (ne_exa E_q E_j (by decide))
  have ne_t_j : t ≠ j := (Ne.symm (Exa.neArv E_j V_t (cx.w 32 rfl)))
  have ne_q_b : q ≠ b := (Exa.neArv E_q V_b (cx.w 3 rfl))
  refine Ct.intro (plainFor_of_name pn4) O cx.ew ?_
  intro p_ e_ s_ m_ bl_ mt_ c_ T0 W0 hby hml hret hnm
  refine Go.st (fun t_ k_ => castTop (g' := mkF m_ 0 #[.val (.ref j), .val (.ref q), .unset] []) (by first | (simp [entryFrame, mkF, argsToLocals, Value.category]; done) | rfl) k_) ?_
  show Go _ _ _ _ (T0.setTop (mkF m_ 0 #[.val (.ref j), .val (.ref q), .unset] []))
  have K0 : Keep h h [j, b] := Keep.refl _ _
  refine Go.st (fun _ => XS.aloadN W0.here W0.ex rfl (hb hby d36_0) rfl rfl) ?_
  show Go _ _ _ _ (T0.setTop (mkF m_ 1 #[.val (.ref j), .val (.ref q), .unset] [(.ref j)]))
  refine W0.callP (y := Y13) (cx.w 93 rfl) (cx.w 95 rfl) (selP (y' := Y1) (cx.w 45 rfl) rfl (cx.w 95 rfl) (cx.w 94 rfl) (by decide)) (cx.w 94 rfl) (cx.w 33 rfl) (cx.w 96 rfl) (by decide) E_j (ct_val0 cx W0.old j b bs  ⟨E_j, F_bytes_j, F_length_j, F_first_j, V_b⟩ g_j g_b (by omega)) (allS (List.mem_of_getElem? (i := 0) rfl) (allS (List.mem_of_getElem? (i := 1) rfl) all0)) (by decide) (Wd := 0) (by decide) (k' := 0) (n' := 0) rfl rfl (by decide) (by decide) (by rw [hml]; rfl) (a := j) (argsL := []) (rest := []) rfl (lenOf pd16 rfl) rfl (Nat.le_of_eq rfl) (hb hby d36_1) ?_
  intro v1 vm1 T1 h1 L1 W1 q1
  obtain ⟨rfl, Kj7, Jq⟩ := q1
  replace E_j := E_j.keep Kj7
  replace E_q := E_q.keep Kj7
  replace F_coder_q := F_coder_q.keep Kj7 (ninS ne_q_j (ninS ne_q_b nin0))
  replace F_value_q := F_value_q.keep Kj7 (ninS ne_q_j (ninS ne_q_b nin0))
  replace V_t := V_t.keep Kj7 (ninS ne_t_j (ninS ne_t_b nin0))
  replace K0 := K0.trans Kj7 (allS (Or.inl (List.mem_of_getElem? (i := 0) rfl)) (allS (Or.inl (List.mem_of_getElem? (i := 1) rfl)) all0))
  show Go _ _ _ _ (T1.setTop (mkF m_ 4 #[.val (.ref j), .val (.ref q), .unset] []))
  obtain ⟨-, F_bytes_j, F_length_j, F_first_j, V_b⟩ := Jq
  replace F_length_j : Fld Z h1 j "com/example/dijtabla/dijtabla/JsonText" "length" "I" (.int (Int32.ofNat (bs.length + 1))) := fld_nl (xs := [(44 : Int32)]) F_length_j rfl
  replace V_b : Arv Z h1 b kb .byte 4096 (((bs ++ [(44 : Int32)])).map Value.int) (.int 0) := V_b
  refine Go.st (fun _ => XS.aloadN W1.here W1.ex rfl (hb hby d36_4) rfl rfl) ?_
  refine Go.st (fun _ => XS.aloadN W1.here W1.ex rfl (hb hby d36_5) rfl rfl) ?_
  show Go _ _ _ _ (T1.setTop (mkF m_ 6 #[.val (.ref j), .val (.ref q), .unset] [(.ref q), (.ref j)]))
  refine W1.callV (y := Y26) (z := Y26) (cx.w 114 rfl) (cx.w 115 rfl) (cx.w 117 rfl) (cx.w 116 rfl) (cx.w 4 rfl) (cx.w 118 rfl) (W1.nf (cx.w 117 rfl)) (by decide) E_q (ct_len04 cx W1.old q t E_q F_value_q F_coder_q V_t) all0 (by decide) (Wd := 1) (by decide) (k' := 0) (n' := 0) rfl rfl (by decide) (by decide) (by rw [hml]; rfl) (a := q) (argsL := []) (rest := [(.ref j)]) rfl (lenOf pd18 rfl) rfl (Nat.le_of_eq rfl) (hb hby d36_6) ?_
  intro v2 vm2 T2 h2 L2 W2 q2
  obtain ⟨rfl, eh_⟩ := q2
  subst h2
  show Go _ _ _ _ (T2.setTop (mkF m_ 9 #[.val (.ref j), .val (.ref q), .unset] [(.int (4 : Int32)), (.ref j)]))
  refine W2.callP (y := Y10) (cx.w 101 rfl) (cx.w 103 rfl) (selP (y' := Y1) (cx.w 45 rfl) rfl (cx.w 103 rfl) (cx.w 102 rfl) (by decide)) (cx.w 102 rfl) (cx.w 33 rfl) (cx.w 104 rfl) (by decide) E_j (ct_room cx W2.old j b (bs ++ [(44 : Int32)]) 4 0 (by decide) ⟨E_j, F_bytes_j, fld_ln F_length_j rfl, F_first_j, V_b⟩ g_j g_b (hlA (k := 1) rfl (by omega))) all0 (by decide) (Wd := 0) (by decide) (k' := 0) (n' := 0) rfl rfl (by decide) (by decide) (by rw [hml]; rfl) (a := j) (argsL := [(.int (4 : Int32))]) (rest := []) rfl (lenOf pd14 rfl) rfl (Nat.le_of_eq rfl) (hb hby d36_9) ?_
  intro v3 vm3 T3 h3 L3 W3 q3
  obtain ⟨rfl, eh_⟩ := q3
  subst h3
  refine Go.st (fun _ => XS.iconst W3.here W3.ex rfl (hb hby d36_12)) ?_
  refine Go.st (fun _ => XS.istoreN W3.here W3.ex rfl (hb hby d36_13) rfl (l' := #[.val (.ref j), .val (.ref q), .val (.int (0 : Int32))]) rfl) ?_
  refine Go.st (fun _ => XS.iloadN W3.here W3.ex rfl (hb hby d36_14) rfl) ?_
  show Go _ _ _ _ (T3.setTop (mkF m_ 15 #[.val (.ref j), .val (.ref q), .val (.int (0 : Int32))] [(.int (0 : Int32))]))
  refine Go.st (fun _ => XS.aloadN W3.here W3.ex rfl (hb hby d36_15) rfl rfl) ?_
  show Go _ _ _ _ (T3.setTop (mkF m_ 16 #[.val (.ref j), .val (.ref q), .val (.int (0 : Int32))] [(.ref q), (.int (0 : Int32))]))
  refine W3.callV (y := Y26) (z := Y26) (cx.w 114 rfl) (cx.w 115 rfl) (cx.w 117 rfl) (cx.w 116 rfl) (cx.w 4 rfl) (cx.w 118 rfl) (W3.nf (cx.w 117 rfl)) (by decide) E_q (ct_len04 cx W3.old q t E_q F_value_q F_coder_q V_t) all0 (by decide) (Wd := 1) (by decide) (k' := 0) (n' := 0) rfl rfl (by decide) (by decide) (by rw [hml]; rfl) (a := q) (argsL := []) (rest := [(.int (0 : Int32))]) rfl (lenOf pd18 rfl) rfl (Nat.le_of_eq rfl) (hb hby d36_16) ?_
  intro v4 vm4 T4 h4 L4 W4 q4
  obtain ⟨rfl, eh_⟩ := q4
  subst h4
  refine Go.st (fun _ => XS.icmpNo W4.here W4.ex rfl (hb hby d36_19) rfl (tlt ((by decide) : (0 : Int32) < (4 : Int32))).2.1) ?_
  refine Go.st (fun _ => XS.aloadN W4.here W4.ex rfl (hb hby d36_22) rfl rfl) ?_
  show Go _ _ _ _ (T4.setTop (mkF m_ 23 #[.val (.ref j), .val (.ref q), .val (.int (0 : Int32))] [(.ref j)]))
  refine W4.getF (cx.w 38 rfl) Via.refl F_bytes_j (hb hby d36_23) ?_
  intro T5 W5
  refine Go.st (fun _ => XS.aloadN W5.here W5.ex rfl (hb hby d36_26) rfl rfl) ?_
  refine Go.st (fun _ => XS.dup W5.here W5.ex rfl (hb hby d36_27) rfl rfl) ?_
  show Go _ _ _ _ (T5.setTop (mkF m_ 28 #[.val (.ref j), .val (.ref q), .val (.int (0 : Int32))] [(.ref j), (.ref j), (.ref b)]))
  refine W5.getF (cx.w 47 rfl) Via.refl F_length_j (hb hby d36_28) ?_
  intro T6 W6
  refine Go.st (fun _ => XS.dupX1 W6.here W6.ex rfl (hb hby d36_31) rfl rfl rfl) ?_
  refine Go.st (fun _ => XS.iconst W6.here W6.ex rfl (hb hby d36_32)) ?_
  refine Go.st (fun _ => XS.iadd W6.here W6.ex rfl (hb hby d36_33) rfl) ?_
  show Go _ _ _ _ (T6.setTop (mkF m_ 34 #[.val (.ref j), .val (.ref q), .val (.int (0 : Int32))] [(.int ((Int32.ofNat (bs.length + 1)) + (1 : Int32))), (.ref j), (.int (Int32.ofNat (bs.length + 1))), (.ref b)]))
  rw [show ((Int32.ofNat (bs.length + 1)) + (1 : Int32)) = (Int32.ofNat (bs.length + 2)) from ofn_add _ 1]
  show Go _ _ _ _ (T6.setTop (mkF m_ 34 #[.val (.ref j), .val (.ref q), .val (.int (0 : Int32))] [(.int (Int32.ofNat (bs.length + 2))), (.ref j), (.int (Int32.ofNat (bs.length + 1))), (.ref b)]))
  refine W6.putF (cx.w 47 rfl) Via.refl F_length_j E_j (Or.inl (cx.w 48 rfl)) (cx.w 32 rfl) (ty := .int) (by decide) rfl rfl (List.mem_of_getElem? (i := 0) rfl) g_j (hb hby d36_34) ?_
  intro T7 h7 L7 W7 w7
  replace E_j := E_j.wr w7
  replace E_q := E_q.wr w7
  replace F_coder_q := F_coder_q.other w7 (Or.inl ne_q_j)
  replace F_value_q := F_value_q.other w7 (Or.inl ne_q_j)
  replace V_t := V_t.other w7 ne_t_j
  replace F_bytes_j := F_bytes_j.other w7 (Or.inr (slot_ne (Or.inl (cx.w 39 rfl)) (Or.inl (cx.w 48 rfl)) (by decide) (t := (.array .byte)) (t' := .int) (by decide) (by decide)))
  replace F_length_j := F_length_j.same w7
  replace F_first_j := F_first_j.other w7 (Or.inr (slot_ne (Or.inl (cx.w 41 rfl)) (Or.inl (cx.w 48 rfl)) (by decide) (t := .boolean) (t' := .int) (by decide) (by decide)))
  replace V_b := V_b.other w7 ne_b_j
  replace K0 := K0.wr w7 (Or.inl (List.mem_of_getElem? (i := 0) rfl))
  refine Go.st (fun _ => XS.aloadN W7.here W7.ex rfl (hb hby d36_37) rfl rfl) ?_
  refine Go.st (fun _ => XS.iloadN W7.here W7.ex rfl (hb hby d36_38) rfl) ?_
  show Go _ _ _ _ (T7.setTop (mkF m_ 39 #[.val (.ref j), .val (.ref q), .val (.int (0 : Int32))] [(.int (0 : Int32)), (.ref q), (.int (Int32.ofNat (bs.length + 1))), (.ref b)]))
  refine W7.callV (y := Y22) (z := Y22) (cx.w 124 rfl) (cx.w 125 rfl) (cx.w 127 rfl) (cx.w 126 rfl) (cx.w 4 rfl) (cx.w 128 rfl) (W7.nf (cx.w 127 rfl)) (by decide) E_q (ct_chL cx W7.old q t (0 : Int32) 4 110 110 E_q F_value_q F_coder_q V_t (by decide) (by rw [litV_n]; rfl) (by decide) (by decide)) all0 (by decide) (Wd := 2) (by decide) (k' := 0) (n' := 0) rfl rfl (by decide) (by decide) (by rw [hml]; rfl) (a := q) (argsL := [(.int (0 : Int32))]) (rest := [(.int (Int32.ofNat (bs.length + 1))), (.ref b)]) rfl (lenOf pd19 rfl) rfl (Nat.le_of_eq rfl) (hb hby d36_39) ?_
  intro v8 vm8 T8 h8 L8 W8 q8
  obtain ⟨rfl, eh_⟩ := q8
  subst h8
  refine Go.st (fun _ => XS.i2b W8.here W8.ex rfl (hb hby d36_42) rfl) ?_
  show Go _ _ _ _ (T8.setTop (mkF m_ 43 #[.val (.ref j), .val (.ref q), .val (.int (0 : Int32))] [(.int ((110 : Int32).toInt8.toInt32)), (.int (Int32.ofNat (bs.length + 1))), (.ref b)]))
  rw [show ((110 : Int32).toInt8.toInt32) = (110 : Int32) from by decide]
  show Go _ _ _ _ (T8.setTop (mkF m_ 43 #[.val (.ref j), .val (.ref q), .val (.int (0 : Int32))] [(.int (110 : Int32)), (.int (Int32.ofNat (bs.length + 1))), (.ref b)]))
  refine W8.stA V_b (x := (110 : Int32)) (n1 := (bs.length + 1)) (ln rfl) (rmB (k := 1) rfl (by omega)) (List.mem_of_getElem? (i := 1) rfl) g_b (hb hby d36_43) ?_
  intro T9 h9 L9 sl9 vv9 W9 w9 V_new
  replace E_j := E_j.wr w9
  replace E_q := E_q.wr w9
  replace F_coder_q := F_coder_q.other w9 (Or.inl ne_q_b)
  replace F_value_q := F_value_q.other w9 (Or.inl ne_q_b)
  replace V_t := V_t.other w9 ne_t_b
  replace F_bytes_j := F_bytes_j.other w9 (Or.inl (Ne.symm ne_b_j))
  replace F_length_j := F_length_j.other w9 (Or.inl (Ne.symm ne_b_j))
  replace F_first_j := F_first_j.other w9 (Or.inl (Ne.symm ne_b_j))
  replace K0 := K0.wr w9 (Or.inl (List.mem_of_getElem? (i := 1) rfl))
  replace V_b : Arv Z h9 b kb .byte (4096 : Int32) ((bs ++ [(44 : Int32), (110 : Int32)]).map Value.int) (.int 0) := by rw [List.append_assoc] at V_new; exact V_new
  clear V_new
  refine Go.st (fun _ => XS.iinc W9.here W9.ex rfl (hb hby d36_44) rfl (l' := #[.val (.ref j), .val (.ref q), .val (.int (1 : Int32))]) rfl) ?_
  refine Go.st (fun _ => XS.goto W9.here W9.ex rfl (pc0 := 47) (pc' := 14) rfl (hb hby d36_47) (by decide) (by decide)) ?_
  refine Go.st (fun _ => XS.iloadN W9.here W9.ex rfl (hb hby d36_14) rfl) ?_
  show Go _ _ _ _ (T9.setTop (mkF m_ 15 #[.val (.ref j), .val (.ref q), .val (.int (1 : Int32))] [(.int (1 : Int32))]))
  refine Go.st (fun _ => XS.aloadN W9.here W9.ex rfl (hb hby d36_15) rfl rfl) ?_
  show Go _ _ _ _ (T9.setTop (mkF m_ 16 #[.val (.ref j), .val (.ref q), .val (.int (1 : Int32))] [(.ref q), (.int (1 : Int32))]))
  refine W9.callV (y := Y26) (z := Y26) (cx.w 114 rfl) (cx.w 115 rfl) (cx.w 117 rfl) (cx.w 116 rfl) (cx.w 4 rfl) (cx.w 118 rfl) (W9.nf (cx.w 117 rfl)) (by decide) E_q (ct_len04 cx W9.old q t E_q F_value_q F_coder_q V_t) all0 (by decide) (Wd := 1) (by decide) (k' := 0) (n' := 0) rfl rfl (by decide) (by decide) (by rw [hml]; rfl) (a := q) (argsL := []) (rest := [(.int (1 : Int32))]) rfl (lenOf pd18 rfl) rfl (Nat.le_of_eq rfl) (hb hby d36_16) ?_
  intro v10 vm10 T10 h10 L10 W10 q10
  obtain ⟨rfl, eh_⟩ := q10
  subst h10
  refine Go.st (fun _ => XS.icmpNo W10.here W10.ex rfl (hb hby d36_19) rfl (tlt ((by decide) : (1 : Int32) < (4 : Int32))).2.1) ?_
  refine Go.st (fun _ => XS.aloadN W10.here W10.ex rfl (hb hby d36_22) rfl rfl) ?_
  show Go _ _ _ _ (T10.setTop (mkF m_ 23 #[.val (.ref j), .val (.ref q), .val (.int (1 : Int32))] [(.ref j)]))
  refine W10.getF (cx.w 38 rfl) Via.refl F_bytes_j (hb hby d36_23) ?_
  intro T11 W11
  refine Go.st (fun _ => XS.aloadN W11.here W11.ex rfl (hb hby d36_26) rfl rfl) ?_
  refine Go.st (fun _ => XS.dup W11.here W11.ex rfl (hb hby d36_27) rfl rfl) ?_
  show Go _ _ _ _ (T11.setTop (mkF m_ 28 #[.val (.ref j), .val (.ref q), .val (.int (1 : Int32))] [(.ref j), (.ref j), (.ref b)]))
  refine W11.getF (cx.w 47 rfl) Via.refl F_length_j (hb hby d36_28) ?_
  intro T12 W12
  refine Go.st (fun _ => XS.dupX1 W12.here W12.ex rfl (hb hby d36_31) rfl rfl rfl) ?_
  refine Go.st (fun _ => XS.iconst W12.here W12.ex rfl (hb hby d36_32)) ?_
  refine Go.st (fun _ => XS.iadd W12.here W12.ex rfl (hb hby d36_33) rfl) ?_
  show Go _ _ _ _ (T12.setTop (mkF m_ 34 #[.val (.ref j), .val (.ref q), .val (.int (1 : Int32))] [(.int ((Int32.ofNat (bs.length + 2)) + (1 : Int32))), (.ref j), (.int (Int32.ofNat (bs.length + 2))), (.ref b)]))
  rw [show ((Int32.ofNat (bs.length + 2)) + (1 : Int32)) = (Int32.ofNat (bs.length + 3)) from ofn_add _ 1]
  show Go _ _ _ _ (T12.setTop (mkF m_ 34 #[.val (.ref j), .val (.ref q), .val (.int (1 : Int32))] [(.int (Int32.ofNat (bs.length + 3))), (.ref j), (.int (Int32.ofNat (bs.length + 2))), (.ref b)]))
  refine W12.putF (cx.w 47 rfl) Via.refl F_length_j E_j (Or.inl (cx.w 48 rfl)) (cx.w 32 rfl) (ty := .int) (by decide) rfl rfl (List.mem_of_getElem? (i := 0) rfl) g_j (hb hby d36_34) ?_
  intro T13 h13 L13 W13 w13
  replace E_j := E_j.wr w13
  replace E_q := E_q.wr w13
  replace F_coder_q := F_coder_q.other w13 (Or.inl ne_q_j)
  replace F_value_q := F_value_q.other w13 (Or.inl ne_q_j)
  replace V_t := V_t.other w13 ne_t_j
  replace F_bytes_j := F_bytes_j.other w13 (Or.inr (slot_ne (Or.inl (cx.w 39 rfl)) (Or.inl (cx.w 48 rfl)) (by decide) (t := (.array .byte)) (t' := .int) (by decide) (by decide)))
  replace F_length_j := F_length_j.same w13
  replace F_first_j := F_first_j.other w13 (Or.inr (slot_ne (Or.inl (cx.w 41 rfl)) (Or.inl (cx.w 48 rfl)) (by decide) (t := .boolean) (t' := .int) (by decide) (by decide)))
  replace V_b := V_b.other w13 ne_b_j
  replace K0 := K0.wr w13 (Or.inl (List.mem_of_getElem? (i := 0) rfl))
  refine Go.st (fun _ => XS.aloadN W13.here W13.ex rfl (hb hby d36_37) rfl rfl) ?_
  refine Go.st (fun _ => XS.iloadN W13.here W13.ex rfl (hb hby d36_38) rfl) ?_
  show Go _ _ _ _ (T13.setTop (mkF m_ 39 #[.val (.ref j), .val (.ref q), .val (.int (1 : Int32))] [(.int (1 : Int32)), (.ref q), (.int (Int32.ofNat (bs.length + 2))), (.ref b)]))
  refine W13.callV (y := Y22) (z := Y22) (cx.w 124 rfl) (cx.w 125 rfl) (cx.w 127 rfl) (cx.w 126 rfl) (cx.w 4 rfl) (cx.w 128 rfl) (W13.nf (cx.w 127 rfl)) (by decide) E_q (ct_chL cx W13.old q t (1 : Int32) 4 117 117 E_q F_value_q F_coder_q V_t (by decide) (by rw [litV_n]; rfl) (by decide) (by decide)) all0 (by decide) (Wd := 2) (by decide) (k' := 0) (n' := 0) rfl rfl (by decide) (by decide) (by rw [hml]; rfl) (a := q) (argsL := [(.int (1 : Int32))]) (rest := [(.int (Int32.ofNat (bs.length + 2))), (.ref b)]) rfl (lenOf pd19 rfl) rfl (Nat.le_of_eq rfl) (hb hby d36_39) ?_
  intro v14 vm14 T14 h14 L14 W14 q14
  obtain ⟨rfl, eh_⟩ := q14
  subst h14
  refine Go.st (fun _ => XS.i2b W14.here W14.ex rfl (hb hby d36_42) rfl) ?_
  show Go _ _ _ _ (T14.setTop (mkF m_ 43 #[.val (.ref j), .val (.ref q), .val (.int (1 : Int32))] [(.int ((117 : Int32).toInt8.toInt32)), (.int (Int32.ofNat (bs.length + 2))), (.ref b)]))
  rw [show ((117 : Int32).toInt8.toInt32) = (117 : Int32) from by decide]
  show Go _ _ _ _ (T14.setTop (mkF m_ 43 #[.val (.ref j), .val (.ref q), .val (.int (1 : Int32))] [(.int (117 : Int32)), (.int (Int32.ofNat (bs.length + 2))), (.ref b)]))
  refine W14.stA V_b (x := (117 : Int32)) (n1 := (bs.length + 2)) (ln rfl) (rmB (k := 2) rfl (by omega)) (List.mem_of_getElem? (i := 1) rfl) g_b (hb hby d36_43) ?_
  intro T15 h15 L15 sl15 vv15 W15 w15 V_new
  replace E_j := E_j.wr w15
  replace E_q := E_q.wr w15
  replace F_coder_q := F_coder_q.other w15 (Or.inl ne_q_b)
  replace F_value_q := F_value_q.other w15 (Or.inl ne_q_b)
  replace V_t := V_t.other w15 ne_t_b
  replace F_bytes_j := F_bytes_j.other w15 (Or.inl (Ne.symm ne_b_j))
  replace F_length_j := F_length_j.other w15 (Or.inl (Ne.symm ne_b_j))
  replace F_first_j := F_first_j.other w15 (Or.inl (Ne.symm ne_b_j))
  replace K0 := K0.wr w15 (Or.inl (List.mem_of_getElem? (i := 1) rfl))
  replace V_b : Arv Z h15 b kb .byte (4096 : Int32) ((bs ++ [(44 : Int32), (110 : Int32), (117 : Int32)]).map Value.int) (.int 0) := by rw [List.append_assoc] at V_new; exact V_new
  clear V_new
  refine Go.st (fun _ => XS.iinc W15.here W15.ex rfl (hb hby d36_44) rfl (l' := #[.val (.ref j), .val (.ref q), .val (.int (2 : Int32))]) rfl) ?_
  refine Go.st (fun _ => XS.goto W15.here W15.ex rfl (pc0 := 47) (pc' := 14) rfl (hb hby d36_47) (by decide) (by decide)) ?_
  refine Go.st (fun _ => XS.iloadN W15.here W15.ex rfl (hb hby d36_14) rfl) ?_
  show Go _ _ _ _ (T15.setTop (mkF m_ 15 #[.val (.ref j), .val (.ref q), .val (.int (2 : Int32))] [(.int (2 : Int32))]))
  refine Go.st (fun _ => XS.aloadN W15.here W15.ex rfl (hb hby d36_15) rfl rfl) ?_
  show Go _ _ _ _ (T15.setTop (mkF m_ 16 #[.val (.ref j), .val (.ref q), .val (.int (2 : Int32))] [(.ref q), (.int (2 : Int32))]))
  refine W15.callV (y := Y26) (z := Y26) (cx.w 114 rfl) (cx.w 115 rfl) (cx.w 117 rfl) (cx.w 116 rfl) (cx.w 4 rfl) (cx.w 118 rfl) (W15.nf (cx.w 117 rfl)) (by decide) E_q (ct_len04 cx W15.old q t E_q F_value_q F_coder_q V_t) all0 (by decide) (Wd := 1) (by decide) (k' := 0) (n' := 0) rfl rfl (by decide) (by decide) (by rw [hml]; rfl) (a := q) (argsL := []) (rest := [(.int (2 : Int32))]) rfl (lenOf pd18 rfl) rfl (Nat.le_of_eq rfl) (hb hby d36_16) ?_
  intro v16 vm16 T16 h16 L16 W16 q16
  obtain ⟨rfl, eh_⟩ := q16
  subst h16
  refine Go.st (fun _ => XS.icmpNo W16.here W16.ex rfl (hb hby d36_19) rfl (tlt ((by decide) : (2 : Int32) < (4 : Int32))).2.1) ?_
  refine Go.st (fun _ => XS.aloadN W16.here W16.ex rfl (hb hby d36_22) rfl rfl) ?_
  show Go _ _ _ _ (T16.setTop (mkF m_ 23 #[.val (.ref j), .val (.ref q), .val (.int (2 : Int32))] [(.ref j)]))
  refine W16.getF (cx.w 38 rfl) Via.refl F_bytes_j (hb hby d36_23) ?_
  intro T17 W17
  refine Go.st (fun _ => XS.aloadN W17.here W17.ex rfl (hb hby d36_26) rfl rfl) ?_
  refine Go.st (fun _ => XS.dup W17.here W17.ex rfl (hb hby d36_27) rfl rfl) ?_
  show Go _ _ _ _ (T17.setTop (mkF m_ 28 #[.val (.ref j), .val (.ref q), .val (.int (2 : Int32))] [(.ref j), (.ref j), (.ref b)]))
  refine W17.getF (cx.w 47 rfl) Via.refl F_length_j (hb hby d36_28) ?_
  intro T18 W18
  refine Go.st (fun _ => XS.dupX1 W18.here W18.ex rfl (hb hby d36_31) rfl rfl rfl) ?_
  refine Go.st (fun _ => XS.iconst W18.here W18.ex rfl (hb hby d36_32)) ?_
  refine Go.st (fun _ => XS.iadd W18.here W18.ex rfl (hb hby d36_33) rfl) ?_
  show Go _ _ _ _ (T18.setTop (mkF m_ 34 #[.val (.ref j), .val (.ref q), .val (.int (2 : Int32))] [(.int ((Int32.ofNat (bs.length + 3)) + (1 : Int32))), (.ref j), (.int (Int32.ofNat (bs.length + 3))), (.ref b)]))
  rw [show ((Int32.ofNat (bs.length + 3)) + (1 : Int32)) = (Int32.ofNat (bs.length + 4)) from ofn_add _ 1]
  show Go _ _ _ _ (T18.setTop (mkF m_ 34 #[.val (.ref j), .val (.ref q), .val (.int (2 : Int32))] [(.int (Int32.ofNat (bs.length + 4))), (.ref j), (.int (Int32.ofNat (bs.length + 3))), (.ref b)]))
  refine W18.putF (cx.w 47 rfl) Via.refl F_length_j E_j (Or.inl (cx.w 48 rfl)) (cx.w 32 rfl) (ty := .int) (by decide) rfl rfl (List.mem_of_getElem? (i := 0) rfl) g_j (hb hby d36_34) ?_
  intro T19 h19 L19 W19 w19
  replace E_j := E_j.wr w19
  replace E_q := E_q.wr w19
  replace F_coder_q := F_coder_q.other w19 (Or.inl ne_q_j)
  replace F_value_q := F_value_q.other w19 (Or.inl ne_q_j)
  replace V_t := V_t.other w19 ne_t_j
  replace F_bytes_j := F_bytes_j.other w19 (Or.inr (slot_ne (Or.inl (cx.w 39 rfl)) (Or.inl (cx.w 48 rfl)) (by decide) (t := (.array .byte)) (t' := .int) (by decide) (by decide)))
  replace F_length_j := F_length_j.same w19
  replace F_first_j := F_first_j.other w19 (Or.inr (slot_ne (Or.inl (cx.w 41 rfl)) (Or.inl (cx.w 48 rfl)) (by decide) (t := .boolean) (t' := .int) (by decide) (by decide)))
  replace V_b := V_b.other w19 ne_b_j
  replace K0 := K0.wr w19 (Or.inl (List.mem_of_getElem? (i := 0) rfl))
  refine Go.st (fun _ => XS.aloadN W19.here W19.ex rfl (hb hby d36_37) rfl rfl) ?_
  refine Go.st (fun _ => XS.iloadN W19.here W19.ex rfl (hb hby d36_38) rfl) ?_
  show Go _ _ _ _ (T19.setTop (mkF m_ 39 #[.val (.ref j), .val (.ref q), .val (.int (2 : Int32))] [(.int (2 : Int32)), (.ref q), (.int (Int32.ofNat (bs.length + 3))), (.ref b)]))
  refine W19.callV (y := Y22) (z := Y22) (cx.w 124 rfl) (cx.w 125 rfl) (cx.w 127 rfl) (cx.w 126 rfl) (cx.w 4 rfl) (cx.w 128 rfl) (W19.nf (cx.w 127 rfl)) (by decide) E_q (ct_chL cx W19.old q t (2 : Int32) 4 108 108 E_q F_value_q F_coder_q V_t (by decide) (by rw [litV_n]; rfl) (by decide) (by decide)) all0 (by decide) (Wd := 2) (by decide) (k' := 0) (n' := 0) rfl rfl (by decide) (by decide) (by rw [hml]; rfl) (a := q) (argsL := [(.int (2 : Int32))]) (rest := [(.int (Int32.ofNat (bs.length + 3))), (.ref b)]) rfl (lenOf pd19 rfl) rfl (Nat.le_of_eq rfl) (hb hby d36_39) ?_
  intro v20 vm20 T20 h20 L20 W20 q20
  obtain ⟨rfl, eh_⟩ := q20
  subst h20
  refine Go.st (fun _ => XS.i2b W20.here W20.ex rfl (hb hby d36_42) rfl) ?_
  show Go _ _ _ _ (T20.setTop (mkF m_ 43 #[.val (.ref j), .val (.ref q), .val (.int (2 : Int32))] [(.int ((108 : Int32).toInt8.toInt32)), (.int (Int32.ofNat (bs.length + 3))), (.ref b)]))
  rw [show ((108 : Int32).toInt8.toInt32) = (108 : Int32) from by decide]
  show Go _ _ _ _ (T20.setTop (mkF m_ 43 #[.val (.ref j), .val (.ref q), .val (.int (2 : Int32))] [(.int (108 : Int32)), (.int (Int32.ofNat (bs.length + 3))), (.ref b)]))
  refine W20.stA V_b (x := (108 : Int32)) (n1 := (bs.length + 3)) (ln rfl) (rmB (k := 3) rfl (by omega)) (List.mem_of_getElem? (i := 1) rfl) g_b (hb hby d36_43) ?_
  intro T21 h21 L21 sl21 vv21 W21 w21 V_new
  replace E_j := E_j.wr w21
  replace E_q := E_q.wr w21
  replace F_coder_q := F_coder_q.other w21 (Or.inl ne_q_b)
  replace F_value_q := F_value_q.other w21 (Or.inl ne_q_b)
  replace V_t := V_t.other w21 ne_t_b
  replace F_bytes_j := F_bytes_j.other w21 (Or.inl (Ne.symm ne_b_j))
  replace F_length_j := F_length_j.other w21 (Or.inl (Ne.symm ne_b_j))
  replace F_first_j := F_first_j.other w21 (Or.inl (Ne.symm ne_b_j))
  replace K0 := K0.wr w21 (Or.inl (List.mem_of_getElem? (i := 1) rfl))
  replace V_b : Arv Z h21 b kb .byte (4096 : Int32) ((bs ++ [(44 : Int32), (110 : Int32), (117 : Int32), (108 : Int32)]).map Value.int) (.int 0) := by rw [List.append_assoc] at V_new; exact V_new
  clear V_new
  refine Go.st (fun _ => XS.iinc W21.here W21.ex rfl (hb hby d36_44) rfl (l' := #[.val (.ref j), .val (.ref q), .val (.int (3 : Int32))]) rfl) ?_
  refine Go.st (fun _ => XS.goto W21.here W21.ex rfl (pc0 := 47) (pc' := 14) rfl (hb hby d36_47) (by decide) (by decide)) ?_
  refine Go.st (fun _ => XS.iloadN W21.here W21.ex rfl (hb hby d36_14) rfl) ?_
  show Go _ _ _ _ (T21.setTop (mkF m_ 15 #[.val (.ref j), .val (.ref q), .val (.int (3 : Int32))] [(.int (3 : Int32))]))
  refine Go.st (fun _ => XS.aloadN W21.here W21.ex rfl (hb hby d36_15) rfl rfl) ?_
  show Go _ _ _ _ (T21.setTop (mkF m_ 16 #[.val (.ref j), .val (.ref q), .val (.int (3 : Int32))] [(.ref q), (.int (3 : Int32))]))
  refine W21.callV (y := Y26) (z := Y26) (cx.w 114 rfl) (cx.w 115 rfl) (cx.w 117 rfl) (cx.w 116 rfl) (cx.w 4 rfl) (cx.w 118 rfl) (W21.nf (cx.w 117 rfl)) (by decide) E_q (ct_len04 cx W21.old q t E_q F_value_q F_coder_q V_t) all0 (by decide) (Wd := 1) (by decide) (k' := 0) (n' := 0) rfl rfl (by decide) (by decide) (by rw [hml]; rfl) (a := q) (argsL := []) (rest := [(.int (3 : Int32))]) rfl (lenOf pd18 rfl) rfl (Nat.le_of_eq rfl) (hb hby d36_16) ?_
  intro v22 vm22 T22 h22 L22 W22 q22
  obtain ⟨rfl, eh_⟩ := q22
  subst h22
  refine Go.st (fun _ => XS.icmpNo W22.here W22.ex rfl (hb hby d36_19) rfl (tlt ((by decide) : (3 : Int32) < (4 : Int32))).2.1) ?_
  refine Go.st (fun _ => XS.aloadN W22.here W22.ex rfl (hb hby d36_22) rfl rfl) ?_
  show Go _ _ _ _ (T22.setTop (mkF m_ 23 #[.val (.ref j), .val (.ref q), .val (.int (3 : Int32))] [(.ref j)]))
  refine W22.getF (cx.w 38 rfl) Via.refl F_bytes_j (hb hby d36_23) ?_
  intro T23 W23
  refine Go.st (fun _ => XS.aloadN W23.here W23.ex rfl (hb hby d36_26) rfl rfl) ?_
  refine Go.st (fun _ => XS.dup W23.here W23.ex rfl (hb hby d36_27) rfl rfl) ?_
  show Go _ _ _ _ (T23.setTop (mkF m_ 28 #[.val (.ref j), .val (.ref q), .val (.int (3 : Int32))] [(.ref j), (.ref j), (.ref b)]))
  refine W23.getF (cx.w 47 rfl) Via.refl F_length_j (hb hby d36_28) ?_
  intro T24 W24
  refine Go.st (fun _ => XS.dupX1 W24.here W24.ex rfl (hb hby d36_31) rfl rfl rfl) ?_
  refine Go.st (fun _ => XS.iconst W24.here W24.ex rfl (hb hby d36_32)) ?_
  refine Go.st (fun _ => XS.iadd W24.here W24.ex rfl (hb hby d36_33) rfl) ?_
  show Go _ _ _ _ (T24.setTop (mkF m_ 34 #[.val (.ref j), .val (.ref q), .val (.int (3 : Int32))] [(.int ((Int32.ofNat (bs.length + 4)) + (1 : Int32))), (.ref j), (.int (Int32.ofNat (bs.length + 4))), (.ref b)]))
  rw [show ((Int32.ofNat (bs.length + 4)) + (1 : Int32)) = (Int32.ofNat (bs.length + 5)) from ofn_add _ 1]
  show Go _ _ _ _ (T24.setTop (mkF m_ 34 #[.val (.ref j), .val (.ref q), .val (.int (3 : Int32))] [(.int (Int32.ofNat (bs.length + 5))), (.ref j), (.int (Int32.ofNat (bs.length + 4))), (.ref b)]))
  refine W24.putF (cx.w 47 rfl) Via.refl F_length_j E_j (Or.inl (cx.w 48 rfl)) (cx.w 32 rfl) (ty := .int) (by decide) rfl rfl (List.mem_of_getElem? (i := 0) rfl) g_j (hb hby d36_34) ?_
  intro T25 h25 L25 W25 w25
  replace E_j := E_j.wr w25
  replace E_q := E_q.wr w25
  replace F_coder_q := F_coder_q.other w25 (Or.inl ne_q_j)
  replace F_value_q := F_value_q.other w25 (Or.inl ne_q_j)
  replace V_t := V_t.other w25 ne_t_j
  replace F_bytes_j := F_bytes_j.other w25 (Or.inr (slot_ne (Or.inl (cx.w 39 rfl)) (Or.inl (cx.w 48 rfl)) (by decide) (t := (.array .byte)) (t' := .int) (by decide) (by decide)))
  replace F_length_j := F_length_j.same w25
  replace F_first_j := F_first_j.other w25 (Or.inr (slot_ne (Or.inl (cx.w 41 rfl)) (Or.inl (cx.w 48 rfl)) (by decide) (t := .boolean) (t' := .int) (by decide) (by decide)))
  replace V_b := V_b.other w25 ne_b_j
  replace K0 := K0.wr w25 (Or.inl (List.mem_of_getElem? (i := 0) rfl))
  refine Go.st (fun _ => XS.aloadN W25.here W25.ex rfl (hb hby d36_37) rfl rfl) ?_
  refine Go.st (fun _ => XS.iloadN W25.here W25.ex rfl (hb hby d36_38) rfl) ?_
  show Go _ _ _ _ (T25.setTop (mkF m_ 39 #[.val (.ref j), .val (.ref q), .val (.int (3 : Int32))] [(.int (3 : Int32)), (.ref q), (.int (Int32.ofNat (bs.length + 4))), (.ref b)]))
  refine W25.callV (y := Y22) (z := Y22) (cx.w 124 rfl) (cx.w 125 rfl) (cx.w 127 rfl) (cx.w 126 rfl) (cx.w 4 rfl) (cx.w 128 rfl) (W25.nf (cx.w 127 rfl)) (by decide) E_q (ct_chL cx W25.old q t (3 : Int32) 4 108 108 E_q F_value_q F_coder_q V_t (by decide) (by rw [litV_n]; rfl) (by decide) (by decide)) all0 (by decide) (Wd := 2) (by decide) (k' := 0) (n' := 0) rfl rfl (by decide) (by decide) (by rw [hml]; rfl) (a := q) (argsL := [(.int (3 : Int32))]) (rest := [(.int (Int32.ofNat (bs.length + 4))), (.ref b)]) rfl (lenOf pd19 rfl) rfl (Nat.le_of_eq rfl) (hb hby d36_39) ?_
  intro v26 vm26 T26 h26 L26 W26 q26
  obtain ⟨rfl, eh_⟩ := q26
  subst h26
  refine Go.st (fun _ => XS.i2b W26.here W26.ex rfl (hb hby d36_42) rfl) ?_
  show Go _ _ _ _ (T26.setTop (mkF m_ 43 #[.val (.ref j), .val (.ref q), .val (.int (3 : Int32))] [(.int ((108 : Int32).toInt8.toInt32)), (.int (Int32.ofNat (bs.length + 4))), (.ref b)]))
  rw [show ((108 : Int32).toInt8.toInt32) = (108 : Int32) from by decide]
  show Go _ _ _ _ (T26.setTop (mkF m_ 43 #[.val (.ref j), .val (.ref q), .val (.int (3 : Int32))] [(.int (108 : Int32)), (.int (Int32.ofNat (bs.length + 4))), (.ref b)]))
  refine W26.stA V_b (x := (108 : Int32)) (n1 := (bs.length + 4)) (ln rfl) (rmB (k := 4) rfl (by omega)) (List.mem_of_getElem? (i := 1) rfl) g_b (hb hby d36_43) ?_
  intro T27 h27 L27 sl27 vv27 W27 w27 V_new
  replace E_j := E_j.wr w27
  replace E_q := E_q.wr w27
  replace F_coder_q := F_coder_q.other w27 (Or.inl ne_q_b)
  replace F_value_q := F_value_q.other w27 (Or.inl ne_q_b)
  replace V_t := V_t.other w27 ne_t_b
  replace F_bytes_j := F_bytes_j.other w27 (Or.inl (Ne.symm ne_b_j))
  replace F_length_j := F_length_j.other w27 (Or.inl (Ne.symm ne_b_j))
  replace F_first_j := F_first_j.other w27 (Or.inl (Ne.symm ne_b_j))
  replace K0 := K0.wr w27 (Or.inl (List.mem_of_getElem? (i := 1) rfl))
  replace V_b : Arv Z h27 b kb .byte (4096 : Int32) ((bs ++ [(44 : Int32), (110 : Int32), (117 : Int32), (108 : Int32), (108 : Int32)]).map Value.int) (.int 0) := by rw [List.append_assoc] at V_new; exact V_new
  clear V_new
  refine Go.st (fun _ => XS.iinc W27.here W27.ex rfl (hb hby d36_44) rfl (l' := #[.val (.ref j), .val (.ref q), .val (.int (4 : Int32))]) rfl) ?_
  refine Go.st (fun _ => XS.goto W27.here W27.ex rfl (pc0 := 47) (pc' := 14) rfl (hb hby d36_47) (by decide) (by decide)) ?_
  refine Go.st (fun _ => XS.iloadN W27.here W27.ex rfl (hb hby d36_14) rfl) ?_
  show Go _ _ _ _ (T27.setTop (mkF m_ 15 #[.val (.ref j), .val (.ref q), .val (.int (4 : Int32))] [(.int (4 : Int32))]))
  refine Go.st (fun _ => XS.aloadN W27.here W27.ex rfl (hb hby d36_15) rfl rfl) ?_
  show Go _ _ _ _ (T27.setTop (mkF m_ 16 #[.val (.ref j), .val (.ref q), .val (.int (4 : Int32))] [(.ref q), (.int (4 : Int32))]))
  refine W27.callV (y := Y26) (z := Y26) (cx.w 114 rfl) (cx.w 115 rfl) (cx.w 117 rfl) (cx.w 116 rfl) (cx.w 4 rfl) (cx.w 118 rfl) (W27.nf (cx.w 117 rfl)) (by decide) E_q (ct_len04 cx W27.old q t E_q F_value_q F_coder_q V_t) all0 (by decide) (Wd := 1) (by decide) (k' := 0) (n' := 0) rfl rfl (by decide) (by decide) (by rw [hml]; rfl) (a := q) (argsL := []) (rest := [(.int (4 : Int32))]) rfl (lenOf pd18 rfl) rfl (Nat.le_of_eq rfl) (hb hby d36_16) ?_
  intro v28 vm28 T28 h28 L28 W28 q28
  obtain ⟨rfl, eh_⟩ := q28
  subst h28
  refine Go.st (fun _ => XS.icmpYes W28.here W28.ex rfl (pc0 := 19) (pc' := 50) rfl (hb hby d36_19) rfl (flt ((by decide) : ¬ ((4 : Int32) < (4 : Int32)))).2.1 (by decide) (by decide)) ?_
  refine Go.st (fun _ => XS.aloadN W28.here W28.ex rfl (hb hby d36_50) rfl rfl) ?_
  show Go _ _ _ _ (T28.setTop (mkF m_ 51 #[.val (.ref j), .val (.ref q), .val (.int (4 : Int32))] [(.ref j)]))
  exact W28.retA hret rfl rfl (hb hby d36_51) (by decide) (by decide) fun vr_ cr_ => ⟨rfl, K0, ⟨E_j, F_bytes_j, fld_ln F_length_j rfl, F_first_j, V_b⟩⟩
theorem ct_null {l : Launch} {Z a0 n0 g1 gf hxa khx} (cx : Ctx Z a0 n0 g1 gf hxa khx) {h : Heap} (O : Old Z n0 h) (j b : Addr) (bs : List Int32) {kb : ClassId} (J : JT Z h j b kb bs 0) (g_j : n0 ≤ j) (g_b : n0 ≤ b) (hl : bs.length ≤ 170) :
    Ct l Z consts_1 n0 [] Y6 prog_10_method_10_code 1 (some (.object "com/example/dijtabla/dijtabla/JsonText")) ({ frames := 6, cells := 2, slots := 20, locals := 82 } : Room) #[(.ref j)] [j, b] h (fun v _ h' => v = some (.ref j) ∧ Keep h h' [j, b] ∧ JT Z h' j b kb (bs ++ [(44 : Int32), (110 : Int32), (117 : Int32), (108 : Int32), (108 : Int32)]) 0) := by
  obtain ⟨E_j, F_bytes_j, F_length_j, F_first_j, V_b⟩ := J
  have ne_b_j : b ≠ j := (Ne.symm (Exa.neArv E_j V_b (cx.w 32 rfl)))
  refine Ct.intro (plainFor_of_name pn4) O cx.ew ?_
  intro p_ e_ s_ m_ bl_ mt_ c_ T0 W0 hby hml hret hnm
  refine Go.st (fun t_ k_ => castTop (g' := mkF m_ 0 #[.val (.ref j)] []) (by first | (simp [entryFrame, mkF, argsToLocals, Value.category]; done) | rfl) k_) ?_
  show Go _ _ _ _ (T0.setTop (mkF m_ 0 #[.val (.ref j)] []))
  have K0 : Keep h h [j, b] := Keep.refl _ _
  refine Go.st (fun _ => XS.aloadN W0.here W0.ex rfl (hb hby d35_0) rfl rfl) ?_
  show Go _ _ _ _ (T0.setTop (mkF m_ 1 #[.val (.ref j)] [(.ref j)]))
  refine W0.ldc (cx.w 165 rfl) cx.str (EL := consts_1) (List.mem_of_getElem? (i := 0) rfl) (vs := (litV 165)) (z := 4) ⟨by decide, rfl⟩ (by decide) rfl (hb hby d35_1) (j := 16) (by decide) (by decide) (k' := 2) (n' := 20) rfl rfl (by decide) (by decide) ?_
  intro vm1 T1 h1 a1 d1 kA_d1 W1 E1 E_a1 F_coder_a1 F_value_a1 V_d1 nl1
  replace E_j := E_j.ext E1
  replace F_bytes_j := F_bytes_j.ext E1
  replace F_length_j := F_length_j.ext E1
  replace F_first_j := F_first_j.ext E1
  replace V_b := V_b.ext E1
  replace K0 := K0.ext E1
  show Go _ _ _ _ (T1.setTop (mkF m_ 3 #[.val (.ref j)] [(.ref a1), (.ref j)]))
  have ne_t_b : d1 ≠ b := (Ne.symm (nl1 b (List.mem_of_getElem? (i := 1) rfl)).2)
  refine W1.callP (y := (⟨"com/example/dijtabla/dijtabla/JsonText", "literal", "(Ljava/lang/String;)Lcom/example/dijtabla/dijtabla/JsonText;"⟩ : MethodName)) (cx.w 168 rfl) (cx.w 170 rfl) (selP (y' := Y1) (cx.w 45 rfl) rfl (cx.w 170 rfl) (cx.w 169 rfl) (by decide)) (cx.w 169 rfl) (cx.w 33 rfl) (cx.w 171 rfl) (by decide) E_j (ct_lit cx W1.old j b bs a1 d1 ⟨E_j, F_bytes_j, F_length_j, F_first_j, V_b⟩ g_j g_b (by omega) E_a1 F_value_a1 F_coder_a1 V_d1 ne_t_b) (allS (List.mem_of_getElem? (i := 0) rfl) (allS (List.mem_of_getElem? (i := 1) rfl) all0)) (by decide) (Wd := 0) (by decide) (k' := 2) (n' := 20) rfl rfl (by decide) (by decide) (by rw [hml]; rfl) (a := j) (argsL := [(.ref a1)]) (rest := []) rfl (lenOf pd20 rfl) rfl (Nat.le_of_eq rfl) (hb hby d35_3) ?_
  intro v2 vm2 T2 h2 L2 W2 q2
  obtain ⟨rfl, K1, Jq⟩ := q2
  replace E_j := E_j.keep K1
  replace E_a1 := E_a1.keep K1
  replace F_coder_a1 := F_coder_a1.keep K1 (ninS (Ne.symm (nl1 j (List.mem_of_getElem? (i := 0) rfl)).1) (ninS (Ne.symm (nl1 b (List.mem_of_getElem? (i := 1) rfl)).1) nin0))
  replace F_value_a1 := F_value_a1.keep K1 (ninS (Ne.symm (nl1 j (List.mem_of_getElem? (i := 0) rfl)).1) (ninS (Ne.symm (nl1 b (List.mem_of_getElem? (i := 1) rfl)).1) nin0))
  replace V_d1 := V_d1.keep K1 (ninS (Ne.symm (nl1 j (List.mem_of_getElem? (i := 0) rfl)).2) (ninS (Ne.symm (nl1 b (List.mem_of_getElem? (i := 1) rfl)).2) nin0))
  replace K0 := K0.trans K1 (allS (Or.inl (List.mem_of_getElem? (i := 0) rfl)) (allS (Or.inl (List.mem_of_getElem? (i := 1) rfl)) all0))
  show Go _ _ _ _ (T2.setTop (mkF m_ 6 #[.val (.ref j)] [(.ref j)]))
  obtain ⟨-, F_bytes_j, F_length_j, F_first_j, V_b⟩ := Jq
  exact W2.retA hret rfl rfl (hb hby d35_6) (by decide) (by decide) fun vr_ cr_ => ⟨rfl, K0, E_j, F_bytes_j, F_length_j, F_first_j, V_b⟩
theorem ct_sur {l : Launch} {Z a0 n0 g1 gf hxa khx} (cx : Ctx Z a0 n0 g1 gf hxa khx) {h : Heap} (O : Old Z n0 h) (c : Int32)  :
    Ct l Z consts_1 n0 [] (⟨"java/lang/Character", "isSurrogate", "(C)Z"⟩ : MethodName) jdk_89_method_16_code 1 (some .boolean) ({ frames := 0, cells := 0, slots := 0, locals := 0 } : Room) #[(.int c)] [] h (fun v _ h' => (v = some (.int 1) ∧ ¬ c < 55296 ∧ c < 57344 ∧ h' = h) ∨ (v = some (.int 0) ∧ (c < 55296 ∨ ¬ c < 57344) ∧ h' = h)) := by
  refine Ct.intro (plainFor_of_name pn5) O cx.ew ?_
  intro p_ e_ s_ m_ bl_ mt_ c_ T0 W0 hby hml hret hnm
  refine Go.st (fun t_ k_ => castTop (g' := mkF m_ 0 #[.val (.int c)] []) (by first | (simp [entryFrame, mkF, argsToLocals, Value.category]; done) | rfl) k_) ?_
  refine Go.st (fun _ => XS.iloadN W0.here W0.ex rfl (hb hby d34_0) rfl) ?_
  show Go _ _ _ _ (T0.setTop (mkF m_ 1 #[.val (.int c)] [(.int c)]))
  refine Go.st (fun _ => W0.X.ldcInt W0.ex W0.ho (mvT W0.hZ (cx.w 159 rfl)) (g := (mkF m_ 1 #[.val (.int c)] [(.int c)])) rfl (hb hby d34_1) _) ?_
  show Go _ _ _ _ (T0.setTop (mkF m_ 3 #[.val (.int c)] [(.int (55296 : Int32)), (.int c)]))
  by_cases z1 : c < (55296 : Int32)
  · refine Go.st (fun _ => XS.icmpYes W0.here W0.ex rfl (pc0 := 3) (pc' := 16) rfl (hb hby d34_3) rfl (tlt (z1 : c < (55296 : Int32))).1 (by decide) (by decide)) ?_
    refine Go.st (fun _ => XS.iconst W0.here W0.ex rfl (hb hby d34_16)) ?_
    show Go _ _ _ _ (T0.setTop (mkF m_ 17 #[.val (.int c)] [(.int (0 : Int32))]))
    exact W0.retN hret (by simp) (hb hby d34_17) (by decide) (by decide) fun vr_ cr_ => Or.inr ⟨rfl, Or.inl z1, rfl⟩
  · refine Go.st (fun _ => XS.icmpNo W0.here W0.ex rfl (hb hby d34_3) rfl (flt (z1 : ¬ (c < (55296 : Int32)))).1) ?_
    refine Go.st (fun _ => XS.iloadN W0.here W0.ex rfl (hb hby d34_6) rfl) ?_
    show Go _ _ _ _ (T0.setTop (mkF m_ 7 #[.val (.int c)] [(.int c)]))
    refine Go.st (fun _ => W0.X.ldcInt W0.ex W0.ho (mvT W0.hZ (cx.w 190 rfl)) (g := (mkF m_ 7 #[.val (.int c)] [(.int c)])) rfl (hb hby d34_7) _) ?_
    show Go _ _ _ _ (T0.setTop (mkF m_ 9 #[.val (.int c)] [(.int (57344 : Int32)), (.int c)]))
    by_cases z2 : c < (57344 : Int32)
    · refine Go.st (fun _ => XS.icmpNo W0.here W0.ex rfl (hb hby d34_9) rfl (tlt (z2 : c < (57344 : Int32))).2.1) ?_
      refine Go.st (fun _ => XS.iconst W0.here W0.ex rfl (hb hby d34_12)) ?_
      show Go _ _ _ _ (T0.setTop (mkF m_ 13 #[.val (.int c)] [(.int (1 : Int32))]))
      refine Go.st (fun _ => XS.goto W0.here W0.ex rfl (pc0 := 13) (pc' := 17) rfl (hb hby d34_13) (by decide) (by decide)) ?_
      show Go _ _ _ _ (T0.setTop (mkF m_ 17 #[.val (.int c)] [(.int (1 : Int32))]))
      exact W0.retN hret (by simp) (hb hby d34_17) (by decide) (by decide) fun vr_ cr_ => Or.inl ⟨rfl, z1, z2, rfl⟩
    · refine Go.st (fun _ => XS.icmpYes W0.here W0.ex rfl (pc0 := 9) (pc' := 16) rfl (hb hby d34_9) rfl (flt (z2 : ¬ (c < (57344 : Int32)))).2.1 (by decide) (by decide)) ?_
      refine Go.st (fun _ => XS.iconst W0.here W0.ex rfl (hb hby d34_16)) ?_
      show Go _ _ _ _ (T0.setTop (mkF m_ 17 #[.val (.int c)] [(.int (0 : Int32))]))
      exact W0.retN hret (by simp) (hb hby d34_17) (by decide) (by decide) fun vr_ cr_ => Or.inr ⟨rfl, Or.inr z2, rfl⟩
theorem esc_u {l : Launch} {Z a0 n0 g1 gf hxa khx} (cx : Ctx Z a0 n0 g1 gf hxa khx) {p_ : Program} {e_ : Env} {s_ : State} {m_ : MethodId} {ar_ : Array Value} {bl_ : List Frame} {mt_ : Method} {c_ : Code} {vm0 : Vm} {T0 : State} {h : Heap} {L0 : List Loc} (j b : Addr) (bs : List Int32) (c : Int32) (h00 : Heap) {kb : ClassId} (W0 : Wk p_ l e_ ({ frames := 5, cells := 2, slots := 28, locals := 68 } : Room) s_ m_ ar_ bl_ mt_ c_ Z a0 consts_1 n0 "com/example/dijtabla/dijtabla/JsonText" vm0 T0 h L0 0 0 [b]) (hby : c_.code = prog_10_method_17_code) (hml : c_.maxLocals = 5) (hret : mt_.sig.returnType = (some .int)) (hnm : mt_.name = "escaped") (E_j : Exa Z h j "com/example/dijtabla/dijtabla/JsonText") (F_bytes_j : Fld Z h j "com/example/dijtabla/dijtabla/JsonText" "bytes" "[B" (.ref b)) (V_b : Arv Z h b kb .byte 4096 (bs.map Value.int) (.int 0)) (g_b : n0 ≤ b) (hl : bs.length ≤ 190) (hC : R16 c) (hu : Ec c = [92, 117, hx (c / 4096), hx ((c / 256) % 16), hx ((c / 16) % 16), hx (c % 16)]) (K0 : Keep h00 h [b]) :
    Go p_ e_ bl_ (Pst Z consts_1 n0 s_ ({ frames := 5, cells := 2, slots := 28, locals := 68 } : Room).cells ({ frames := 5, cells := 2, slots := 28, locals := 68 } : Room).slots (fun v _ h' => v = some (.int (Int32.ofNat (bs ++ Ec c).length)) ∧ Keep h00 h' [b] ∧ Arv Z h' b kb .byte 4096 ((bs ++ Ec c).map Value.int) (.int 0))) (T0.setTop (mkF m_ 115 #[.val (.ref j), .val (.int c), .val (.int (Int32.ofNat bs.length)), .val (.int (Int32.ofNat bs.length)), .unset] [])) := by
  refine Go.st (fun _ => XS.aloadN W0.here W0.ex rfl (hb hby d33_115) rfl rfl) ?_
  show Go _ _ _ _ (T0.setTop (mkF m_ 116 #[.val (.ref j), .val (.int c), .val (.int (Int32.ofNat bs.length)), .val (.int (Int32.ofNat bs.length)), .unset] [(.ref j)]))
  refine W0.getF (cx.w 38 rfl) Via.refl F_bytes_j (hb hby d33_116) ?_
  intro T1 W1
  refine Go.st (fun _ => XS.iloadN W1.here W1.ex rfl (hb hby d33_119) rfl) ?_
  refine Go.st (fun _ => XS.iinc W1.here W1.ex rfl (hb hby d33_120) rfl (l' := #[.val (.ref j), .val (.int c), .val (.int (Int32.ofNat bs.length)), .val (.int ((Int32.ofNat bs.length) + (1 : Int32))), .unset]) rfl) ?_
  show Go _ _ _ _ (T1.setTop (mkF m_ 123 #[.val (.ref j), .val (.int c), .val (.int (Int32.ofNat bs.length)), .val (.int ((Int32.ofNat bs.length) + (1 : Int32))), .unset] [(.int (Int32.ofNat bs.length)), (.ref b)]))
  rw [show ((Int32.ofNat bs.length) + (1 : Int32)) = (Int32.ofNat (bs.length + 1)) from ofn_add _ 1]
  refine Go.st (fun _ => XS.bipush W1.here W1.ex rfl (hb hby d33_123)) ?_
  show Go _ _ _ _ (T1.setTop (mkF m_ 125 #[.val (.ref j), .val (.int c), .val (.int (Int32.ofNat bs.length)), .val (.int (Int32.ofNat (bs.length + 1))), .unset] [(.int (92 : Int32)), (.int (Int32.ofNat bs.length)), (.ref b)]))
  refine W1.stA V_b (x := (92 : Int32)) (n1 := bs.length) rfl (rmB0 (by omega)) (List.mem_of_getElem? (i := 0) rfl) g_b (hb hby d33_125) ?_
  intro T2 h2 L2 sl2 vv2 W2 w2 V_new
  have ne_j_b : j ≠ b := (Exa.neArv E_j V_b (cx.w 32 rfl))
  replace E_j := E_j.wr w2
  replace F_bytes_j := F_bytes_j.other w2 (Or.inl ne_j_b)
  replace K0 := K0.wr w2 (Or.inl (List.mem_of_getElem? (i := 0) rfl))
  replace V_b : Arv Z h2 b kb .byte (4096 : Int32) ((bs ++ [(92 : Int32)]).map Value.int) (.int 0) := V_new
  clear V_new
  refine Go.st (fun _ => XS.aloadN W2.here W2.ex rfl (hb hby d33_126) rfl rfl) ?_
  show Go _ _ _ _ (T2.setTop (mkF m_ 127 #[.val (.ref j), .val (.int c), .val (.int (Int32.ofNat bs.length)), .val (.int (Int32.ofNat (bs.length + 1))), .unset] [(.ref j)]))
  refine W2.getF (cx.w 38 rfl) Via.refl F_bytes_j (hb hby d33_127) ?_
  intro T3 W3
  refine Go.st (fun _ => XS.iloadN W3.here W3.ex rfl (hb hby d33_130) rfl) ?_
  refine Go.st (fun _ => XS.iinc W3.here W3.ex rfl (hb hby d33_131) rfl (l' := #[.val (.ref j), .val (.int c), .val (.int (Int32.ofNat bs.length)), .val (.int ((Int32.ofNat (bs.length + 1)) + (1 : Int32))), .unset]) rfl) ?_
  show Go _ _ _ _ (T3.setTop (mkF m_ 134 #[.val (.ref j), .val (.int c), .val (.int (Int32.ofNat bs.length)), .val (.int ((Int32.ofNat (bs.length + 1)) + (1 : Int32))), .unset] [(.int (Int32.ofNat (bs.length + 1))), (.ref b)]))
  rw [show ((Int32.ofNat (bs.length + 1)) + (1 : Int32)) = (Int32.ofNat (bs.length + 2)) from ofn_add _ 1]
  refine Go.st (fun _ => XS.bipush W3.here W3.ex rfl (hb hby d33_134)) ?_
  show Go _ _ _ _ (T3.setTop (mkF m_ 136 #[.val (.ref j), .val (.int c), .val (.int (Int32.ofNat bs.length)), .val (.int (Int32.ofNat (bs.length + 2))), .unset] [(.int (117 : Int32)), (.int (Int32.ofNat (bs.length + 1))), (.ref b)]))
  refine W3.stA V_b (x := (117 : Int32)) (n1 := (bs.length + 1)) (ln rfl) (rmB (k := 1) rfl (by omega)) (List.mem_of_getElem? (i := 0) rfl) g_b (hb hby d33_136) ?_
  intro T4 h4 L4 sl4 vv4 W4 w4 V_new
  replace E_j := E_j.wr w4
  replace F_bytes_j := F_bytes_j.other w4 (Or.inl ne_j_b)
  replace K0 := K0.wr w4 (Or.inl (List.mem_of_getElem? (i := 0) rfl))
  replace V_b : Arv Z h4 b kb .byte (4096 : Int32) ((bs ++ [(92 : Int32), (117 : Int32)]).map Value.int) (.int 0) := by rw [List.append_assoc] at V_new; exact V_new
  clear V_new
  refine Go.st (fun _ => XS.bipush W4.here W4.ex rfl (hb hby d33_137)) ?_
  refine Go.st (fun _ => XS.istore W4.here W4.ex rfl (hb hby d33_139) rfl (l' := #[.val (.ref j), .val (.int c), .val (.int (Int32.ofNat bs.length)), .val (.int (Int32.ofNat (bs.length + 2))), .val (.int (12 : Int32))]) rfl) ?_
  refine Go.st (fun _ => XS.iload W4.here W4.ex rfl (hb hby d33_141) rfl) ?_
  show Go _ _ _ _ (T4.setTop (mkF m_ 143 #[.val (.ref j), .val (.int c), .val (.int (Int32.ofNat bs.length)), .val (.int (Int32.ofNat (bs.length + 2))), .val (.int (12 : Int32))] [(.int (12 : Int32))]))
  refine Go.st (fun _ => XS.ifNo W4.here W4.ex rfl (hb hby d33_143) rfl ((if0 _ _).trans (flt ((by decide) : ¬ ((12 : Int32) < (0 : Int32)))).1)) ?_
  refine Go.st (fun _ => XS.aloadN W4.here W4.ex rfl (hb hby d33_146) rfl rfl) ?_
  show Go _ _ _ _ (T4.setTop (mkF m_ 147 #[.val (.ref j), .val (.int c), .val (.int (Int32.ofNat bs.length)), .val (.int (Int32.ofNat (bs.length + 2))), .val (.int (12 : Int32))] [(.ref j)]))
  refine W4.getF (cx.w 38 rfl) Via.refl F_bytes_j (hb hby d33_147) ?_
  intro T5 W5
  refine Go.st (fun _ => XS.iloadN W5.here W5.ex rfl (hb hby d33_150) rfl) ?_
  refine Go.st (fun _ => XS.iinc W5.here W5.ex rfl (hb hby d33_151) rfl (l' := #[.val (.ref j), .val (.int c), .val (.int (Int32.ofNat bs.length)), .val (.int ((Int32.ofNat (bs.length + 2)) + (1 : Int32))), .val (.int (12 : Int32))]) rfl) ?_
  show Go _ _ _ _ (T5.setTop (mkF m_ 154 #[.val (.ref j), .val (.int c), .val (.int (Int32.ofNat bs.length)), .val (.int ((Int32.ofNat (bs.length + 2)) + (1 : Int32))), .val (.int (12 : Int32))] [(.int (Int32.ofNat (bs.length + 2))), (.ref b)]))
  rw [show ((Int32.ofNat (bs.length + 2)) + (1 : Int32)) = (Int32.ofNat (bs.length + 3)) from ofn_add _ 1]
  show Go _ _ _ _ (T5.setTop (mkF m_ 154 #[.val (.ref j), .val (.int c), .val (.int (Int32.ofNat bs.length)), .val (.int (Int32.ofNat (bs.length + 3))), .val (.int (12 : Int32))] [(.int (Int32.ofNat (bs.length + 2))), (.ref b)]))
  refine W5.getS (cx.w 192 rfl) Via.refl (cx.hex.ext W5.e0) (hb hby d33_154) ?_
  intro T6 W6
  refine Go.st (fun _ => XS.iloadN W6.here W6.ex rfl (hb hby d33_157) rfl) ?_
  refine Go.st (fun _ => XS.iload W6.here W6.ex rfl (hb hby d33_158) rfl) ?_
  refine Go.st (fun _ => XS.ishr W6.here W6.ex rfl (hb hby d33_160) rfl) ?_
  show Go _ _ _ _ (T6.setTop (mkF m_ 161 #[.val (.ref j), .val (.int c), .val (.int (Int32.ofNat bs.length)), .val (.int (Int32.ofNat (bs.length + 3))), .val (.int (12 : Int32))] [(.int (c >>> ((12 : Int32) &&& 31))), (.ref hxa), (.int (Int32.ofNat (bs.length + 2))), (.ref b)]))
  refine Go.st (fun _ => XS.bipush W6.here W6.ex rfl (hb hby d33_161)) ?_
  refine Go.st (fun _ => XS.iand W6.here W6.ex rfl (hb hby d33_163) rfl) ?_
  show Go _ _ _ _ (T6.setTop (mkF m_ 164 #[.val (.ref j), .val (.int c), .val (.int (Int32.ofNat bs.length)), .val (.int (Int32.ofNat (bs.length + 3))), .val (.int (12 : Int32))] [(.int ((c >>> ((12 : Int32) &&& 31)) &&& (15 : Int32))), (.ref hxa), (.int (Int32.ofNat (bs.length + 2))), (.ref b)]))
  refine W6.ldB (cx.hexv.ext W6.e0) (j := ((c >>> ((12 : Int32) &&& 31)) &&& (15 : Int32))) (v := .int (hexL.getD ((c >>> ((12 : Int32) &&& 31)) &&& (15 : Int32)).toNatClampNeg 0)) (din _) (map_getD _ _) (hb hby d33_164) ?_
  show Go _ _ _ _ (T6.setTop (mkF m_ 165 #[.val (.ref j), .val (.int c), .val (.int (Int32.ofNat bs.length)), .val (.int (Int32.ofNat (bs.length + 3))), .val (.int (12 : Int32))] [(.int (hexL.getD ((c >>> ((12 : Int32) &&& 31)) &&& (15 : Int32)).toNatClampNeg 0)), (.int (Int32.ofNat (bs.length + 2))), (.ref b)]))
  refine W6.stA V_b (x := (hexL.getD ((c >>> ((12 : Int32) &&& 31)) &&& (15 : Int32)).toNatClampNeg 0)) (n1 := (bs.length + 2)) (ln rfl) (rmB (k := 2) rfl (by omega)) (List.mem_of_getElem? (i := 0) rfl) g_b (hb hby d33_165) ?_
  intro T7 h7 L7 sl7 vv7 W7 w7 V_new
  replace E_j := E_j.wr w7
  replace F_bytes_j := F_bytes_j.other w7 (Or.inl ne_j_b)
  replace K0 := K0.wr w7 (Or.inl (List.mem_of_getElem? (i := 0) rfl))
  rw [hexL_hx (din _)] at V_new
  replace V_b : Arv Z h7 b kb .byte (4096 : Int32) ((bs ++ [(92 : Int32), (117 : Int32), hx ((c >>> ((12 : Int32) &&& 31)) &&& (15 : Int32))]).map Value.int) (.int 0) := by rw [List.append_assoc] at V_new; exact V_new
  clear V_new
  refine Go.st (fun _ => XS.iinc W7.here W7.ex rfl (hb hby d33_166) rfl (l' := #[.val (.ref j), .val (.int c), .val (.int (Int32.ofNat bs.length)), .val (.int (Int32.ofNat (bs.length + 3))), .val (.int (8 : Int32))]) rfl) ?_
  refine Go.st (fun _ => XS.goto W7.here W7.ex rfl (pc0 := 169) (pc' := 141) rfl (hb hby d33_169) (by decide) (by decide)) ?_
  refine Go.st (fun _ => XS.iload W7.here W7.ex rfl (hb hby d33_141) rfl) ?_
  show Go _ _ _ _ (T7.setTop (mkF m_ 143 #[.val (.ref j), .val (.int c), .val (.int (Int32.ofNat bs.length)), .val (.int (Int32.ofNat (bs.length + 3))), .val (.int (8 : Int32))] [(.int (8 : Int32))]))
  refine Go.st (fun _ => XS.ifNo W7.here W7.ex rfl (hb hby d33_143) rfl ((if0 _ _).trans (flt ((by decide) : ¬ ((8 : Int32) < (0 : Int32)))).1)) ?_
  refine Go.st (fun _ => XS.aloadN W7.here W7.ex rfl (hb hby d33_146) rfl rfl) ?_
  show Go _ _ _ _ (T7.setTop (mkF m_ 147 #[.val (.ref j), .val (.int c), .val (.int (Int32.ofNat bs.length)), .val (.int (Int32.ofNat (bs.length + 3))), .val (.int (8 : Int32))] [(.ref j)]))
  refine W7.getF (cx.w 38 rfl) Via.refl F_bytes_j (hb hby d33_147) ?_
  intro T8 W8
  refine Go.st (fun _ => XS.iloadN W8.here W8.ex rfl (hb hby d33_150) rfl) ?_
  refine Go.st (fun _ => XS.iinc W8.here W8.ex rfl (hb hby d33_151) rfl (l' := #[.val (.ref j), .val (.int c), .val (.int (Int32.ofNat bs.length)), .val (.int ((Int32.ofNat (bs.length + 3)) + (1 : Int32))), .val (.int (8 : Int32))]) rfl) ?_
  show Go _ _ _ _ (T8.setTop (mkF m_ 154 #[.val (.ref j), .val (.int c), .val (.int (Int32.ofNat bs.length)), .val (.int ((Int32.ofNat (bs.length + 3)) + (1 : Int32))), .val (.int (8 : Int32))] [(.int (Int32.ofNat (bs.length + 3))), (.ref b)]))
  rw [show ((Int32.ofNat (bs.length + 3)) + (1 : Int32)) = (Int32.ofNat (bs.length + 4)) from ofn_add _ 1]
  show Go _ _ _ _ (T8.setTop (mkF m_ 154 #[.val (.ref j), .val (.int c), .val (.int (Int32.ofNat bs.length)), .val (.int (Int32.ofNat (bs.length + 4))), .val (.int (8 : Int32))] [(.int (Int32.ofNat (bs.length + 3))), (.ref b)]))
  refine W8.getS (cx.w 192 rfl) Via.refl (cx.hex.ext W8.e0) (hb hby d33_154) ?_
  intro T9 W9
  refine Go.st (fun _ => XS.iloadN W9.here W9.ex rfl (hb hby d33_157) rfl) ?_
  refine Go.st (fun _ => XS.iload W9.here W9.ex rfl (hb hby d33_158) rfl) ?_
  refine Go.st (fun _ => XS.ishr W9.here W9.ex rfl (hb hby d33_160) rfl) ?_
  show Go _ _ _ _ (T9.setTop (mkF m_ 161 #[.val (.ref j), .val (.int c), .val (.int (Int32.ofNat bs.length)), .val (.int (Int32.ofNat (bs.length + 4))), .val (.int (8 : Int32))] [(.int (c >>> ((8 : Int32) &&& 31))), (.ref hxa), (.int (Int32.ofNat (bs.length + 3))), (.ref b)]))
  refine Go.st (fun _ => XS.bipush W9.here W9.ex rfl (hb hby d33_161)) ?_
  refine Go.st (fun _ => XS.iand W9.here W9.ex rfl (hb hby d33_163) rfl) ?_
  show Go _ _ _ _ (T9.setTop (mkF m_ 164 #[.val (.ref j), .val (.int c), .val (.int (Int32.ofNat bs.length)), .val (.int (Int32.ofNat (bs.length + 4))), .val (.int (8 : Int32))] [(.int ((c >>> ((8 : Int32) &&& 31)) &&& (15 : Int32))), (.ref hxa), (.int (Int32.ofNat (bs.length + 3))), (.ref b)]))
  refine W9.ldB (cx.hexv.ext W9.e0) (j := ((c >>> ((8 : Int32) &&& 31)) &&& (15 : Int32))) (v := .int (hexL.getD ((c >>> ((8 : Int32) &&& 31)) &&& (15 : Int32)).toNatClampNeg 0)) (din _) (map_getD _ _) (hb hby d33_164) ?_
  show Go _ _ _ _ (T9.setTop (mkF m_ 165 #[.val (.ref j), .val (.int c), .val (.int (Int32.ofNat bs.length)), .val (.int (Int32.ofNat (bs.length + 4))), .val (.int (8 : Int32))] [(.int (hexL.getD ((c >>> ((8 : Int32) &&& 31)) &&& (15 : Int32)).toNatClampNeg 0)), (.int (Int32.ofNat (bs.length + 3))), (.ref b)]))
  refine W9.stA V_b (x := (hexL.getD ((c >>> ((8 : Int32) &&& 31)) &&& (15 : Int32)).toNatClampNeg 0)) (n1 := (bs.length + 3)) (ln rfl) (rmB (k := 3) rfl (by omega)) (List.mem_of_getElem? (i := 0) rfl) g_b (hb hby d33_165) ?_
  intro T10 h10 L10 sl10 vv10 W10 w10 V_new
  replace E_j := E_j.wr w10
  replace F_bytes_j := F_bytes_j.other w10 (Or.inl ne_j_b)
  replace K0 := K0.wr w10 (Or.inl (List.mem_of_getElem? (i := 0) rfl))
  rw [hexL_hx (din _)] at V_new
  replace V_b : Arv Z h10 b kb .byte (4096 : Int32) ((bs ++ [(92 : Int32), (117 : Int32), hx ((c >>> ((12 : Int32) &&& 31)) &&& (15 : Int32)), hx ((c >>> ((8 : Int32) &&& 31)) &&& (15 : Int32))]).map Value.int) (.int 0) := by rw [List.append_assoc] at V_new; exact V_new
  clear V_new
  refine Go.st (fun _ => XS.iinc W10.here W10.ex rfl (hb hby d33_166) rfl (l' := #[.val (.ref j), .val (.int c), .val (.int (Int32.ofNat bs.length)), .val (.int (Int32.ofNat (bs.length + 4))), .val (.int (4 : Int32))]) rfl) ?_
  refine Go.st (fun _ => XS.goto W10.here W10.ex rfl (pc0 := 169) (pc' := 141) rfl (hb hby d33_169) (by decide) (by decide)) ?_
  refine Go.st (fun _ => XS.iload W10.here W10.ex rfl (hb hby d33_141) rfl) ?_
  show Go _ _ _ _ (T10.setTop (mkF m_ 143 #[.val (.ref j), .val (.int c), .val (.int (Int32.ofNat bs.length)), .val (.int (Int32.ofNat (bs.length + 4))), .val (.int (4 : Int32))] [(.int (4 : Int32))]))
  refine Go.st (fun _ => XS.ifNo W10.here W10.ex rfl (hb hby d33_143) rfl ((if0 _ _).trans (flt ((by decide) : ¬ ((4 : Int32) < (0 : Int32)))).1)) ?_
  refine Go.st (fun _ => XS.aloadN W10.here W10.ex rfl (hb hby d33_146) rfl rfl) ?_
  show Go _ _ _ _ (T10.setTop (mkF m_ 147 #[.val (.ref j), .val (.int c), .val (.int (Int32.ofNat bs.length)), .val (.int (Int32.ofNat (bs.length + 4))), .val (.int (4 : Int32))] [(.ref j)]))
  refine W10.getF (cx.w 38 rfl) Via.refl F_bytes_j (hb hby d33_147) ?_
  intro T11 W11
  refine Go.st (fun _ => XS.iloadN W11.here W11.ex rfl (hb hby d33_150) rfl) ?_
  refine Go.st (fun _ => XS.iinc W11.here W11.ex rfl (hb hby d33_151) rfl (l' := #[.val (.ref j), .val (.int c), .val (.int (Int32.ofNat bs.length)), .val (.int ((Int32.ofNat (bs.length + 4)) + (1 : Int32))), .val (.int (4 : Int32))]) rfl) ?_
  show Go _ _ _ _ (T11.setTop (mkF m_ 154 #[.val (.ref j), .val (.int c), .val (.int (Int32.ofNat bs.length)), .val (.int ((Int32.ofNat (bs.length + 4)) + (1 : Int32))), .val (.int (4 : Int32))] [(.int (Int32.ofNat (bs.length + 4))), (.ref b)]))
  rw [show ((Int32.ofNat (bs.length + 4)) + (1 : Int32)) = (Int32.ofNat (bs.length + 5)) from ofn_add _ 1]
  show Go _ _ _ _ (T11.setTop (mkF m_ 154 #[.val (.ref j), .val (.int c), .val (.int (Int32.ofNat bs.length)), .val (.int (Int32.ofNat (bs.length + 5))), .val (.int (4 : Int32))] [(.int (Int32.ofNat (bs.length + 4))), (.ref b)]))
  refine W11.getS (cx.w 192 rfl) Via.refl (cx.hex.ext W11.e0) (hb hby d33_154) ?_
  intro T12 W12
  refine Go.st (fun _ => XS.iloadN W12.here W12.ex rfl (hb hby d33_157) rfl) ?_
  refine Go.st (fun _ => XS.iload W12.here W12.ex rfl (hb hby d33_158) rfl) ?_
  refine Go.st (fun _ => XS.ishr W12.here W12.ex rfl (hb hby d33_160) rfl) ?_
  show Go _ _ _ _ (T12.setTop (mkF m_ 161 #[.val (.ref j), .val (.int c), .val (.int (Int32.ofNat bs.length)), .val (.int (Int32.ofNat (bs.length + 5))), .val (.int (4 : Int32))] [(.int (c >>> ((4 : Int32) &&& 31))), (.ref hxa), (.int (Int32.ofNat (bs.length + 4))), (.ref b)]))
  refine Go.st (fun _ => XS.bipush W12.here W12.ex rfl (hb hby d33_161)) ?_
  refine Go.st (fun _ => XS.iand W12.here W12.ex rfl (hb hby d33_163) rfl) ?_
  show Go _ _ _ _ (T12.setTop (mkF m_ 164 #[.val (.ref j), .val (.int c), .val (.int (Int32.ofNat bs.length)), .val (.int (Int32.ofNat (bs.length + 5))), .val (.int (4 : Int32))] [(.int ((c >>> ((4 : Int32) &&& 31)) &&& (15 : Int32))), (.ref hxa), (.int (Int32.ofNat (bs.length + 4))), (.ref b)]))
  refine W12.ldB (cx.hexv.ext W12.e0) (j := ((c >>> ((4 : Int32) &&& 31)) &&& (15 : Int32))) (v := .int (hexL.getD ((c >>> ((4 : Int32) &&& 31)) &&& (15 : Int32)).toNatClampNeg 0)) (din _) (map_getD _ _) (hb hby d33_164) ?_
  show Go _ _ _ _ (T12.setTop (mkF m_ 165 #[.val (.ref j), .val (.int c), .val (.int (Int32.ofNat bs.length)), .val (.int (Int32.ofNat (bs.length + 5))), .val (.int (4 : Int32))] [(.int (hexL.getD ((c >>> ((4 : Int32) &&& 31)) &&& (15 : Int32)).toNatClampNeg 0)), (.int (Int32.ofNat (bs.length + 4))), (.ref b)]))
  refine W12.stA V_b (x := (hexL.getD ((c >>> ((4 : Int32) &&& 31)) &&& (15 : Int32)).toNatClampNeg 0)) (n1 := (bs.length + 4)) (ln rfl) (rmB (k := 4) rfl (by omega)) (List.mem_of_getElem? (i := 0) rfl) g_b (hb hby d33_165) ?_
  intro T13 h13 L13 sl13 vv13 W13 w13 V_new
  replace E_j := E_j.wr w13
  replace F_bytes_j := F_bytes_j.other w13 (Or.inl ne_j_b)
  replace K0 := K0.wr w13 (Or.inl (List.mem_of_getElem? (i := 0) rfl))
  rw [hexL_hx (din _)] at V_new
  replace V_b : Arv Z h13 b kb .byte (4096 : Int32) ((bs ++ [(92 : Int32), (117 : Int32), hx ((c >>> ((12 : Int32) &&& 31)) &&& (15 : Int32)), hx ((c >>> ((8 : Int32) &&& 31)) &&& (15 : Int32)), hx ((c >>> ((4 : Int32) &&& 31)) &&& (15 : Int32))]).map Value.int) (.int 0) := by rw [List.append_assoc] at V_new; exact V_new
  clear V_new
  refine Go.st (fun _ => XS.iinc W13.here W13.ex rfl (hb hby d33_166) rfl (l' := #[.val (.ref j), .val (.int c), .val (.int (Int32.ofNat bs.length)), .val (.int (Int32.ofNat (bs.length + 5))), .val (.int (0 : Int32))]) rfl) ?_
  refine Go.st (fun _ => XS.goto W13.here W13.ex rfl (pc0 := 169) (pc' := 141) rfl (hb hby d33_169) (by decide) (by decide)) ?_
  refine Go.st (fun _ => XS.iload W13.here W13.ex rfl (hb hby d33_141) rfl) ?_
  show Go _ _ _ _ (T13.setTop (mkF m_ 143 #[.val (.ref j), .val (.int c), .val (.int (Int32.ofNat bs.length)), .val (.int (Int32.ofNat (bs.length + 5))), .val (.int (0 : Int32))] [(.int (0 : Int32))]))
  refine Go.st (fun _ => XS.ifNo W13.here W13.ex rfl (hb hby d33_143) rfl ((if0 _ _).trans (flt ((by decide) : ¬ ((0 : Int32) < (0 : Int32)))).1)) ?_
  refine Go.st (fun _ => XS.aloadN W13.here W13.ex rfl (hb hby d33_146) rfl rfl) ?_
  show Go _ _ _ _ (T13.setTop (mkF m_ 147 #[.val (.ref j), .val (.int c), .val (.int (Int32.ofNat bs.length)), .val (.int (Int32.ofNat (bs.length + 5))), .val (.int (0 : Int32))] [(.ref j)]))
  refine W13.getF (cx.w 38 rfl) Via.refl F_bytes_j (hb hby d33_147) ?_
  intro T14 W14
  refine Go.st (fun _ => XS.iloadN W14.here W14.ex rfl (hb hby d33_150) rfl) ?_
  refine Go.st (fun _ => XS.iinc W14.here W14.ex rfl (hb hby d33_151) rfl (l' := #[.val (.ref j), .val (.int c), .val (.int (Int32.ofNat bs.length)), .val (.int ((Int32.ofNat (bs.length + 5)) + (1 : Int32))), .val (.int (0 : Int32))]) rfl) ?_
  show Go _ _ _ _ (T14.setTop (mkF m_ 154 #[.val (.ref j), .val (.int c), .val (.int (Int32.ofNat bs.length)), .val (.int ((Int32.ofNat (bs.length + 5)) + (1 : Int32))), .val (.int (0 : Int32))] [(.int (Int32.ofNat (bs.length + 5))), (.ref b)]))
  rw [show ((Int32.ofNat (bs.length + 5)) + (1 : Int32)) = (Int32.ofNat (bs.length + 6)) from ofn_add _ 1]
  show Go _ _ _ _ (T14.setTop (mkF m_ 154 #[.val (.ref j), .val (.int c), .val (.int (Int32.ofNat bs.length)), .val (.int (Int32.ofNat (bs.length + 6))), .val (.int (0 : Int32))] [(.int (Int32.ofNat (bs.length + 5))), (.ref b)]))
  refine W14.getS (cx.w 192 rfl) Via.refl (cx.hex.ext W14.e0) (hb hby d33_154) ?_
  intro T15 W15
  refine Go.st (fun _ => XS.iloadN W15.here W15.ex rfl (hb hby d33_157) rfl) ?_
  refine Go.st (fun _ => XS.iload W15.here W15.ex rfl (hb hby d33_158) rfl) ?_
  refine Go.st (fun _ => XS.ishr W15.here W15.ex rfl (hb hby d33_160) rfl) ?_
  show Go _ _ _ _ (T15.setTop (mkF m_ 161 #[.val (.ref j), .val (.int c), .val (.int (Int32.ofNat bs.length)), .val (.int (Int32.ofNat (bs.length + 6))), .val (.int (0 : Int32))] [(.int (c >>> ((0 : Int32) &&& 31))), (.ref hxa), (.int (Int32.ofNat (bs.length + 5))), (.ref b)]))
  refine Go.st (fun _ => XS.bipush W15.here W15.ex rfl (hb hby d33_161)) ?_
  refine Go.st (fun _ => XS.iand W15.here W15.ex rfl (hb hby d33_163) rfl) ?_
  show Go _ _ _ _ (T15.setTop (mkF m_ 164 #[.val (.ref j), .val (.int c), .val (.int (Int32.ofNat bs.length)), .val (.int (Int32.ofNat (bs.length + 6))), .val (.int (0 : Int32))] [(.int ((c >>> ((0 : Int32) &&& 31)) &&& (15 : Int32))), (.ref hxa), (.int (Int32.ofNat (bs.length + 5))), (.ref b)]))
  refine W15.ldB (cx.hexv.ext W15.e0) (j := ((c >>> ((0 : Int32) &&& 31)) &&& (15 : Int32))) (v := .int (hexL.getD ((c >>> ((0 : Int32) &&& 31)) &&& (15 : Int32)).toNatClampNeg 0)) (din _) (map_getD _ _) (hb hby d33_164) ?_
  show Go _ _ _ _ (T15.setTop (mkF m_ 165 #[.val (.ref j), .val (.int c), .val (.int (Int32.ofNat bs.length)), .val (.int (Int32.ofNat (bs.length + 6))), .val (.int (0 : Int32))] [(.int (hexL.getD ((c >>> ((0 : Int32) &&& 31)) &&& (15 : Int32)).toNatClampNeg 0)), (.int (Int32.ofNat (bs.length + 5))), (.ref b)]))
  refine W15.stA V_b (x := (hexL.getD ((c >>> ((0 : Int32) &&& 31)) &&& (15 : Int32)).toNatClampNeg 0)) (n1 := (bs.length + 5)) (ln rfl) (rmB (k := 5) rfl (by omega)) (List.mem_of_getElem? (i := 0) rfl) g_b (hb hby d33_165) ?_
  intro T16 h16 L16 sl16 vv16 W16 w16 V_new
  replace E_j := E_j.wr w16
  replace F_bytes_j := F_bytes_j.other w16 (Or.inl ne_j_b)
  replace K0 := K0.wr w16 (Or.inl (List.mem_of_getElem? (i := 0) rfl))
  rw [hexL_hx (din _)] at V_new
  replace V_b : Arv Z h16 b kb .byte (4096 : Int32) ((bs ++ [(92 : Int32), (117 : Int32), hx ((c >>> ((12 : Int32) &&& 31)) &&& (15 : Int32)), hx ((c >>> ((8 : Int32) &&& 31)) &&& (15 : Int32)), hx ((c >>> ((4 : Int32) &&& 31)) &&& (15 : Int32)), hx ((c >>> ((0 : Int32) &&& 31)) &&& (15 : Int32))]).map Value.int) (.int 0) := by rw [List.append_assoc] at V_new; exact V_new
  clear V_new
  refine Go.st (fun _ => XS.iinc W16.here W16.ex rfl (hb hby d33_166) rfl (l' := #[.val (.ref j), .val (.int c), .val (.int (Int32.ofNat bs.length)), .val (.int (Int32.ofNat (bs.length + 6))), .val (.int (-4 : Int32))]) rfl) ?_
  refine Go.st (fun _ => XS.goto W16.here W16.ex rfl (pc0 := 169) (pc' := 141) rfl (hb hby d33_169) (by decide) (by decide)) ?_
  refine Go.st (fun _ => XS.iload W16.here W16.ex rfl (hb hby d33_141) rfl) ?_
  show Go _ _ _ _ (T16.setTop (mkF m_ 143 #[.val (.ref j), .val (.int c), .val (.int (Int32.ofNat bs.length)), .val (.int (Int32.ofNat (bs.length + 6))), .val (.int (-4 : Int32))] [(.int (-4 : Int32))]))
  refine Go.st (fun _ => XS.ifYes W16.here W16.ex rfl (pc0 := 143) (pc' := 172) rfl (hb hby d33_143) rfl ((if0 _ _).trans (tlt ((by decide) : (-4 : Int32) < (0 : Int32))).1) (by decide) (by decide)) ?_
  refine Go.st (fun _ => XS.goto W16.here W16.ex rfl (pc0 := 172) (pc' := 278) rfl (hb hby d33_172) (by decide) (by decide)) ?_
  refine Go.st (fun _ => XS.iloadN W16.here W16.ex rfl (hb hby d33_278) rfl) ?_
  show Go _ _ _ _ (T16.setTop (mkF m_ 279 #[.val (.ref j), .val (.int c), .val (.int (Int32.ofNat bs.length)), .val (.int (Int32.ofNat (bs.length + 6))), .val (.int (-4 : Int32))] [(.int (Int32.ofNat (bs.length + 6)))]))
  have he : Ec c = [(92 : Int32), (117 : Int32), hx ((c >>> ((12 : Int32) &&& 31)) &&& (15 : Int32)), hx ((c >>> ((8 : Int32) &&& 31)) &&& (15 : Int32)), hx ((c >>> ((4 : Int32) &&& 31)) &&& (15 : Int32)), hx ((c >>> ((0 : Int32) &&& 31)) &&& (15 : Int32))] := by rw [d12 hC, dmod hC (q := 8) (k := 8) (y := 256) (by decide) (by decide) (by decide), dmod hC (q := 4) (k := 4) (y := 16) (by decide) (by decide) (by decide), d0 hC]; exact hu
  exact W16.retI hret (hb hby d33_279) (by decide) (by decide) fun vr_ cr_ => ⟨lnE he rfl, K0, by rw [he]; exact V_b⟩
theorem ct_esc {l : Launch} {Z a0 n0 g1 gf hxa khx} (cx : Ctx Z a0 n0 g1 gf hxa khx) {h : Heap} (O : Old Z n0 h) (j b : Addr) (bs : List Int32) (c : Int32) {kb : ClassId} (E_j : Exa Z h j "com/example/dijtabla/dijtabla/JsonText") (F_bytes_j : Fld Z h j "com/example/dijtabla/dijtabla/JsonText" "bytes" "[B" (.ref b)) (V_b : Arv Z h b kb .byte 4096 (bs.map Value.int) (.int 0)) (g_b : n0 ≤ b) (hl : bs.length ≤ 190) (hC : R16 c) (hnp : ¬ (¬ c < 32 ∧ c < 128 ∧ ¬ c = 34 ∧ ¬ c = 92)) :
    Ct l Z consts_1 n0 [] Y4 prog_10_method_17_code 5 (some .int) ({ frames := 5, cells := 2, slots := 28, locals := 68 } : Room) #[(.ref j), (.int c), (.int (Int32.ofNat bs.length))] [b] h (fun v _ h' => v = some (.int (Int32.ofNat (bs ++ Ec c).length)) ∧ Keep h h' [b] ∧ Arv Z h' b kb .byte 4096 ((bs ++ Ec c).map Value.int) (.int 0)) := by
  refine Ct.intro (plainFor_of_name pn4) O cx.ew ?_
  intro p_ e_ s_ m_ bl_ mt_ c_ T0 W0 hby hml hret hnm
  refine Go.st (fun t_ k_ => castTop (g' := mkF m_ 0 #[.val (.ref j), .val (.int c), .val (.int (Int32.ofNat bs.length)), .unset, .unset] []) (by first | (simp [entryFrame, mkF, argsToLocals, Value.category]; done) | rfl) k_) ?_
  show Go _ _ _ _ (T0.setTop (mkF m_ 0 #[.val (.ref j), .val (.int c), .val (.int (Int32.ofNat bs.length)), .unset, .unset] []))
  have K0 : Keep h h [b] := Keep.refl _ _
  refine Go.st (fun _ => XS.iloadN W0.here W0.ex rfl (hb hby d33_0) rfl) ?_
  refine Go.st (fun _ => XS.istoreN W0.here W0.ex rfl (hb hby d33_1) rfl (l' := #[.val (.ref j), .val (.int c), .val (.int (Int32.ofNat bs.length)), .val (.int (Int32.ofNat bs.length)), .unset]) rfl) ?_
  show Go _ _ _ _ (T0.setTop (mkF m_ 2 #[.val (.ref j), .val (.int c), .val (.int (Int32.ofNat bs.length)), .val (.int (Int32.ofNat bs.length)), .unset] []))
  refine Go.st (fun _ => XS.iloadN W0.here W0.ex rfl (hb hby d33_2) rfl) ?_
  refine Go.st (fun _ => XS.bipush W0.here W0.ex rfl (hb hby d33_3)) ?_
  show Go _ _ _ _ (T0.setTop (mkF m_ 5 #[.val (.ref j), .val (.int c), .val (.int (Int32.ofNat bs.length)), .val (.int (Int32.ofNat bs.length)), .unset] [(.int (34 : Int32)), (.int c)]))
  by_cases z34 : c = (34 : Int32)
  · refine Go.st (fun _ => XS.icmpYes W0.here W0.ex rfl (pc0 := 5) (pc' := 14) rfl (hb hby d33_5) rfl (teq (z34 : c = (34 : Int32))).1 (by decide) (by decide)) ?_
    refine Go.st (fun _ => XS.aloadN W0.here W0.ex rfl (hb hby d33_14) rfl rfl) ?_
    show Go _ _ _ _ (T0.setTop (mkF m_ 15 #[.val (.ref j), .val (.int c), .val (.int (Int32.ofNat bs.length)), .val (.int (Int32.ofNat bs.length)), .unset] [(.ref j)]))
    refine W0.getF (cx.w 38 rfl) Via.refl F_bytes_j (hb hby d33_15) ?_
    intro T1 W1
    refine Go.st (fun _ => XS.iloadN W1.here W1.ex rfl (hb hby d33_18) rfl) ?_
    refine Go.st (fun _ => XS.iinc W1.here W1.ex rfl (hb hby d33_19) rfl (l' := #[.val (.ref j), .val (.int c), .val (.int (Int32.ofNat bs.length)), .val (.int ((Int32.ofNat bs.length) + (1 : Int32))), .unset]) rfl) ?_
    show Go _ _ _ _ (T1.setTop (mkF m_ 22 #[.val (.ref j), .val (.int c), .val (.int (Int32.ofNat bs.length)), .val (.int ((Int32.ofNat bs.length) + (1 : Int32))), .unset] [(.int (Int32.ofNat bs.length)), (.ref b)]))
    rw [show ((Int32.ofNat bs.length) + (1 : Int32)) = (Int32.ofNat (bs.length + 1)) from ofn_add _ 1]
    refine Go.st (fun _ => XS.bipush W1.here W1.ex rfl (hb hby d33_22)) ?_
    show Go _ _ _ _ (T1.setTop (mkF m_ 24 #[.val (.ref j), .val (.int c), .val (.int (Int32.ofNat bs.length)), .val (.int (Int32.ofNat (bs.length + 1))), .unset] [(.int (92 : Int32)), (.int (Int32.ofNat bs.length)), (.ref b)]))
    refine W1.stA V_b (x := (92 : Int32)) (n1 := bs.length) rfl (rmB0 (by omega)) (List.mem_of_getElem? (i := 0) rfl) g_b (hb hby d33_24) ?_
    intro T2 h2 L2 sl2 vv2 W2 w2 V_new
    have ne_j_b : j ≠ b := (Exa.neArv E_j V_b (cx.w 32 rfl))
    replace E_j := E_j.wr w2
    replace F_bytes_j := F_bytes_j.other w2 (Or.inl ne_j_b)
    replace K0 := K0.wr w2 (Or.inl (List.mem_of_getElem? (i := 0) rfl))
    replace V_b : Arv Z h2 b kb .byte (4096 : Int32) ((bs ++ [(92 : Int32)]).map Value.int) (.int 0) := V_new
    clear V_new
    refine Go.st (fun _ => XS.aloadN W2.here W2.ex rfl (hb hby d33_25) rfl rfl) ?_
    show Go _ _ _ _ (T2.setTop (mkF m_ 26 #[.val (.ref j), .val (.int c), .val (.int (Int32.ofNat bs.length)), .val (.int (Int32.ofNat (bs.length + 1))), .unset] [(.ref j)]))
    refine W2.getF (cx.w 38 rfl) Via.refl F_bytes_j (hb hby d33_26) ?_
    intro T3 W3
    refine Go.st (fun _ => XS.iloadN W3.here W3.ex rfl (hb hby d33_29) rfl) ?_
    refine Go.st (fun _ => XS.iinc W3.here W3.ex rfl (hb hby d33_30) rfl (l' := #[.val (.ref j), .val (.int c), .val (.int (Int32.ofNat bs.length)), .val (.int ((Int32.ofNat (bs.length + 1)) + (1 : Int32))), .unset]) rfl) ?_
    show Go _ _ _ _ (T3.setTop (mkF m_ 33 #[.val (.ref j), .val (.int c), .val (.int (Int32.ofNat bs.length)), .val (.int ((Int32.ofNat (bs.length + 1)) + (1 : Int32))), .unset] [(.int (Int32.ofNat (bs.length + 1))), (.ref b)]))
    rw [show ((Int32.ofNat (bs.length + 1)) + (1 : Int32)) = (Int32.ofNat (bs.length + 2)) from ofn_add _ 1]
    refine Go.st (fun _ => XS.iloadN W3.here W3.ex rfl (hb hby d33_33) rfl) ?_
    refine Go.st (fun _ => XS.i2b W3.here W3.ex rfl (hb hby d33_34) rfl) ?_
    show Go _ _ _ _ (T3.setTop (mkF m_ 35 #[.val (.ref j), .val (.int c), .val (.int (Int32.ofNat bs.length)), .val (.int (Int32.ofNat (bs.length + 2))), .unset] [(.int (c.toInt8.toInt32)), (.int (Int32.ofNat (bs.length + 1))), (.ref b)]))
    refine W3.stA V_b (x := (c.toInt8.toInt32)) (n1 := (bs.length + 1)) (ln rfl) (rmB (k := 1) rfl (by omega)) (List.mem_of_getElem? (i := 0) rfl) g_b (hb hby d33_35) ?_
    intro T4 h4 L4 sl4 vv4 W4 w4 V_new
    replace E_j := E_j.wr w4
    replace F_bytes_j := F_bytes_j.other w4 (Or.inl ne_j_b)
    replace K0 := K0.wr w4 (Or.inl (List.mem_of_getElem? (i := 0) rfl))
    rw [nar_byte] at V_new
    replace V_b : Arv Z h4 b kb .byte (4096 : Int32) ((bs ++ [(92 : Int32), (c.toInt8.toInt32)]).map Value.int) (.int 0) := by rw [List.append_assoc] at V_new; exact V_new
    clear V_new
    refine Go.st (fun _ => XS.goto W4.here W4.ex rfl (pc0 := 36) (pc' := 278) rfl (hb hby d33_36) (by decide) (by decide)) ?_
    refine Go.st (fun _ => XS.iloadN W4.here W4.ex rfl (hb hby d33_278) rfl) ?_
    show Go _ _ _ _ (T4.setTop (mkF m_ 279 #[.val (.ref j), .val (.int c), .val (.int (Int32.ofNat bs.length)), .val (.int (Int32.ofNat (bs.length + 2))), .unset] [(.int (Int32.ofNat (bs.length + 2)))]))
    have he : Ec c = [(92 : Int32), (c.toInt8.toInt32)] := Ec_q (Or.inl z34)
    exact W4.retI hret (hb hby d33_279) (by decide) (by decide) fun vr_ cr_ => ⟨lnE he rfl, K0, by rw [he]; exact V_b⟩
  · refine Go.st (fun _ => XS.icmpNo W0.here W0.ex rfl (hb hby d33_5) rfl (feq (z34 : ¬ (c = (34 : Int32)))).1) ?_
    refine Go.st (fun _ => XS.iloadN W0.here W0.ex rfl (hb hby d33_8) rfl) ?_
    show Go _ _ _ _ (T0.setTop (mkF m_ 9 #[.val (.ref j), .val (.int c), .val (.int (Int32.ofNat bs.length)), .val (.int (Int32.ofNat bs.length)), .unset] [(.int c)]))
    refine Go.st (fun _ => XS.bipush W0.here W0.ex rfl (hb hby d33_9)) ?_
    show Go _ _ _ _ (T0.setTop (mkF m_ 11 #[.val (.ref j), .val (.int c), .val (.int (Int32.ofNat bs.length)), .val (.int (Int32.ofNat bs.length)), .unset] [(.int (92 : Int32)), (.int c)]))
    by_cases z92 : c = (92 : Int32)
    · refine Go.st (fun _ => XS.icmpNo W0.here W0.ex rfl (hb hby d33_11) rfl (teq (z92 : c = (92 : Int32))).2) ?_
      refine Go.st (fun _ => XS.aloadN W0.here W0.ex rfl (hb hby d33_14) rfl rfl) ?_
      show Go _ _ _ _ (T0.setTop (mkF m_ 15 #[.val (.ref j), .val (.int c), .val (.int (Int32.ofNat bs.length)), .val (.int (Int32.ofNat bs.length)), .unset] [(.ref j)]))
      refine W0.getF (cx.w 38 rfl) Via.refl F_bytes_j (hb hby d33_15) ?_
      intro T5 W5
      refine Go.st (fun _ => XS.iloadN W5.here W5.ex rfl (hb hby d33_18) rfl) ?_
      refine Go.st (fun _ => XS.iinc W5.here W5.ex rfl (hb hby d33_19) rfl (l' := #[.val (.ref j), .val (.int c), .val (.int (Int32.ofNat bs.length)), .val (.int ((Int32.ofNat bs.length) + (1 : Int32))), .unset]) rfl) ?_
      show Go _ _ _ _ (T5.setTop (mkF m_ 22 #[.val (.ref j), .val (.int c), .val (.int (Int32.ofNat bs.length)), .val (.int ((Int32.ofNat bs.length) + (1 : Int32))), .unset] [(.int (Int32.ofNat bs.length)), (.ref b)]))
      rw [show ((Int32.ofNat bs.length) + (1 : Int32)) = (Int32.ofNat (bs.length + 1)) from ofn_add _ 1]
      refine Go.st (fun _ => XS.bipush W5.here W5.ex rfl (hb hby d33_22)) ?_
      show Go _ _ _ _ (T5.setTop (mkF m_ 24 #[.val (.ref j), .val (.int c), .val (.int (Int32.ofNat bs.length)), .val (.int (Int32.ofNat (bs.length + 1))), .unset] [(.int (92 : Int32)), (.int (Int32.ofNat bs.length)), (.ref b)]))
      refine W5.stA V_b (x := (92 : Int32)) (n1 := bs.length) rfl (rmB0 (by omega)) (List.mem_of_getElem? (i := 0) rfl) g_b (hb hby d33_24) ?_
      intro T6 h6 L6 sl6 vv6 W6 w6 V_new
      have ne_j_b : j ≠ b := (Exa.neArv E_j V_b (cx.w 32 rfl))
      replace E_j := E_j.wr w6
      replace F_bytes_j := F_bytes_j.other w6 (Or.inl ne_j_b)
      replace K0 := K0.wr w6 (Or.inl (List.mem_of_getElem? (i := 0) rfl))
      replace V_b : Arv Z h6 b kb .byte (4096 : Int32) ((bs ++ [(92 : Int32)]).map Value.int) (.int 0) := V_new
      clear V_new
      refine Go.st (fun _ => XS.aloadN W6.here W6.ex rfl (hb hby d33_25) rfl rfl) ?_
      show Go _ _ _ _ (T6.setTop (mkF m_ 26 #[.val (.ref j), .val (.int c), .val (.int (Int32.ofNat bs.length)), .val (.int (Int32.ofNat (bs.length + 1))), .unset] [(.ref j)]))
      refine W6.getF (cx.w 38 rfl) Via.refl F_bytes_j (hb hby d33_26) ?_
      intro T7 W7
      refine Go.st (fun _ => XS.iloadN W7.here W7.ex rfl (hb hby d33_29) rfl) ?_
      refine Go.st (fun _ => XS.iinc W7.here W7.ex rfl (hb hby d33_30) rfl (l' := #[.val (.ref j), .val (.int c), .val (.int (Int32.ofNat bs.length)), .val (.int ((Int32.ofNat (bs.length + 1)) + (1 : Int32))), .unset]) rfl) ?_
      show Go _ _ _ _ (T7.setTop (mkF m_ 33 #[.val (.ref j), .val (.int c), .val (.int (Int32.ofNat bs.length)), .val (.int ((Int32.ofNat (bs.length + 1)) + (1 : Int32))), .unset] [(.int (Int32.ofNat (bs.length + 1))), (.ref b)]))
      rw [show ((Int32.ofNat (bs.length + 1)) + (1 : Int32)) = (Int32.ofNat (bs.length + 2)) from ofn_add _ 1]
      refine Go.st (fun _ => XS.iloadN W7.here W7.ex rfl (hb hby d33_33) rfl) ?_
      refine Go.st (fun _ => XS.i2b W7.here W7.ex rfl (hb hby d33_34) rfl) ?_
      show Go _ _ _ _ (T7.setTop (mkF m_ 35 #[.val (.ref j), .val (.int c), .val (.int (Int32.ofNat bs.length)), .val (.int (Int32.ofNat (bs.length + 2))), .unset] [(.int (c.toInt8.toInt32)), (.int (Int32.ofNat (bs.length + 1))), (.ref b)]))
      refine W7.stA V_b (x := (c.toInt8.toInt32)) (n1 := (bs.length + 1)) (ln rfl) (rmB (k := 1) rfl (by omega)) (List.mem_of_getElem? (i := 0) rfl) g_b (hb hby d33_35) ?_
      intro T8 h8 L8 sl8 vv8 W8 w8 V_new
      replace E_j := E_j.wr w8
      replace F_bytes_j := F_bytes_j.other w8 (Or.inl ne_j_b)
      replace K0 := K0.wr w8 (Or.inl (List.mem_of_getElem? (i := 0) rfl))
      rw [nar_byte] at V_new
      replace V_b : Arv Z h8 b kb .byte (4096 : Int32) ((bs ++ [(92 : Int32), (c.toInt8.toInt32)]).map Value.int) (.int 0) := by rw [List.append_assoc] at V_new; exact V_new
      clear V_new
      refine Go.st (fun _ => XS.goto W8.here W8.ex rfl (pc0 := 36) (pc' := 278) rfl (hb hby d33_36) (by decide) (by decide)) ?_
      refine Go.st (fun _ => XS.iloadN W8.here W8.ex rfl (hb hby d33_278) rfl) ?_
      show Go _ _ _ _ (T8.setTop (mkF m_ 279 #[.val (.ref j), .val (.int c), .val (.int (Int32.ofNat bs.length)), .val (.int (Int32.ofNat (bs.length + 2))), .unset] [(.int (Int32.ofNat (bs.length + 2)))]))
      have he : Ec c = [(92 : Int32), (c.toInt8.toInt32)] := Ec_q (Or.inr z92)
      exact W8.retI hret (hb hby d33_279) (by decide) (by decide) fun vr_ cr_ => ⟨lnE he rfl, K0, by rw [he]; exact V_b⟩
    · refine Go.st (fun _ => XS.icmpYes W0.here W0.ex rfl (pc0 := 11) (pc' := 39) rfl (hb hby d33_11) rfl (feq (z92 : ¬ (c = (92 : Int32)))).2 (by decide) (by decide)) ?_
      refine Go.st (fun _ => XS.iloadN W0.here W0.ex rfl (hb hby d33_39) rfl) ?_
      show Go _ _ _ _ (T0.setTop (mkF m_ 40 #[.val (.ref j), .val (.int c), .val (.int (Int32.ofNat bs.length)), .val (.int (Int32.ofNat bs.length)), .unset] [(.int c)]))
      refine Go.st (fun _ => XS.bipush W0.here W0.ex rfl (hb hby d33_40)) ?_
      show Go _ _ _ _ (T0.setTop (mkF m_ 42 #[.val (.ref j), .val (.int c), .val (.int (Int32.ofNat bs.length)), .val (.int (Int32.ofNat bs.length)), .unset] [(.int (8 : Int32)), (.int c)]))
      by_cases z8 : c = (8 : Int32)
      · refine Go.st (fun _ => XS.icmpYes W0.here W0.ex rfl (pc0 := 42) (pc' := 69) rfl (hb hby d33_42) rfl (teq (z8 : c = (8 : Int32))).1 (by decide) (by decide)) ?_
        show Go _ _ _ _ (T0.setTop (mkF m_ 69 #[.val (.ref j), .val (.int c), .val (.int (Int32.ofNat bs.length)), .val (.int (Int32.ofNat bs.length)), .unset] []))
        subst z8
        refine Go.st (fun _ => XS.aloadN W0.here W0.ex rfl (hb hby d33_69) rfl rfl) ?_
        show Go _ _ _ _ (T0.setTop (mkF m_ 70 #[.val (.ref j), .val (.int (8 : Int32)), .val (.int (Int32.ofNat bs.length)), .val (.int (Int32.ofNat bs.length)), .unset] [(.ref j)]))
        refine W0.getF (cx.w 38 rfl) Via.refl F_bytes_j (hb hby d33_70) ?_
        intro T9 W9
        refine Go.st (fun _ => XS.iloadN W9.here W9.ex rfl (hb hby d33_73) rfl) ?_
        refine Go.st (fun _ => XS.iinc W9.here W9.ex rfl (hb hby d33_74) rfl (l' := #[.val (.ref j), .val (.int (8 : Int32)), .val (.int (Int32.ofNat bs.length)), .val (.int ((Int32.ofNat bs.length) + (1 : Int32))), .unset]) rfl) ?_
        show Go _ _ _ _ (T9.setTop (mkF m_ 77 #[.val (.ref j), .val (.int (8 : Int32)), .val (.int (Int32.ofNat bs.length)), .val (.int ((Int32.ofNat bs.length) + (1 : Int32))), .unset] [(.int (Int32.ofNat bs.length)), (.ref b)]))
        rw [show ((Int32.ofNat bs.length) + (1 : Int32)) = (Int32.ofNat (bs.length + 1)) from ofn_add _ 1]
        refine Go.st (fun _ => XS.bipush W9.here W9.ex rfl (hb hby d33_77)) ?_
        show Go _ _ _ _ (T9.setTop (mkF m_ 79 #[.val (.ref j), .val (.int (8 : Int32)), .val (.int (Int32.ofNat bs.length)), .val (.int (Int32.ofNat (bs.length + 1))), .unset] [(.int (92 : Int32)), (.int (Int32.ofNat bs.length)), (.ref b)]))
        refine W9.stA V_b (x := (92 : Int32)) (n1 := bs.length) rfl (rmB0 (by omega)) (List.mem_of_getElem? (i := 0) rfl) g_b (hb hby d33_79) ?_
        intro T10 h10 L10 sl10 vv10 W10 w10 V_new
        have ne_j_b : j ≠ b := (Exa.neArv E_j V_b (cx.w 32 rfl))
        replace E_j := E_j.wr w10
        replace F_bytes_j := F_bytes_j.other w10 (Or.inl ne_j_b)
        replace K0 := K0.wr w10 (Or.inl (List.mem_of_getElem? (i := 0) rfl))
        replace V_b : Arv Z h10 b kb .byte (4096 : Int32) ((bs ++ [(92 : Int32)]).map Value.int) (.int 0) := V_new
        clear V_new
        refine Go.st (fun _ => XS.aloadN W10.here W10.ex rfl (hb hby d33_80) rfl rfl) ?_
        show Go _ _ _ _ (T10.setTop (mkF m_ 81 #[.val (.ref j), .val (.int (8 : Int32)), .val (.int (Int32.ofNat bs.length)), .val (.int (Int32.ofNat (bs.length + 1))), .unset] [(.ref j)]))
        refine W10.getF (cx.w 38 rfl) Via.refl F_bytes_j (hb hby d33_81) ?_
        intro T11 W11
        refine Go.st (fun _ => XS.iloadN W11.here W11.ex rfl (hb hby d33_84) rfl) ?_
        refine Go.st (fun _ => XS.iinc W11.here W11.ex rfl (hb hby d33_85) rfl (l' := #[.val (.ref j), .val (.int (8 : Int32)), .val (.int (Int32.ofNat bs.length)), .val (.int ((Int32.ofNat (bs.length + 1)) + (1 : Int32))), .unset]) rfl) ?_
        show Go _ _ _ _ (T11.setTop (mkF m_ 88 #[.val (.ref j), .val (.int (8 : Int32)), .val (.int (Int32.ofNat bs.length)), .val (.int ((Int32.ofNat (bs.length + 1)) + (1 : Int32))), .unset] [(.int (Int32.ofNat (bs.length + 1))), (.ref b)]))
        rw [show ((Int32.ofNat (bs.length + 1)) + (1 : Int32)) = (Int32.ofNat (bs.length + 2)) from ofn_add _ 1]
        show Go _ _ _ _ (T11.setTop (mkF m_ 88 #[.val (.ref j), .val (.int (8 : Int32)), .val (.int (Int32.ofNat bs.length)), .val (.int (Int32.ofNat (bs.length + 2))), .unset] [(.int (Int32.ofNat (bs.length + 1))), (.ref b)]))
        refine W11.ldc (cx.w 197 rfl) cx.str (EL := consts_1) (List.mem_of_getElem? (i := 1) rfl) (vs := (litV 197)) (z := 6) ⟨by decide, rfl⟩ (by decide) rfl (hb hby d33_88) (j := 24) (by decide) (by decide) (k' := 2) (n' := 28) rfl rfl (by decide) (by decide) ?_
        intro vm12 T12 h12 a12 d12 kA_d12 W12 E12 E_a12 F_coder_a12 F_value_a12 V_d12 nl12
        replace E_j := E_j.ext E12
        replace F_bytes_j := F_bytes_j.ext E12
        replace V_b := V_b.ext E12
        replace K0 := K0.ext E12
        refine Go.st (fun _ => XS.iloadN W12.here W12.ex rfl (hb hby d33_90) rfl) ?_
        refine Go.st (fun _ => XS.bipush W12.here W12.ex rfl (hb hby d33_91)) ?_
        refine Go.st (fun _ => XS.isub W12.here W12.ex rfl (hb hby d33_93) rfl) ?_
        show Go _ _ _ _ (T12.setTop (mkF m_ 94 #[.val (.ref j), .val (.int (8 : Int32)), .val (.int (Int32.ofNat bs.length)), .val (.int (Int32.ofNat (bs.length + 2))), .unset] [(.int ((8 : Int32) - (8 : Int32))), (.ref a12), (.int (Int32.ofNat (bs.length + 1))), (.ref b)]))
        rw [show ((8 : Int32) - (8 : Int32)) = (0 : Int32) from by decide]
        show Go _ _ _ _ (T12.setTop (mkF m_ 94 #[.val (.ref j), .val (.int (8 : Int32)), .val (.int (Int32.ofNat bs.length)), .val (.int (Int32.ofNat (bs.length + 2))), .unset] [(.int (0 : Int32)), (.ref a12), (.int (Int32.ofNat (bs.length + 1))), (.ref b)]))
        refine W12.callV (y := Y22) (z := Y22) (cx.w 124 rfl) (cx.w 125 rfl) (cx.w 127 rfl) (cx.w 126 rfl) (cx.w 4 rfl) (cx.w 128 rfl) (W12.nf (cx.w 127 rfl)) (by decide) E_a12 (ct_chL cx W12.old a12 d12 (0 : Int32) 6 98 98 E_a12 F_value_a12 F_coder_a12 V_d12 (by decide) (by rw [litV_b]; rfl) (by decide) (by decide)) all0 (by decide) (Wd := 2) (by decide) (k' := 2) (n' := 28) rfl rfl (by decide) (by decide) (by rw [hml]; rfl) (a := a12) (argsL := [(.int (0 : Int32))]) (rest := [(.int (Int32.ofNat (bs.length + 1))), (.ref b)]) rfl (lenOf pd19 rfl) rfl (Nat.le_of_eq rfl) (hb hby d33_94) ?_
        intro v13 vm13 T13 h13 L13 W13 q13
        obtain ⟨rfl, eh_⟩ := q13
        subst h13
        refine Go.st (fun _ => XS.i2b W13.here W13.ex rfl (hb hby d33_97) rfl) ?_
        show Go _ _ _ _ (T13.setTop (mkF m_ 98 #[.val (.ref j), .val (.int (8 : Int32)), .val (.int (Int32.ofNat bs.length)), .val (.int (Int32.ofNat (bs.length + 2))), .unset] [(.int ((98 : Int32).toInt8.toInt32)), (.int (Int32.ofNat (bs.length + 1))), (.ref b)]))
        rw [show ((98 : Int32).toInt8.toInt32) = (98 : Int32) from by decide]
        show Go _ _ _ _ (T13.setTop (mkF m_ 98 #[.val (.ref j), .val (.int (8 : Int32)), .val (.int (Int32.ofNat bs.length)), .val (.int (Int32.ofNat (bs.length + 2))), .unset] [(.int (98 : Int32)), (.int (Int32.ofNat (bs.length + 1))), (.ref b)]))
        refine W13.stA V_b (x := (98 : Int32)) (n1 := (bs.length + 1)) (ln rfl) (rmB (k := 1) rfl (by omega)) (List.mem_of_getElem? (i := 0) rfl) g_b (hb hby d33_98) ?_
        intro T14 h14 L14 sl14 vv14 W14 w14 V_new
        replace E_j := E_j.wr w14
        replace F_bytes_j := F_bytes_j.other w14 (Or.inl ne_j_b)
        replace E_a12 := E_a12.wr w14
        replace F_coder_a12 := F_coder_a12.other w14 (Or.inl (Ne.symm (nl12 b (List.mem_of_getElem? (i := 0) rfl)).1))
        replace F_value_a12 := F_value_a12.other w14 (Or.inl (Ne.symm (nl12 b (List.mem_of_getElem? (i := 0) rfl)).1))
        replace V_d12 := V_d12.other w14 (Ne.symm (nl12 b (List.mem_of_getElem? (i := 0) rfl)).2)
        replace K0 := K0.wr w14 (Or.inl (List.mem_of_getElem? (i := 0) rfl))
        replace V_b : Arv Z h14 b kb .byte (4096 : Int32) ((bs ++ [(92 : Int32), (98 : Int32)]).map Value.int) (.int 0) := by rw [List.append_assoc] at V_new; exact V_new
        clear V_new
        refine Go.st (fun _ => XS.goto W14.here W14.ex rfl (pc0 := 99) (pc' := 278) rfl (hb hby d33_99) (by decide) (by decide)) ?_
        refine Go.st (fun _ => XS.iloadN W14.here W14.ex rfl (hb hby d33_278) rfl) ?_
        show Go _ _ _ _ (T14.setTop (mkF m_ 279 #[.val (.ref j), .val (.int (8 : Int32)), .val (.int (Int32.ofNat bs.length)), .val (.int (Int32.ofNat (bs.length + 2))), .unset] [(.int (Int32.ofNat (bs.length + 2)))]))
        have he : Ec (8 : Int32) = [(92 : Int32), (98 : Int32)] := by decide +kernel
        exact W14.retI hret (hb hby d33_279) (by decide) (by decide) fun vr_ cr_ => ⟨lnE he rfl, K0, by rw [he]; exact V_b⟩
      · refine Go.st (fun _ => XS.icmpNo W0.here W0.ex rfl (hb hby d33_42) rfl (feq (z8 : ¬ (c = (8 : Int32)))).1) ?_
        refine Go.st (fun _ => XS.iloadN W0.here W0.ex rfl (hb hby d33_45) rfl) ?_
        show Go _ _ _ _ (T0.setTop (mkF m_ 46 #[.val (.ref j), .val (.int c), .val (.int (Int32.ofNat bs.length)), .val (.int (Int32.ofNat bs.length)), .unset] [(.int c)]))
        refine Go.st (fun _ => XS.bipush W0.here W0.ex rfl (hb hby d33_46)) ?_
        show Go _ _ _ _ (T0.setTop (mkF m_ 48 #[.val (.ref j), .val (.int c), .val (.int (Int32.ofNat bs.length)), .val (.int (Int32.ofNat bs.length)), .unset] [(.int (9 : Int32)), (.int c)]))
        by_cases z9 : c = (9 : Int32)
        · refine Go.st (fun _ => XS.icmpYes W0.here W0.ex rfl (pc0 := 48) (pc' := 69) rfl (hb hby d33_48) rfl (teq (z9 : c = (9 : Int32))).1 (by decide) (by decide)) ?_
          show Go _ _ _ _ (T0.setTop (mkF m_ 69 #[.val (.ref j), .val (.int c), .val (.int (Int32.ofNat bs.length)), .val (.int (Int32.ofNat bs.length)), .unset] []))
          subst z9
          refine Go.st (fun _ => XS.aloadN W0.here W0.ex rfl (hb hby d33_69) rfl rfl) ?_
          show Go _ _ _ _ (T0.setTop (mkF m_ 70 #[.val (.ref j), .val (.int (9 : Int32)), .val (.int (Int32.ofNat bs.length)), .val (.int (Int32.ofNat bs.length)), .unset] [(.ref j)]))
          refine W0.getF (cx.w 38 rfl) Via.refl F_bytes_j (hb hby d33_70) ?_
          intro T15 W15
          refine Go.st (fun _ => XS.iloadN W15.here W15.ex rfl (hb hby d33_73) rfl) ?_
          refine Go.st (fun _ => XS.iinc W15.here W15.ex rfl (hb hby d33_74) rfl (l' := #[.val (.ref j), .val (.int (9 : Int32)), .val (.int (Int32.ofNat bs.length)), .val (.int ((Int32.ofNat bs.length) + (1 : Int32))), .unset]) rfl) ?_
          show Go _ _ _ _ (T15.setTop (mkF m_ 77 #[.val (.ref j), .val (.int (9 : Int32)), .val (.int (Int32.ofNat bs.length)), .val (.int ((Int32.ofNat bs.length) + (1 : Int32))), .unset] [(.int (Int32.ofNat bs.length)), (.ref b)]))
          rw [show ((Int32.ofNat bs.length) + (1 : Int32)) = (Int32.ofNat (bs.length + 1)) from ofn_add _ 1]
          refine Go.st (fun _ => XS.bipush W15.here W15.ex rfl (hb hby d33_77)) ?_
          show Go _ _ _ _ (T15.setTop (mkF m_ 79 #[.val (.ref j), .val (.int (9 : Int32)), .val (.int (Int32.ofNat bs.length)), .val (.int (Int32.ofNat (bs.length + 1))), .unset] [(.int (92 : Int32)), (.int (Int32.ofNat bs.length)), (.ref b)]))
          refine W15.stA V_b (x := (92 : Int32)) (n1 := bs.length) rfl (rmB0 (by omega)) (List.mem_of_getElem? (i := 0) rfl) g_b (hb hby d33_79) ?_
          intro T16 h16 L16 sl16 vv16 W16 w16 V_new
          have ne_j_b : j ≠ b := (Exa.neArv E_j V_b (cx.w 32 rfl))
          replace E_j := E_j.wr w16
          replace F_bytes_j := F_bytes_j.other w16 (Or.inl ne_j_b)
          replace K0 := K0.wr w16 (Or.inl (List.mem_of_getElem? (i := 0) rfl))
          replace V_b : Arv Z h16 b kb .byte (4096 : Int32) ((bs ++ [(92 : Int32)]).map Value.int) (.int 0) := V_new
          clear V_new
          refine Go.st (fun _ => XS.aloadN W16.here W16.ex rfl (hb hby d33_80) rfl rfl) ?_
          show Go _ _ _ _ (T16.setTop (mkF m_ 81 #[.val (.ref j), .val (.int (9 : Int32)), .val (.int (Int32.ofNat bs.length)), .val (.int (Int32.ofNat (bs.length + 1))), .unset] [(.ref j)]))
          refine W16.getF (cx.w 38 rfl) Via.refl F_bytes_j (hb hby d33_81) ?_
          intro T17 W17
          refine Go.st (fun _ => XS.iloadN W17.here W17.ex rfl (hb hby d33_84) rfl) ?_
          refine Go.st (fun _ => XS.iinc W17.here W17.ex rfl (hb hby d33_85) rfl (l' := #[.val (.ref j), .val (.int (9 : Int32)), .val (.int (Int32.ofNat bs.length)), .val (.int ((Int32.ofNat (bs.length + 1)) + (1 : Int32))), .unset]) rfl) ?_
          show Go _ _ _ _ (T17.setTop (mkF m_ 88 #[.val (.ref j), .val (.int (9 : Int32)), .val (.int (Int32.ofNat bs.length)), .val (.int ((Int32.ofNat (bs.length + 1)) + (1 : Int32))), .unset] [(.int (Int32.ofNat (bs.length + 1))), (.ref b)]))
          rw [show ((Int32.ofNat (bs.length + 1)) + (1 : Int32)) = (Int32.ofNat (bs.length + 2)) from ofn_add _ 1]
          show Go _ _ _ _ (T17.setTop (mkF m_ 88 #[.val (.ref j), .val (.int (9 : Int32)), .val (.int (Int32.ofNat bs.length)), .val (.int (Int32.ofNat (bs.length + 2))), .unset] [(.int (Int32.ofNat (bs.length + 1))), (.ref b)]))
          refine W17.ldc (cx.w 197 rfl) cx.str (EL := consts_1) (List.mem_of_getElem? (i := 1) rfl) (vs := (litV 197)) (z := 6) ⟨by decide, rfl⟩ (by decide) rfl (hb hby d33_88) (j := 24) (by decide) (by decide) (k' := 2) (n' := 28) rfl rfl (by decide) (by decide) ?_
          intro vm18 T18 h18 a18 d18 kA_d18 W18 E18 E_a18 F_coder_a18 F_value_a18 V_d18 nl18
          replace E_j := E_j.ext E18
          replace F_bytes_j := F_bytes_j.ext E18
          replace V_b := V_b.ext E18
          replace K0 := K0.ext E18
          refine Go.st (fun _ => XS.iloadN W18.here W18.ex rfl (hb hby d33_90) rfl) ?_
          refine Go.st (fun _ => XS.bipush W18.here W18.ex rfl (hb hby d33_91)) ?_
          refine Go.st (fun _ => XS.isub W18.here W18.ex rfl (hb hby d33_93) rfl) ?_
          show Go _ _ _ _ (T18.setTop (mkF m_ 94 #[.val (.ref j), .val (.int (9 : Int32)), .val (.int (Int32.ofNat bs.length)), .val (.int (Int32.ofNat (bs.length + 2))), .unset] [(.int ((9 : Int32) - (8 : Int32))), (.ref a18), (.int (Int32.ofNat (bs.length + 1))), (.ref b)]))
          rw [show ((9 : Int32) - (8 : Int32)) = (1 : Int32) from by decide]
          show Go _ _ _ _ (T18.setTop (mkF m_ 94 #[.val (.ref j), .val (.int (9 : Int32)), .val (.int (Int32.ofNat bs.length)), .val (.int (Int32.ofNat (bs.length + 2))), .unset] [(.int (1 : Int32)), (.ref a18), (.int (Int32.ofNat (bs.length + 1))), (.ref b)]))
          refine W18.callV (y := Y22) (z := Y22) (cx.w 124 rfl) (cx.w 125 rfl) (cx.w 127 rfl) (cx.w 126 rfl) (cx.w 4 rfl) (cx.w 128 rfl) (W18.nf (cx.w 127 rfl)) (by decide) E_a18 (ct_chL cx W18.old a18 d18 (1 : Int32) 6 116 116 E_a18 F_value_a18 F_coder_a18 V_d18 (by decide) (by rw [litV_b]; rfl) (by decide) (by decide)) all0 (by decide) (Wd := 2) (by decide) (k' := 2) (n' := 28) rfl rfl (by decide) (by decide) (by rw [hml]; rfl) (a := a18) (argsL := [(.int (1 : Int32))]) (rest := [(.int (Int32.ofNat (bs.length + 1))), (.ref b)]) rfl (lenOf pd19 rfl) rfl (Nat.le_of_eq rfl) (hb hby d33_94) ?_
          intro v19 vm19 T19 h19 L19 W19 q19
          obtain ⟨rfl, eh_⟩ := q19
          subst h19
          refine Go.st (fun _ => XS.i2b W19.here W19.ex rfl (hb hby d33_97) rfl) ?_
          show Go _ _ _ _ (T19.setTop (mkF m_ 98 #[.val (.ref j), .val (.int (9 : Int32)), .val (.int (Int32.ofNat bs.length)), .val (.int (Int32.ofNat (bs.length + 2))), .unset] [(.int ((116 : Int32).toInt8.toInt32)), (.int (Int32.ofNat (bs.length + 1))), (.ref b)]))
          rw [show ((116 : Int32).toInt8.toInt32) = (116 : Int32) from by decide]
          show Go _ _ _ _ (T19.setTop (mkF m_ 98 #[.val (.ref j), .val (.int (9 : Int32)), .val (.int (Int32.ofNat bs.length)), .val (.int (Int32.ofNat (bs.length + 2))), .unset] [(.int (116 : Int32)), (.int (Int32.ofNat (bs.length + 1))), (.ref b)]))
          refine W19.stA V_b (x := (116 : Int32)) (n1 := (bs.length + 1)) (ln rfl) (rmB (k := 1) rfl (by omega)) (List.mem_of_getElem? (i := 0) rfl) g_b (hb hby d33_98) ?_
          intro T20 h20 L20 sl20 vv20 W20 w20 V_new
          replace E_j := E_j.wr w20
          replace F_bytes_j := F_bytes_j.other w20 (Or.inl ne_j_b)
          replace E_a18 := E_a18.wr w20
          replace F_coder_a18 := F_coder_a18.other w20 (Or.inl (Ne.symm (nl18 b (List.mem_of_getElem? (i := 0) rfl)).1))
          replace F_value_a18 := F_value_a18.other w20 (Or.inl (Ne.symm (nl18 b (List.mem_of_getElem? (i := 0) rfl)).1))
          replace V_d18 := V_d18.other w20 (Ne.symm (nl18 b (List.mem_of_getElem? (i := 0) rfl)).2)
          replace K0 := K0.wr w20 (Or.inl (List.mem_of_getElem? (i := 0) rfl))
          replace V_b : Arv Z h20 b kb .byte (4096 : Int32) ((bs ++ [(92 : Int32), (116 : Int32)]).map Value.int) (.int 0) := by rw [List.append_assoc] at V_new; exact V_new
          clear V_new
          refine Go.st (fun _ => XS.goto W20.here W20.ex rfl (pc0 := 99) (pc' := 278) rfl (hb hby d33_99) (by decide) (by decide)) ?_
          refine Go.st (fun _ => XS.iloadN W20.here W20.ex rfl (hb hby d33_278) rfl) ?_
          show Go _ _ _ _ (T20.setTop (mkF m_ 279 #[.val (.ref j), .val (.int (9 : Int32)), .val (.int (Int32.ofNat bs.length)), .val (.int (Int32.ofNat (bs.length + 2))), .unset] [(.int (Int32.ofNat (bs.length + 2)))]))
          have he : Ec (9 : Int32) = [(92 : Int32), (116 : Int32)] := by decide +kernel
          exact W20.retI hret (hb hby d33_279) (by decide) (by decide) fun vr_ cr_ => ⟨lnE he rfl, K0, by rw [he]; exact V_b⟩
        · refine Go.st (fun _ => XS.icmpNo W0.here W0.ex rfl (hb hby d33_48) rfl (feq (z9 : ¬ (c = (9 : Int32)))).1) ?_
          refine Go.st (fun _ => XS.iloadN W0.here W0.ex rfl (hb hby d33_51) rfl) ?_
          show Go _ _ _ _ (T0.setTop (mkF m_ 52 #[.val (.ref j), .val (.int c), .val (.int (Int32.ofNat bs.length)), .val (.int (Int32.ofNat bs.length)), .unset] [(.int c)]))
          refine Go.st (fun _ => XS.bipush W0.here W0.ex rfl (hb hby d33_52)) ?_
          show Go _ _ _ _ (T0.setTop (mkF m_ 54 #[.val (.ref j), .val (.int c), .val (.int (Int32.ofNat bs.length)), .val (.int (Int32.ofNat bs.length)), .unset] [(.int (10 : Int32)), (.int c)]))
          by_cases z10 : c = (10 : Int32)
          · refine Go.st (fun _ => XS.icmpYes W0.here W0.ex rfl (pc0 := 54) (pc' := 69) rfl (hb hby d33_54) rfl (teq (z10 : c = (10 : Int32))).1 (by decide) (by decide)) ?_
            show Go _ _ _ _ (T0.setTop (mkF m_ 69 #[.val (.ref j), .val (.int c), .val (.int (Int32.ofNat bs.length)), .val (.int (Int32.ofNat bs.length)), .unset] []))
            subst z10
            refine Go.st (fun _ => XS.aloadN W0.here W0.ex rfl (hb hby d33_69) rfl rfl) ?_
            show Go _ _ _ _ (T0.setTop (mkF m_ 70 #[.val (.ref j), .val (.int (10 : Int32)), .val (.int (Int32.ofNat bs.length)), .val (.int (Int32.ofNat bs.length)), .unset] [(.ref j)]))
            refine W0.getF (cx.w 38 rfl) Via.refl F_bytes_j (hb hby d33_70) ?_
            intro T21 W21
            refine Go.st (fun _ => XS.iloadN W21.here W21.ex rfl (hb hby d33_73) rfl) ?_
            refine Go.st (fun _ => XS.iinc W21.here W21.ex rfl (hb hby d33_74) rfl (l' := #[.val (.ref j), .val (.int (10 : Int32)), .val (.int (Int32.ofNat bs.length)), .val (.int ((Int32.ofNat bs.length) + (1 : Int32))), .unset]) rfl) ?_
            show Go _ _ _ _ (T21.setTop (mkF m_ 77 #[.val (.ref j), .val (.int (10 : Int32)), .val (.int (Int32.ofNat bs.length)), .val (.int ((Int32.ofNat bs.length) + (1 : Int32))), .unset] [(.int (Int32.ofNat bs.length)), (.ref b)]))
            rw [show ((Int32.ofNat bs.length) + (1 : Int32)) = (Int32.ofNat (bs.length + 1)) from ofn_add _ 1]
            refine Go.st (fun _ => XS.bipush W21.here W21.ex rfl (hb hby d33_77)) ?_
            show Go _ _ _ _ (T21.setTop (mkF m_ 79 #[.val (.ref j), .val (.int (10 : Int32)), .val (.int (Int32.ofNat bs.length)), .val (.int (Int32.ofNat (bs.length + 1))), .unset] [(.int (92 : Int32)), (.int (Int32.ofNat bs.length)), (.ref b)]))
            refine W21.stA V_b (x := (92 : Int32)) (n1 := bs.length) rfl (rmB0 (by omega)) (List.mem_of_getElem? (i := 0) rfl) g_b (hb hby d33_79) ?_
            intro T22 h22 L22 sl22 vv22 W22 w22 V_new
            have ne_j_b : j ≠ b := (Exa.neArv E_j V_b (cx.w 32 rfl))
            replace E_j := E_j.wr w22
            replace F_bytes_j := F_bytes_j.other w22 (Or.inl ne_j_b)
            replace K0 := K0.wr w22 (Or.inl (List.mem_of_getElem? (i := 0) rfl))
            replace V_b : Arv Z h22 b kb .byte (4096 : Int32) ((bs ++ [(92 : Int32)]).map Value.int) (.int 0) := V_new
            clear V_new
            refine Go.st (fun _ => XS.aloadN W22.here W22.ex rfl (hb hby d33_80) rfl rfl) ?_
            show Go _ _ _ _ (T22.setTop (mkF m_ 81 #[.val (.ref j), .val (.int (10 : Int32)), .val (.int (Int32.ofNat bs.length)), .val (.int (Int32.ofNat (bs.length + 1))), .unset] [(.ref j)]))
            refine W22.getF (cx.w 38 rfl) Via.refl F_bytes_j (hb hby d33_81) ?_
            intro T23 W23
            refine Go.st (fun _ => XS.iloadN W23.here W23.ex rfl (hb hby d33_84) rfl) ?_
            refine Go.st (fun _ => XS.iinc W23.here W23.ex rfl (hb hby d33_85) rfl (l' := #[.val (.ref j), .val (.int (10 : Int32)), .val (.int (Int32.ofNat bs.length)), .val (.int ((Int32.ofNat (bs.length + 1)) + (1 : Int32))), .unset]) rfl) ?_
            show Go _ _ _ _ (T23.setTop (mkF m_ 88 #[.val (.ref j), .val (.int (10 : Int32)), .val (.int (Int32.ofNat bs.length)), .val (.int ((Int32.ofNat (bs.length + 1)) + (1 : Int32))), .unset] [(.int (Int32.ofNat (bs.length + 1))), (.ref b)]))
            rw [show ((Int32.ofNat (bs.length + 1)) + (1 : Int32)) = (Int32.ofNat (bs.length + 2)) from ofn_add _ 1]
            show Go _ _ _ _ (T23.setTop (mkF m_ 88 #[.val (.ref j), .val (.int (10 : Int32)), .val (.int (Int32.ofNat bs.length)), .val (.int (Int32.ofNat (bs.length + 2))), .unset] [(.int (Int32.ofNat (bs.length + 1))), (.ref b)]))
            refine W23.ldc (cx.w 197 rfl) cx.str (EL := consts_1) (List.mem_of_getElem? (i := 1) rfl) (vs := (litV 197)) (z := 6) ⟨by decide, rfl⟩ (by decide) rfl (hb hby d33_88) (j := 24) (by decide) (by decide) (k' := 2) (n' := 28) rfl rfl (by decide) (by decide) ?_
            intro vm24 T24 h24 a24 d24 kA_d24 W24 E24 E_a24 F_coder_a24 F_value_a24 V_d24 nl24
            replace E_j := E_j.ext E24
            replace F_bytes_j := F_bytes_j.ext E24
            replace V_b := V_b.ext E24
            replace K0 := K0.ext E24
            refine Go.st (fun _ => XS.iloadN W24.here W24.ex rfl (hb hby d33_90) rfl) ?_
            refine Go.st (fun _ => XS.bipush W24.here W24.ex rfl (hb hby d33_91)) ?_
            refine Go.st (fun _ => XS.isub W24.here W24.ex rfl (hb hby d33_93) rfl) ?_
            show Go _ _ _ _ (T24.setTop (mkF m_ 94 #[.val (.ref j), .val (.int (10 : Int32)), .val (.int (Int32.ofNat bs.length)), .val (.int (Int32.ofNat (bs.length + 2))), .unset] [(.int ((10 : Int32) - (8 : Int32))), (.ref a24), (.int (Int32.ofNat (bs.length + 1))), (.ref b)]))
            rw [show ((10 : Int32) - (8 : Int32)) = (2 : Int32) from by decide]
            show Go _ _ _ _ (T24.setTop (mkF m_ 94 #[.val (.ref j), .val (.int (10 : Int32)), .val (.int (Int32.ofNat bs.length)), .val (.int (Int32.ofNat (bs.length + 2))), .unset] [(.int (2 : Int32)), (.ref a24), (.int (Int32.ofNat (bs.length + 1))), (.ref b)]))
            refine W24.callV (y := Y22) (z := Y22) (cx.w 124 rfl) (cx.w 125 rfl) (cx.w 127 rfl) (cx.w 126 rfl) (cx.w 4 rfl) (cx.w 128 rfl) (W24.nf (cx.w 127 rfl)) (by decide) E_a24 (ct_chL cx W24.old a24 d24 (2 : Int32) 6 110 110 E_a24 F_value_a24 F_coder_a24 V_d24 (by decide) (by rw [litV_b]; rfl) (by decide) (by decide)) all0 (by decide) (Wd := 2) (by decide) (k' := 2) (n' := 28) rfl rfl (by decide) (by decide) (by rw [hml]; rfl) (a := a24) (argsL := [(.int (2 : Int32))]) (rest := [(.int (Int32.ofNat (bs.length + 1))), (.ref b)]) rfl (lenOf pd19 rfl) rfl (Nat.le_of_eq rfl) (hb hby d33_94) ?_
            intro v25 vm25 T25 h25 L25 W25 q25
            obtain ⟨rfl, eh_⟩ := q25
            subst h25
            refine Go.st (fun _ => XS.i2b W25.here W25.ex rfl (hb hby d33_97) rfl) ?_
            show Go _ _ _ _ (T25.setTop (mkF m_ 98 #[.val (.ref j), .val (.int (10 : Int32)), .val (.int (Int32.ofNat bs.length)), .val (.int (Int32.ofNat (bs.length + 2))), .unset] [(.int ((110 : Int32).toInt8.toInt32)), (.int (Int32.ofNat (bs.length + 1))), (.ref b)]))
            rw [show ((110 : Int32).toInt8.toInt32) = (110 : Int32) from by decide]
            show Go _ _ _ _ (T25.setTop (mkF m_ 98 #[.val (.ref j), .val (.int (10 : Int32)), .val (.int (Int32.ofNat bs.length)), .val (.int (Int32.ofNat (bs.length + 2))), .unset] [(.int (110 : Int32)), (.int (Int32.ofNat (bs.length + 1))), (.ref b)]))
            refine W25.stA V_b (x := (110 : Int32)) (n1 := (bs.length + 1)) (ln rfl) (rmB (k := 1) rfl (by omega)) (List.mem_of_getElem? (i := 0) rfl) g_b (hb hby d33_98) ?_
            intro T26 h26 L26 sl26 vv26 W26 w26 V_new
            replace E_j := E_j.wr w26
            replace F_bytes_j := F_bytes_j.other w26 (Or.inl ne_j_b)
            replace E_a24 := E_a24.wr w26
            replace F_coder_a24 := F_coder_a24.other w26 (Or.inl (Ne.symm (nl24 b (List.mem_of_getElem? (i := 0) rfl)).1))
            replace F_value_a24 := F_value_a24.other w26 (Or.inl (Ne.symm (nl24 b (List.mem_of_getElem? (i := 0) rfl)).1))
            replace V_d24 := V_d24.other w26 (Ne.symm (nl24 b (List.mem_of_getElem? (i := 0) rfl)).2)
            replace K0 := K0.wr w26 (Or.inl (List.mem_of_getElem? (i := 0) rfl))
            replace V_b : Arv Z h26 b kb .byte (4096 : Int32) ((bs ++ [(92 : Int32), (110 : Int32)]).map Value.int) (.int 0) := by rw [List.append_assoc] at V_new; exact V_new
            clear V_new
            refine Go.st (fun _ => XS.goto W26.here W26.ex rfl (pc0 := 99) (pc' := 278) rfl (hb hby d33_99) (by decide) (by decide)) ?_
            refine Go.st (fun _ => XS.iloadN W26.here W26.ex rfl (hb hby d33_278) rfl) ?_
            show Go _ _ _ _ (T26.setTop (mkF m_ 279 #[.val (.ref j), .val (.int (10 : Int32)), .val (.int (Int32.ofNat bs.length)), .val (.int (Int32.ofNat (bs.length + 2))), .unset] [(.int (Int32.ofNat (bs.length + 2)))]))
            have he : Ec (10 : Int32) = [(92 : Int32), (110 : Int32)] := by decide +kernel
            exact W26.retI hret (hb hby d33_279) (by decide) (by decide) fun vr_ cr_ => ⟨lnE he rfl, K0, by rw [he]; exact V_b⟩
          · refine Go.st (fun _ => XS.icmpNo W0.here W0.ex rfl (hb hby d33_54) rfl (feq (z10 : ¬ (c = (10 : Int32)))).1) ?_
            refine Go.st (fun _ => XS.iloadN W0.here W0.ex rfl (hb hby d33_57) rfl) ?_
            show Go _ _ _ _ (T0.setTop (mkF m_ 58 #[.val (.ref j), .val (.int c), .val (.int (Int32.ofNat bs.length)), .val (.int (Int32.ofNat bs.length)), .unset] [(.int c)]))
            refine Go.st (fun _ => XS.bipush W0.here W0.ex rfl (hb hby d33_58)) ?_
            show Go _ _ _ _ (T0.setTop (mkF m_ 60 #[.val (.ref j), .val (.int c), .val (.int (Int32.ofNat bs.length)), .val (.int (Int32.ofNat bs.length)), .unset] [(.int (12 : Int32)), (.int c)]))
            by_cases z12 : c = (12 : Int32)
            · refine Go.st (fun _ => XS.icmpYes W0.here W0.ex rfl (pc0 := 60) (pc' := 69) rfl (hb hby d33_60) rfl (teq (z12 : c = (12 : Int32))).1 (by decide) (by decide)) ?_
              show Go _ _ _ _ (T0.setTop (mkF m_ 69 #[.val (.ref j), .val (.int c), .val (.int (Int32.ofNat bs.length)), .val (.int (Int32.ofNat bs.length)), .unset] []))
              subst z12
              refine Go.st (fun _ => XS.aloadN W0.here W0.ex rfl (hb hby d33_69) rfl rfl) ?_
              show Go _ _ _ _ (T0.setTop (mkF m_ 70 #[.val (.ref j), .val (.int (12 : Int32)), .val (.int (Int32.ofNat bs.length)), .val (.int (Int32.ofNat bs.length)), .unset] [(.ref j)]))
              refine W0.getF (cx.w 38 rfl) Via.refl F_bytes_j (hb hby d33_70) ?_
              intro T27 W27
              refine Go.st (fun _ => XS.iloadN W27.here W27.ex rfl (hb hby d33_73) rfl) ?_
              refine Go.st (fun _ => XS.iinc W27.here W27.ex rfl (hb hby d33_74) rfl (l' := #[.val (.ref j), .val (.int (12 : Int32)), .val (.int (Int32.ofNat bs.length)), .val (.int ((Int32.ofNat bs.length) + (1 : Int32))), .unset]) rfl) ?_
              show Go _ _ _ _ (T27.setTop (mkF m_ 77 #[.val (.ref j), .val (.int (12 : Int32)), .val (.int (Int32.ofNat bs.length)), .val (.int ((Int32.ofNat bs.length) + (1 : Int32))), .unset] [(.int (Int32.ofNat bs.length)), (.ref b)]))
              rw [show ((Int32.ofNat bs.length) + (1 : Int32)) = (Int32.ofNat (bs.length + 1)) from ofn_add _ 1]
              refine Go.st (fun _ => XS.bipush W27.here W27.ex rfl (hb hby d33_77)) ?_
              show Go _ _ _ _ (T27.setTop (mkF m_ 79 #[.val (.ref j), .val (.int (12 : Int32)), .val (.int (Int32.ofNat bs.length)), .val (.int (Int32.ofNat (bs.length + 1))), .unset] [(.int (92 : Int32)), (.int (Int32.ofNat bs.length)), (.ref b)]))
              refine W27.stA V_b (x := (92 : Int32)) (n1 := bs.length) rfl (rmB0 (by omega)) (List.mem_of_getElem? (i := 0) rfl) g_b (hb hby d33_79) ?_
              intro T28 h28 L28 sl28 vv28 W28 w28 V_new
              have ne_j_b : j ≠ b := (Exa.neArv E_j V_b (cx.w 32 rfl))
              replace E_j := E_j.wr w28
              replace F_bytes_j := F_bytes_j.other w28 (Or.inl ne_j_b)
              replace K0 := K0.wr w28 (Or.inl (List.mem_of_getElem? (i := 0) rfl))
              replace V_b : Arv Z h28 b kb .byte (4096 : Int32) ((bs ++ [(92 : Int32)]).map Value.int) (.int 0) := V_new
              clear V_new
              refine Go.st (fun _ => XS.aloadN W28.here W28.ex rfl (hb hby d33_80) rfl rfl) ?_
              show Go _ _ _ _ (T28.setTop (mkF m_ 81 #[.val (.ref j), .val (.int (12 : Int32)), .val (.int (Int32.ofNat bs.length)), .val (.int (Int32.ofNat (bs.length + 1))), .unset] [(.ref j)]))
              refine W28.getF (cx.w 38 rfl) Via.refl F_bytes_j (hb hby d33_81) ?_
              intro T29 W29
              refine Go.st (fun _ => XS.iloadN W29.here W29.ex rfl (hb hby d33_84) rfl) ?_
              refine Go.st (fun _ => XS.iinc W29.here W29.ex rfl (hb hby d33_85) rfl (l' := #[.val (.ref j), .val (.int (12 : Int32)), .val (.int (Int32.ofNat bs.length)), .val (.int ((Int32.ofNat (bs.length + 1)) + (1 : Int32))), .unset]) rfl) ?_
              show Go _ _ _ _ (T29.setTop (mkF m_ 88 #[.val (.ref j), .val (.int (12 : Int32)), .val (.int (Int32.ofNat bs.length)), .val (.int ((Int32.ofNat (bs.length + 1)) + (1 : Int32))), .unset] [(.int (Int32.ofNat (bs.length + 1))), (.ref b)]))
              rw [show ((Int32.ofNat (bs.length + 1)) + (1 : Int32)) = (Int32.ofNat (bs.length + 2)) from ofn_add _ 1]
              show Go _ _ _ _ (T29.setTop (mkF m_ 88 #[.val (.ref j), .val (.int (12 : Int32)), .val (.int (Int32.ofNat bs.length)), .val (.int (Int32.ofNat (bs.length + 2))), .unset] [(.int (Int32.ofNat (bs.length + 1))), (.ref b)]))
              refine W29.ldc (cx.w 197 rfl) cx.str (EL := consts_1) (List.mem_of_getElem? (i := 1) rfl) (vs := (litV 197)) (z := 6) ⟨by decide, rfl⟩ (by decide) rfl (hb hby d33_88) (j := 24) (by decide) (by decide) (k' := 2) (n' := 28) rfl rfl (by decide) (by decide) ?_
              intro vm30 T30 h30 a30 d30 kA_d30 W30 E30 E_a30 F_coder_a30 F_value_a30 V_d30 nl30
              replace E_j := E_j.ext E30
              replace F_bytes_j := F_bytes_j.ext E30
              replace V_b := V_b.ext E30
              replace K0 := K0.ext E30
              refine Go.st (fun _ => XS.iloadN W30.here W30.ex rfl (hb hby d33_90) rfl) ?_
              refine Go.st (fun _ => XS.bipush W30.here W30.ex rfl (hb hby d33_91)) ?_
              refine Go.st (fun _ => XS.isub W30.here W30.ex rfl (hb hby d33_93) rfl) ?_
              show Go _ _ _ _ (T30.setTop (mkF m_ 94 #[.val (.ref j), .val (.int (12 : Int32)), .val (.int (Int32.ofNat bs.length)), .val (.int (Int32.ofNat (bs.length + 2))), .unset] [(.int ((12 : Int32) - (8 : Int32))), (.ref a30), (.int (Int32.ofNat (bs.length + 1))), (.ref b)]))
              rw [show ((12 : Int32) - (8 : Int32)) = (4 : Int32) from by decide]
              show Go _ _ _ _ (T30.setTop (mkF m_ 94 #[.val (.ref j), .val (.int (12 : Int32)), .val (.int (Int32.ofNat bs.length)), .val (.int (Int32.ofNat (bs.length + 2))), .unset] [(.int (4 : Int32)), (.ref a30), (.int (Int32.ofNat (bs.length + 1))), (.ref b)]))
              refine W30.callV (y := Y22) (z := Y22) (cx.w 124 rfl) (cx.w 125 rfl) (cx.w 127 rfl) (cx.w 126 rfl) (cx.w 4 rfl) (cx.w 128 rfl) (W30.nf (cx.w 127 rfl)) (by decide) E_a30 (ct_chL cx W30.old a30 d30 (4 : Int32) 6 102 102 E_a30 F_value_a30 F_coder_a30 V_d30 (by decide) (by rw [litV_b]; rfl) (by decide) (by decide)) all0 (by decide) (Wd := 2) (by decide) (k' := 2) (n' := 28) rfl rfl (by decide) (by decide) (by rw [hml]; rfl) (a := a30) (argsL := [(.int (4 : Int32))]) (rest := [(.int (Int32.ofNat (bs.length + 1))), (.ref b)]) rfl (lenOf pd19 rfl) rfl (Nat.le_of_eq rfl) (hb hby d33_94) ?_
              intro v31 vm31 T31 h31 L31 W31 q31
              obtain ⟨rfl, eh_⟩ := q31
              subst h31
              refine Go.st (fun _ => XS.i2b W31.here W31.ex rfl (hb hby d33_97) rfl) ?_
              show Go _ _ _ _ (T31.setTop (mkF m_ 98 #[.val (.ref j), .val (.int (12 : Int32)), .val (.int (Int32.ofNat bs.length)), .val (.int (Int32.ofNat (bs.length + 2))), .unset] [(.int ((102 : Int32).toInt8.toInt32)), (.int (Int32.ofNat (bs.length + 1))), (.ref b)]))
              rw [show ((102 : Int32).toInt8.toInt32) = (102 : Int32) from by decide]
              show Go _ _ _ _ (T31.setTop (mkF m_ 98 #[.val (.ref j), .val (.int (12 : Int32)), .val (.int (Int32.ofNat bs.length)), .val (.int (Int32.ofNat (bs.length + 2))), .unset] [(.int (102 : Int32)), (.int (Int32.ofNat (bs.length + 1))), (.ref b)]))
              refine W31.stA V_b (x := (102 : Int32)) (n1 := (bs.length + 1)) (ln rfl) (rmB (k := 1) rfl (by omega)) (List.mem_of_getElem? (i := 0) rfl) g_b (hb hby d33_98) ?_
              intro T32 h32 L32 sl32 vv32 W32 w32 V_new
              replace E_j := E_j.wr w32
              replace F_bytes_j := F_bytes_j.other w32 (Or.inl ne_j_b)
              replace E_a30 := E_a30.wr w32
              replace F_coder_a30 := F_coder_a30.other w32 (Or.inl (Ne.symm (nl30 b (List.mem_of_getElem? (i := 0) rfl)).1))
              replace F_value_a30 := F_value_a30.other w32 (Or.inl (Ne.symm (nl30 b (List.mem_of_getElem? (i := 0) rfl)).1))
              replace V_d30 := V_d30.other w32 (Ne.symm (nl30 b (List.mem_of_getElem? (i := 0) rfl)).2)
              replace K0 := K0.wr w32 (Or.inl (List.mem_of_getElem? (i := 0) rfl))
              replace V_b : Arv Z h32 b kb .byte (4096 : Int32) ((bs ++ [(92 : Int32), (102 : Int32)]).map Value.int) (.int 0) := by rw [List.append_assoc] at V_new; exact V_new
              clear V_new
              refine Go.st (fun _ => XS.goto W32.here W32.ex rfl (pc0 := 99) (pc' := 278) rfl (hb hby d33_99) (by decide) (by decide)) ?_
              refine Go.st (fun _ => XS.iloadN W32.here W32.ex rfl (hb hby d33_278) rfl) ?_
              show Go _ _ _ _ (T32.setTop (mkF m_ 279 #[.val (.ref j), .val (.int (12 : Int32)), .val (.int (Int32.ofNat bs.length)), .val (.int (Int32.ofNat (bs.length + 2))), .unset] [(.int (Int32.ofNat (bs.length + 2)))]))
              have he : Ec (12 : Int32) = [(92 : Int32), (102 : Int32)] := by decide +kernel
              exact W32.retI hret (hb hby d33_279) (by decide) (by decide) fun vr_ cr_ => ⟨lnE he rfl, K0, by rw [he]; exact V_b⟩
            · refine Go.st (fun _ => XS.icmpNo W0.here W0.ex rfl (hb hby d33_60) rfl (feq (z12 : ¬ (c = (12 : Int32)))).1) ?_
              refine Go.st (fun _ => XS.iloadN W0.here W0.ex rfl (hb hby d33_63) rfl) ?_
              show Go _ _ _ _ (T0.setTop (mkF m_ 64 #[.val (.ref j), .val (.int c), .val (.int (Int32.ofNat bs.length)), .val (.int (Int32.ofNat bs.length)), .unset] [(.int c)]))
              refine Go.st (fun _ => XS.bipush W0.here W0.ex rfl (hb hby d33_64)) ?_
              show Go _ _ _ _ (T0.setTop (mkF m_ 66 #[.val (.ref j), .val (.int c), .val (.int (Int32.ofNat bs.length)), .val (.int (Int32.ofNat bs.length)), .unset] [(.int (13 : Int32)), (.int c)]))
              by_cases z13 : c = (13 : Int32)
              · refine Go.st (fun _ => XS.icmpNo W0.here W0.ex rfl (hb hby d33_66) rfl (teq (z13 : c = (13 : Int32))).2) ?_
                show Go _ _ _ _ (T0.setTop (mkF m_ 69 #[.val (.ref j), .val (.int c), .val (.int (Int32.ofNat bs.length)), .val (.int (Int32.ofNat bs.length)), .unset] []))
                subst z13
                refine Go.st (fun _ => XS.aloadN W0.here W0.ex rfl (hb hby d33_69) rfl rfl) ?_
                show Go _ _ _ _ (T0.setTop (mkF m_ 70 #[.val (.ref j), .val (.int (13 : Int32)), .val (.int (Int32.ofNat bs.length)), .val (.int (Int32.ofNat bs.length)), .unset] [(.ref j)]))
                refine W0.getF (cx.w 38 rfl) Via.refl F_bytes_j (hb hby d33_70) ?_
                intro T33 W33
                refine Go.st (fun _ => XS.iloadN W33.here W33.ex rfl (hb hby d33_73) rfl) ?_
                refine Go.st (fun _ => XS.iinc W33.here W33.ex rfl (hb hby d33_74) rfl (l' := #[.val (.ref j), .val (.int (13 : Int32)), .val (.int (Int32.ofNat bs.length)), .val (.int ((Int32.ofNat bs.length) + (1 : Int32))), .unset]) rfl) ?_
                show Go _ _ _ _ (T33.setTop (mkF m_ 77 #[.val (.ref j), .val (.int (13 : Int32)), .val (.int (Int32.ofNat bs.length)), .val (.int ((Int32.ofNat bs.length) + (1 : Int32))), .unset] [(.int (Int32.ofNat bs.length)), (.ref b)]))
                rw [show ((Int32.ofNat bs.length) + (1 : Int32)) = (Int32.ofNat (bs.length + 1)) from ofn_add _ 1]
                refine Go.st (fun _ => XS.bipush W33.here W33.ex rfl (hb hby d33_77)) ?_
                show Go _ _ _ _ (T33.setTop (mkF m_ 79 #[.val (.ref j), .val (.int (13 : Int32)), .val (.int (Int32.ofNat bs.length)), .val (.int (Int32.ofNat (bs.length + 1))), .unset] [(.int (92 : Int32)), (.int (Int32.ofNat bs.length)), (.ref b)]))
                refine W33.stA V_b (x := (92 : Int32)) (n1 := bs.length) rfl (rmB0 (by omega)) (List.mem_of_getElem? (i := 0) rfl) g_b (hb hby d33_79) ?_
                intro T34 h34 L34 sl34 vv34 W34 w34 V_new
                have ne_j_b : j ≠ b := (Exa.neArv E_j V_b (cx.w 32 rfl))
                replace E_j := E_j.wr w34
                replace F_bytes_j := F_bytes_j.other w34 (Or.inl ne_j_b)
                replace K0 := K0.wr w34 (Or.inl (List.mem_of_getElem? (i := 0) rfl))
                replace V_b : Arv Z h34 b kb .byte (4096 : Int32) ((bs ++ [(92 : Int32)]).map Value.int) (.int 0) := V_new
                clear V_new
                refine Go.st (fun _ => XS.aloadN W34.here W34.ex rfl (hb hby d33_80) rfl rfl) ?_
                show Go _ _ _ _ (T34.setTop (mkF m_ 81 #[.val (.ref j), .val (.int (13 : Int32)), .val (.int (Int32.ofNat bs.length)), .val (.int (Int32.ofNat (bs.length + 1))), .unset] [(.ref j)]))
                refine W34.getF (cx.w 38 rfl) Via.refl F_bytes_j (hb hby d33_81) ?_
                intro T35 W35
                refine Go.st (fun _ => XS.iloadN W35.here W35.ex rfl (hb hby d33_84) rfl) ?_
                refine Go.st (fun _ => XS.iinc W35.here W35.ex rfl (hb hby d33_85) rfl (l' := #[.val (.ref j), .val (.int (13 : Int32)), .val (.int (Int32.ofNat bs.length)), .val (.int ((Int32.ofNat (bs.length + 1)) + (1 : Int32))), .unset]) rfl) ?_
                show Go _ _ _ _ (T35.setTop (mkF m_ 88 #[.val (.ref j), .val (.int (13 : Int32)), .val (.int (Int32.ofNat bs.length)), .val (.int ((Int32.ofNat (bs.length + 1)) + (1 : Int32))), .unset] [(.int (Int32.ofNat (bs.length + 1))), (.ref b)]))
                rw [show ((Int32.ofNat (bs.length + 1)) + (1 : Int32)) = (Int32.ofNat (bs.length + 2)) from ofn_add _ 1]
                show Go _ _ _ _ (T35.setTop (mkF m_ 88 #[.val (.ref j), .val (.int (13 : Int32)), .val (.int (Int32.ofNat bs.length)), .val (.int (Int32.ofNat (bs.length + 2))), .unset] [(.int (Int32.ofNat (bs.length + 1))), (.ref b)]))
                refine W35.ldc (cx.w 197 rfl) cx.str (EL := consts_1) (List.mem_of_getElem? (i := 1) rfl) (vs := (litV 197)) (z := 6) ⟨by decide, rfl⟩ (by decide) rfl (hb hby d33_88) (j := 24) (by decide) (by decide) (k' := 2) (n' := 28) rfl rfl (by decide) (by decide) ?_
                intro vm36 T36 h36 a36 d36 kA_d36 W36 E36 E_a36 F_coder_a36 F_value_a36 V_d36 nl36
                replace E_j := E_j.ext E36
                replace F_bytes_j := F_bytes_j.ext E36
                replace V_b := V_b.ext E36
                replace K0 := K0.ext E36
                refine Go.st (fun _ => XS.iloadN W36.here W36.ex rfl (hb hby d33_90) rfl) ?_
                refine Go.st (fun _ => XS.bipush W36.here W36.ex rfl (hb hby d33_91)) ?_
                refine Go.st (fun _ => XS.isub W36.here W36.ex rfl (hb hby d33_93) rfl) ?_
                show Go _ _ _ _ (T36.setTop (mkF m_ 94 #[.val (.ref j), .val (.int (13 : Int32)), .val (.int (Int32.ofNat bs.length)), .val (.int (Int32.ofNat (bs.length + 2))), .unset] [(.int ((13 : Int32) - (8 : Int32))), (.ref a36), (.int (Int32.ofNat (bs.length + 1))), (.ref b)]))
                rw [show ((13 : Int32) - (8 : Int32)) = (5 : Int32) from by decide]
                show Go _ _ _ _ (T36.setTop (mkF m_ 94 #[.val (.ref j), .val (.int (13 : Int32)), .val (.int (Int32.ofNat bs.length)), .val (.int (Int32.ofNat (bs.length + 2))), .unset] [(.int (5 : Int32)), (.ref a36), (.int (Int32.ofNat (bs.length + 1))), (.ref b)]))
                refine W36.callV (y := Y22) (z := Y22) (cx.w 124 rfl) (cx.w 125 rfl) (cx.w 127 rfl) (cx.w 126 rfl) (cx.w 4 rfl) (cx.w 128 rfl) (W36.nf (cx.w 127 rfl)) (by decide) E_a36 (ct_chL cx W36.old a36 d36 (5 : Int32) 6 114 114 E_a36 F_value_a36 F_coder_a36 V_d36 (by decide) (by rw [litV_b]; rfl) (by decide) (by decide)) all0 (by decide) (Wd := 2) (by decide) (k' := 2) (n' := 28) rfl rfl (by decide) (by decide) (by rw [hml]; rfl) (a := a36) (argsL := [(.int (5 : Int32))]) (rest := [(.int (Int32.ofNat (bs.length + 1))), (.ref b)]) rfl (lenOf pd19 rfl) rfl (Nat.le_of_eq rfl) (hb hby d33_94) ?_
                intro v37 vm37 T37 h37 L37 W37 q37
                obtain ⟨rfl, eh_⟩ := q37
                subst h37
                refine Go.st (fun _ => XS.i2b W37.here W37.ex rfl (hb hby d33_97) rfl) ?_
                show Go _ _ _ _ (T37.setTop (mkF m_ 98 #[.val (.ref j), .val (.int (13 : Int32)), .val (.int (Int32.ofNat bs.length)), .val (.int (Int32.ofNat (bs.length + 2))), .unset] [(.int ((114 : Int32).toInt8.toInt32)), (.int (Int32.ofNat (bs.length + 1))), (.ref b)]))
                rw [show ((114 : Int32).toInt8.toInt32) = (114 : Int32) from by decide]
                show Go _ _ _ _ (T37.setTop (mkF m_ 98 #[.val (.ref j), .val (.int (13 : Int32)), .val (.int (Int32.ofNat bs.length)), .val (.int (Int32.ofNat (bs.length + 2))), .unset] [(.int (114 : Int32)), (.int (Int32.ofNat (bs.length + 1))), (.ref b)]))
                refine W37.stA V_b (x := (114 : Int32)) (n1 := (bs.length + 1)) (ln rfl) (rmB (k := 1) rfl (by omega)) (List.mem_of_getElem? (i := 0) rfl) g_b (hb hby d33_98) ?_
                intro T38 h38 L38 sl38 vv38 W38 w38 V_new
                replace E_j := E_j.wr w38
                replace F_bytes_j := F_bytes_j.other w38 (Or.inl ne_j_b)
                replace E_a36 := E_a36.wr w38
                replace F_coder_a36 := F_coder_a36.other w38 (Or.inl (Ne.symm (nl36 b (List.mem_of_getElem? (i := 0) rfl)).1))
                replace F_value_a36 := F_value_a36.other w38 (Or.inl (Ne.symm (nl36 b (List.mem_of_getElem? (i := 0) rfl)).1))
                replace V_d36 := V_d36.other w38 (Ne.symm (nl36 b (List.mem_of_getElem? (i := 0) rfl)).2)
                replace K0 := K0.wr w38 (Or.inl (List.mem_of_getElem? (i := 0) rfl))
                replace V_b : Arv Z h38 b kb .byte (4096 : Int32) ((bs ++ [(92 : Int32), (114 : Int32)]).map Value.int) (.int 0) := by rw [List.append_assoc] at V_new; exact V_new
                clear V_new
                refine Go.st (fun _ => XS.goto W38.here W38.ex rfl (pc0 := 99) (pc' := 278) rfl (hb hby d33_99) (by decide) (by decide)) ?_
                refine Go.st (fun _ => XS.iloadN W38.here W38.ex rfl (hb hby d33_278) rfl) ?_
                show Go _ _ _ _ (T38.setTop (mkF m_ 279 #[.val (.ref j), .val (.int (13 : Int32)), .val (.int (Int32.ofNat bs.length)), .val (.int (Int32.ofNat (bs.length + 2))), .unset] [(.int (Int32.ofNat (bs.length + 2)))]))
                have he : Ec (13 : Int32) = [(92 : Int32), (114 : Int32)] := by decide +kernel
                exact W38.retI hret (hb hby d33_279) (by decide) (by decide) fun vr_ cr_ => ⟨lnE he rfl, K0, by rw [he]; exact V_b⟩
              · refine Go.st (fun _ => XS.icmpYes W0.here W0.ex rfl (pc0 := 66) (pc' := 102) rfl (hb hby d33_66) rfl (feq (z13 : ¬ (c = (13 : Int32)))).2 (by decide) (by decide)) ?_
                refine Go.st (fun _ => XS.iloadN W0.here W0.ex rfl (hb hby d33_102) rfl) ?_
                show Go _ _ _ _ (T0.setTop (mkF m_ 103 #[.val (.ref j), .val (.int c), .val (.int (Int32.ofNat bs.length)), .val (.int (Int32.ofNat bs.length)), .unset] [(.int c)]))
                refine Go.st (fun _ => XS.bipush W0.here W0.ex rfl (hb hby d33_103)) ?_
                show Go _ _ _ _ (T0.setTop (mkF m_ 105 #[.val (.ref j), .val (.int c), .val (.int (Int32.ofNat bs.length)), .val (.int (Int32.ofNat bs.length)), .unset] [(.int (32 : Int32)), (.int c)]))
                by_cases z32 : c < (32 : Int32)
                · refine Go.st (fun _ => XS.icmpYes W0.here W0.ex rfl (pc0 := 105) (pc' := 115) rfl (hb hby d33_105) rfl (tlt (z32 : c < (32 : Int32))).1 (by decide) (by decide)) ?_
                  show Go _ _ _ _ (T0.setTop (mkF m_ 115 #[.val (.ref j), .val (.int c), .val (.int (Int32.ofNat bs.length)), .val (.int (Int32.ofNat bs.length)), .unset] []))
                  exact esc_u cx j b bs c h ((W0.more (by decide) (by decide)).sub (allS (List.mem_of_getElem? (i := 0) rfl) all0)) hby hml hret hnm E_j F_bytes_j V_b g_b hl hC (Ec_u ⟨z34, z92, z8, z9, z10, z12, z13⟩ (Or.inl z32)) K0
                · refine Go.st (fun _ => XS.icmpNo W0.here W0.ex rfl (hb hby d33_105) rfl (flt (z32 : ¬ (c < (32 : Int32)))).1) ?_
                  refine Go.st (fun _ => XS.iloadN W0.here W0.ex rfl (hb hby d33_108) rfl) ?_
                  show Go _ _ _ _ (T0.setTop (mkF m_ 109 #[.val (.ref j), .val (.int c), .val (.int (Int32.ofNat bs.length)), .val (.int (Int32.ofNat bs.length)), .unset] [(.int c)]))
                  refine W0.callS (y := (⟨"java/lang/Character", "isSurrogate", "(C)Z"⟩ : MethodName)) (cx.w 155 rfl) (cx.w 156 rfl) (cx.w 157 rfl) (cx.w 158 rfl) (by decide) (ct_sur cx W0.old c) all0 (by decide) (Wd := 0) (by decide) (k' := 0) (n' := 0) rfl rfl (by decide) (by decide) (by rw [hml]; rfl) (argsL := [(.int c)]) (rest := []) rfl (lenOf pd21 rfl) rfl (Nat.le_of_eq rfl) (hb hby d33_109) ?_
                  intro v39 vm39 T39 h39 L39 W39 q39
                  rcases q39 with ⟨rfl, hs1, hs2, eh_⟩ | ⟨rfl, hs, eh_⟩
                  · show Go _ _ _ _ (T39.setTop (mkF m_ 112 #[.val (.ref j), .val (.int c), .val (.int (Int32.ofNat bs.length)), .val (.int (Int32.ofNat bs.length)), .unset] [(.int (1 : Int32))]))
                    subst h39
                    refine Go.st (fun _ => XS.ifNo W39.here W39.ex rfl (hb hby d33_112) rfl ((if0 _ _).trans (feq ((by decide) : ¬ ((1 : Int32) = (0 : Int32)))).1)) ?_
                    show Go _ _ _ _ (T39.setTop (mkF m_ 115 #[.val (.ref j), .val (.int c), .val (.int (Int32.ofNat bs.length)), .val (.int (Int32.ofNat bs.length)), .unset] []))
                    exact esc_u cx j b bs c h ((W39.more (by decide) (by decide)).sub (allS (List.mem_of_getElem? (i := 0) rfl) all0)) hby hml hret hnm E_j F_bytes_j V_b g_b hl hC (Ec_u ⟨z34, z92, z8, z9, z10, z12, z13⟩ (issur hs1 hs2)) K0
                  · show Go _ _ _ _ (T39.setTop (mkF m_ 112 #[.val (.ref j), .val (.int c), .val (.int (Int32.ofNat bs.length)), .val (.int (Int32.ofNat bs.length)), .unset] [(.int (0 : Int32))]))
                    subst h39
                    refine Go.st (fun _ => XS.ifYes W39.here W39.ex rfl (pc0 := 112) (pc' := 175) rfl (hb hby d33_112) rfl ((if0 _ _).trans (teq (rfl : (0 : Int32) = (0 : Int32))).1) (by decide) (by decide)) ?_
                    refine Go.st (fun _ => XS.iloadN W39.here W39.ex rfl (hb hby d33_175) rfl) ?_
                    show Go _ _ _ _ (T39.setTop (mkF m_ 176 #[.val (.ref j), .val (.int c), .val (.int (Int32.ofNat bs.length)), .val (.int (Int32.ofNat bs.length)), .unset] [(.int c)]))
                    refine Go.st (fun _ => XS.sipush W39.here W39.ex rfl (hb hby d33_176)) ?_
                    show Go _ _ _ _ (T39.setTop (mkF m_ 179 #[.val (.ref j), .val (.int c), .val (.int (Int32.ofNat bs.length)), .val (.int (Int32.ofNat bs.length)), .unset] [(.int (2048 : Int32)), (.int c)]))
                    by_cases z2k : c < (2048 : Int32)
                    · refine Go.st (fun _ => XS.icmpNo W39.here W39.ex rfl (hb hby d33_179) rfl (tlt (z2k : c < (2048 : Int32))).2.1) ?_
                      refine Go.st (fun _ => XS.aloadN W39.here W39.ex rfl (hb hby d33_182) rfl rfl) ?_
                      show Go _ _ _ _ (T39.setTop (mkF m_ 183 #[.val (.ref j), .val (.int c), .val (.int (Int32.ofNat bs.length)), .val (.int (Int32.ofNat bs.length)), .unset] [(.ref j)]))
                      refine W39.getF (cx.w 38 rfl) Via.refl F_bytes_j (hb hby d33_183) ?_
                      intro T40 W40
                      refine Go.st (fun _ => XS.iloadN W40.here W40.ex rfl (hb hby d33_186) rfl) ?_
                      refine Go.st (fun _ => XS.iinc W40.here W40.ex rfl (hb hby d33_187) rfl (l' := #[.val (.ref j), .val (.int c), .val (.int (Int32.ofNat bs.length)), .val (.int ((Int32.ofNat bs.length) + (1 : Int32))), .unset]) rfl) ?_
                      show Go _ _ _ _ (T40.setTop (mkF m_ 190 #[.val (.ref j), .val (.int c), .val (.int (Int32.ofNat bs.length)), .val (.int ((Int32.ofNat bs.length) + (1 : Int32))), .unset] [(.int (Int32.ofNat bs.length)), (.ref b)]))
                      rw [show ((Int32.ofNat bs.length) + (1 : Int32)) = (Int32.ofNat (bs.length + 1)) from ofn_add _ 1]
                      refine Go.st (fun _ => XS.sipush W40.here W40.ex rfl (hb hby d33_190)) ?_
                      refine Go.st (fun _ => XS.iloadN W40.here W40.ex rfl (hb hby d33_193) rfl) ?_
                      show Go _ _ _ _ (T40.setTop (mkF m_ 194 #[.val (.ref j), .val (.int c), .val (.int (Int32.ofNat bs.length)), .val (.int (Int32.ofNat (bs.length + 1))), .unset] [(.int c), (.int (192 : Int32)), (.int (Int32.ofNat bs.length)), (.ref b)]))
                      refine Go.st (fun _ => XS.bipush W40.here W40.ex rfl (hb hby d33_194)) ?_
                      refine Go.st (fun _ => XS.ishr W40.here W40.ex rfl (hb hby d33_196) rfl) ?_
                      refine Go.st (fun _ => XS.ior W40.here W40.ex rfl (hb hby d33_197) rfl) ?_
                      show Go _ _ _ _ (T40.setTop (mkF m_ 198 #[.val (.ref j), .val (.int c), .val (.int (Int32.ofNat bs.length)), .val (.int (Int32.ofNat (bs.length + 1))), .unset] [(.int ((192 : Int32) ||| (c >>> ((6 : Int32) &&& 31)))), (.int (Int32.ofNat bs.length)), (.ref b)]))
                      refine Go.st (fun _ => XS.i2b W40.here W40.ex rfl (hb hby d33_198) rfl) ?_
                      show Go _ _ _ _ (T40.setTop (mkF m_ 199 #[.val (.ref j), .val (.int c), .val (.int (Int32.ofNat bs.length)), .val (.int (Int32.ofNat (bs.length + 1))), .unset] [(.int (((192 : Int32) ||| (c >>> ((6 : Int32) &&& 31))).toInt8.toInt32)), (.int (Int32.ofNat bs.length)), (.ref b)]))
                      refine W40.stA V_b (x := (((192 : Int32) ||| (c >>> ((6 : Int32) &&& 31))).toInt8.toInt32)) (n1 := bs.length) rfl (rmB0 (by omega)) (List.mem_of_getElem? (i := 0) rfl) g_b (hb hby d33_199) ?_
                      intro T41 h41 L41 sl41 vv41 W41 w41 V_new
                      have ne_j_b : j ≠ b := (Exa.neArv E_j V_b (cx.w 32 rfl))
                      replace E_j := E_j.wr w41
                      replace F_bytes_j := F_bytes_j.other w41 (Or.inl ne_j_b)
                      replace K0 := K0.wr w41 (Or.inl (List.mem_of_getElem? (i := 0) rfl))
                      rw [nar_byte] at V_new
                      replace V_b : Arv Z h41 b kb .byte (4096 : Int32) ((bs ++ [(((192 : Int32) ||| (c >>> ((6 : Int32) &&& 31))).toInt8.toInt32)]).map Value.int) (.int 0) := V_new
                      clear V_new
                      refine Go.st (fun _ => XS.aloadN W41.here W41.ex rfl (hb hby d33_200) rfl rfl) ?_
                      show Go _ _ _ _ (T41.setTop (mkF m_ 201 #[.val (.ref j), .val (.int c), .val (.int (Int32.ofNat bs.length)), .val (.int (Int32.ofNat (bs.length + 1))), .unset] [(.ref j)]))
                      refine W41.getF (cx.w 38 rfl) Via.refl F_bytes_j (hb hby d33_201) ?_
                      intro T42 W42
                      refine Go.st (fun _ => XS.iloadN W42.here W42.ex rfl (hb hby d33_204) rfl) ?_
                      refine Go.st (fun _ => XS.iinc W42.here W42.ex rfl (hb hby d33_205) rfl (l' := #[.val (.ref j), .val (.int c), .val (.int (Int32.ofNat bs.length)), .val (.int ((Int32.ofNat (bs.length + 1)) + (1 : Int32))), .unset]) rfl) ?_
                      show Go _ _ _ _ (T42.setTop (mkF m_ 208 #[.val (.ref j), .val (.int c), .val (.int (Int32.ofNat bs.length)), .val (.int ((Int32.ofNat (bs.length + 1)) + (1 : Int32))), .unset] [(.int (Int32.ofNat (bs.length + 1))), (.ref b)]))
                      rw [show ((Int32.ofNat (bs.length + 1)) + (1 : Int32)) = (Int32.ofNat (bs.length + 2)) from ofn_add _ 1]
                      refine Go.st (fun _ => XS.sipush W42.here W42.ex rfl (hb hby d33_208)) ?_
                      refine Go.st (fun _ => XS.iloadN W42.here W42.ex rfl (hb hby d33_211) rfl) ?_
                      show Go _ _ _ _ (T42.setTop (mkF m_ 212 #[.val (.ref j), .val (.int c), .val (.int (Int32.ofNat bs.length)), .val (.int (Int32.ofNat (bs.length + 2))), .unset] [(.int c), (.int (128 : Int32)), (.int (Int32.ofNat (bs.length + 1))), (.ref b)]))
                      refine Go.st (fun _ => XS.bipush W42.here W42.ex rfl (hb hby d33_212)) ?_
                      refine Go.st (fun _ => XS.iand W42.here W42.ex rfl (hb hby d33_214) rfl) ?_
                      refine Go.st (fun _ => XS.ior W42.here W42.ex rfl (hb hby d33_215) rfl) ?_
                      show Go _ _ _ _ (T42.setTop (mkF m_ 216 #[.val (.ref j), .val (.int c), .val (.int (Int32.ofNat bs.length)), .val (.int (Int32.ofNat (bs.length + 2))), .unset] [(.int ((128 : Int32) ||| (c &&& (63 : Int32)))), (.int (Int32.ofNat (bs.length + 1))), (.ref b)]))
                      refine Go.st (fun _ => XS.i2b W42.here W42.ex rfl (hb hby d33_216) rfl) ?_
                      show Go _ _ _ _ (T42.setTop (mkF m_ 217 #[.val (.ref j), .val (.int c), .val (.int (Int32.ofNat bs.length)), .val (.int (Int32.ofNat (bs.length + 2))), .unset] [(.int (((128 : Int32) ||| (c &&& (63 : Int32))).toInt8.toInt32)), (.int (Int32.ofNat (bs.length + 1))), (.ref b)]))
                      refine W42.stA V_b (x := (((128 : Int32) ||| (c &&& (63 : Int32))).toInt8.toInt32)) (n1 := (bs.length + 1)) (ln rfl) (rmB (k := 1) rfl (by omega)) (List.mem_of_getElem? (i := 0) rfl) g_b (hb hby d33_217) ?_
                      intro T43 h43 L43 sl43 vv43 W43 w43 V_new
                      replace E_j := E_j.wr w43
                      replace F_bytes_j := F_bytes_j.other w43 (Or.inl ne_j_b)
                      replace K0 := K0.wr w43 (Or.inl (List.mem_of_getElem? (i := 0) rfl))
                      rw [nar_byte] at V_new
                      replace V_b : Arv Z h43 b kb .byte (4096 : Int32) ((bs ++ [(((192 : Int32) ||| (c >>> ((6 : Int32) &&& 31))).toInt8.toInt32), (((128 : Int32) ||| (c &&& (63 : Int32))).toInt8.toInt32)]).map Value.int) (.int 0) := by rw [List.append_assoc] at V_new; exact V_new
                      clear V_new
                      refine Go.st (fun _ => XS.goto W43.here W43.ex rfl (pc0 := 218) (pc' := 278) rfl (hb hby d33_218) (by decide) (by decide)) ?_
                      refine Go.st (fun _ => XS.iloadN W43.here W43.ex rfl (hb hby d33_278) rfl) ?_
                      show Go _ _ _ _ (T43.setTop (mkF m_ 279 #[.val (.ref j), .val (.int c), .val (.int (Int32.ofNat bs.length)), .val (.int (Int32.ofNat (bs.length + 2))), .unset] [(.int (Int32.ofNat (bs.length + 2)))]))
                      have he : Ec c = [(((192 : Int32) ||| (c >>> ((6 : Int32) &&& 31))).toInt8.toInt32), (((128 : Int32) ||| (c &&& (63 : Int32))).toInt8.toInt32)] := by rw [o2 hC z2k, o63 hC.nn.1]; exact Ec_2 ⟨z34, z92, z8, z9, z10, z12, z13⟩ (nosur z32 hs) (fun q => hnp ⟨z32, q, z34, z92⟩) z2k
                      exact W43.retI hret (hb hby d33_279) (by decide) (by decide) fun vr_ cr_ => ⟨lnE he rfl, K0, by rw [he]; exact V_b⟩
                    · refine Go.st (fun _ => XS.icmpYes W39.here W39.ex rfl (pc0 := 179) (pc' := 221) rfl (hb hby d33_179) rfl (flt (z2k : ¬ (c < (2048 : Int32)))).2.1 (by decide) (by decide)) ?_
                      refine Go.st (fun _ => XS.aloadN W39.here W39.ex rfl (hb hby d33_221) rfl rfl) ?_
                      show Go _ _ _ _ (T39.setTop (mkF m_ 222 #[.val (.ref j), .val (.int c), .val (.int (Int32.ofNat bs.length)), .val (.int (Int32.ofNat bs.length)), .unset] [(.ref j)]))
                      refine W39.getF (cx.w 38 rfl) Via.refl F_bytes_j (hb hby d33_222) ?_
                      intro T44 W44
                      refine Go.st (fun _ => XS.iloadN W44.here W44.ex rfl (hb hby d33_225) rfl) ?_
                      refine Go.st (fun _ => XS.iinc W44.here W44.ex rfl (hb hby d33_226) rfl (l' := #[.val (.ref j), .val (.int c), .val (.int (Int32.ofNat bs.length)), .val (.int ((Int32.ofNat bs.length) + (1 : Int32))), .unset]) rfl) ?_
                      show Go _ _ _ _ (T44.setTop (mkF m_ 229 #[.val (.ref j), .val (.int c), .val (.int (Int32.ofNat bs.length)), .val (.int ((Int32.ofNat bs.length) + (1 : Int32))), .unset] [(.int (Int32.ofNat bs.length)), (.ref b)]))
                      rw [show ((Int32.ofNat bs.length) + (1 : Int32)) = (Int32.ofNat (bs.length + 1)) from ofn_add _ 1]
                      refine Go.st (fun _ => XS.sipush W44.here W44.ex rfl (hb hby d33_229)) ?_
                      refine Go.st (fun _ => XS.iloadN W44.here W44.ex rfl (hb hby d33_232) rfl) ?_
                      show Go _ _ _ _ (T44.setTop (mkF m_ 233 #[.val (.ref j), .val (.int c), .val (.int (Int32.ofNat bs.length)), .val (.int (Int32.ofNat (bs.length + 1))), .unset] [(.int c), (.int (224 : Int32)), (.int (Int32.ofNat bs.length)), (.ref b)]))
                      refine Go.st (fun _ => XS.bipush W44.here W44.ex rfl (hb hby d33_233)) ?_
                      refine Go.st (fun _ => XS.ishr W44.here W44.ex rfl (hb hby d33_235) rfl) ?_
                      refine Go.st (fun _ => XS.ior W44.here W44.ex rfl (hb hby d33_236) rfl) ?_
                      show Go _ _ _ _ (T44.setTop (mkF m_ 237 #[.val (.ref j), .val (.int c), .val (.int (Int32.ofNat bs.length)), .val (.int (Int32.ofNat (bs.length + 1))), .unset] [(.int ((224 : Int32) ||| (c >>> ((12 : Int32) &&& 31)))), (.int (Int32.ofNat bs.length)), (.ref b)]))
                      refine Go.st (fun _ => XS.i2b W44.here W44.ex rfl (hb hby d33_237) rfl) ?_
                      show Go _ _ _ _ (T44.setTop (mkF m_ 238 #[.val (.ref j), .val (.int c), .val (.int (Int32.ofNat bs.length)), .val (.int (Int32.ofNat (bs.length + 1))), .unset] [(.int (((224 : Int32) ||| (c >>> ((12 : Int32) &&& 31))).toInt8.toInt32)), (.int (Int32.ofNat bs.length)), (.ref b)]))
                      refine W44.stA V_b (x := (((224 : Int32) ||| (c >>> ((12 : Int32) &&& 31))).toInt8.toInt32)) (n1 := bs.length) rfl (rmB0 (by omega)) (List.mem_of_getElem? (i := 0) rfl) g_b (hb hby d33_238) ?_
                      intro T45 h45 L45 sl45 vv45 W45 w45 V_new
                      have ne_j_b : j ≠ b := (Exa.neArv E_j V_b (cx.w 32 rfl))
                      replace E_j := E_j.wr w45
                      replace F_bytes_j := F_bytes_j.other w45 (Or.inl ne_j_b)
                      replace K0 := K0.wr w45 (Or.inl (List.mem_of_getElem? (i := 0) rfl))
                      rw [nar_byte] at V_new
                      replace V_b : Arv Z h45 b kb .byte (4096 : Int32) ((bs ++ [(((224 : Int32) ||| (c >>> ((12 : Int32) &&& 31))).toInt8.toInt32)]).map Value.int) (.int 0) := V_new
                      clear V_new
                      refine Go.st (fun _ => XS.aloadN W45.here W45.ex rfl (hb hby d33_239) rfl rfl) ?_
                      show Go _ _ _ _ (T45.setTop (mkF m_ 240 #[.val (.ref j), .val (.int c), .val (.int (Int32.ofNat bs.length)), .val (.int (Int32.ofNat (bs.length + 1))), .unset] [(.ref j)]))
                      refine W45.getF (cx.w 38 rfl) Via.refl F_bytes_j (hb hby d33_240) ?_
                      intro T46 W46
                      refine Go.st (fun _ => XS.iloadN W46.here W46.ex rfl (hb hby d33_243) rfl) ?_
                      refine Go.st (fun _ => XS.iinc W46.here W46.ex rfl (hb hby d33_244) rfl (l' := #[.val (.ref j), .val (.int c), .val (.int (Int32.ofNat bs.length)), .val (.int ((Int32.ofNat (bs.length + 1)) + (1 : Int32))), .unset]) rfl) ?_
                      show Go _ _ _ _ (T46.setTop (mkF m_ 247 #[.val (.ref j), .val (.int c), .val (.int (Int32.ofNat bs.length)), .val (.int ((Int32.ofNat (bs.length + 1)) + (1 : Int32))), .unset] [(.int (Int32.ofNat (bs.length + 1))), (.ref b)]))
                      rw [show ((Int32.ofNat (bs.length + 1)) + (1 : Int32)) = (Int32.ofNat (bs.length + 2)) from ofn_add _ 1]
                      refine Go.st (fun _ => XS.sipush W46.here W46.ex rfl (hb hby d33_247)) ?_
                      refine Go.st (fun _ => XS.iloadN W46.here W46.ex rfl (hb hby d33_250) rfl) ?_
                      show Go _ _ _ _ (T46.setTop (mkF m_ 251 #[.val (.ref j), .val (.int c), .val (.int (Int32.ofNat bs.length)), .val (.int (Int32.ofNat (bs.length + 2))), .unset] [(.int c), (.int (128 : Int32)), (.int (Int32.ofNat (bs.length + 1))), (.ref b)]))
                      refine Go.st (fun _ => XS.bipush W46.here W46.ex rfl (hb hby d33_251)) ?_
                      refine Go.st (fun _ => XS.ishr W46.here W46.ex rfl (hb hby d33_253) rfl) ?_
                      refine Go.st (fun _ => XS.bipush W46.here W46.ex rfl (hb hby d33_254)) ?_
                      show Go _ _ _ _ (T46.setTop (mkF m_ 256 #[.val (.ref j), .val (.int c), .val (.int (Int32.ofNat bs.length)), .val (.int (Int32.ofNat (bs.length + 2))), .unset] [(.int (63 : Int32)), (.int (c >>> ((6 : Int32) &&& 31))), (.int (128 : Int32)), (.int (Int32.ofNat (bs.length + 1))), (.ref b)]))
                      refine Go.st (fun _ => XS.iand W46.here W46.ex rfl (hb hby d33_256) rfl) ?_
                      refine Go.st (fun _ => XS.ior W46.here W46.ex rfl (hb hby d33_257) rfl) ?_
                      refine Go.st (fun _ => XS.i2b W46.here W46.ex rfl (hb hby d33_258) rfl) ?_
                      show Go _ _ _ _ (T46.setTop (mkF m_ 259 #[.val (.ref j), .val (.int c), .val (.int (Int32.ofNat bs.length)), .val (.int (Int32.ofNat (bs.length + 2))), .unset] [(.int (((128 : Int32) ||| ((c >>> ((6 : Int32) &&& 31)) &&& (63 : Int32))).toInt8.toInt32)), (.int (Int32.ofNat (bs.length + 1))), (.ref b)]))
                      refine W46.stA V_b (x := (((128 : Int32) ||| ((c >>> ((6 : Int32) &&& 31)) &&& (63 : Int32))).toInt8.toInt32)) (n1 := (bs.length + 1)) (ln rfl) (rmB (k := 1) rfl (by omega)) (List.mem_of_getElem? (i := 0) rfl) g_b (hb hby d33_259) ?_
                      intro T47 h47 L47 sl47 vv47 W47 w47 V_new
                      replace E_j := E_j.wr w47
                      replace F_bytes_j := F_bytes_j.other w47 (Or.inl ne_j_b)
                      replace K0 := K0.wr w47 (Or.inl (List.mem_of_getElem? (i := 0) rfl))
                      rw [nar_byte] at V_new
                      replace V_b : Arv Z h47 b kb .byte (4096 : Int32) ((bs ++ [(((224 : Int32) ||| (c >>> ((12 : Int32) &&& 31))).toInt8.toInt32), (((128 : Int32) ||| ((c >>> ((6 : Int32) &&& 31)) &&& (63 : Int32))).toInt8.toInt32)]).map Value.int) (.int 0) := by rw [List.append_assoc] at V_new; exact V_new
                      clear V_new
                      refine Go.st (fun _ => XS.aloadN W47.here W47.ex rfl (hb hby d33_260) rfl rfl) ?_
                      show Go _ _ _ _ (T47.setTop (mkF m_ 261 #[.val (.ref j), .val (.int c), .val (.int (Int32.ofNat bs.length)), .val (.int (Int32.ofNat (bs.length + 2))), .unset] [(.ref j)]))
                      refine W47.getF (cx.w 38 rfl) Via.refl F_bytes_j (hb hby d33_261) ?_
                      intro T48 W48
                      refine Go.st (fun _ => XS.iloadN W48.here W48.ex rfl (hb hby d33_264) rfl) ?_
                      refine Go.st (fun _ => XS.iinc W48.here W48.ex rfl (hb hby d33_265) rfl (l' := #[.val (.ref j), .val (.int c), .val (.int (Int32.ofNat bs.length)), .val (.int ((Int32.ofNat (bs.length + 2)) + (1 : Int32))), .unset]) rfl) ?_
                      show Go _ _ _ _ (T48.setTop (mkF m_ 268 #[.val (.ref j), .val (.int c), .val (.int (Int32.ofNat bs.length)), .val (.int ((Int32.ofNat (bs.length + 2)) + (1 : Int32))), .unset] [(.int (Int32.ofNat (bs.length + 2))), (.ref b)]))
                      rw [show ((Int32.ofNat (bs.length + 2)) + (1 : Int32)) = (Int32.ofNat (bs.length + 3)) from ofn_add _ 1]
                      refine Go.st (fun _ => XS.sipush W48.here W48.ex rfl (hb hby d33_268)) ?_
                      refine Go.st (fun _ => XS.iloadN W48.here W48.ex rfl (hb hby d33_271) rfl) ?_
                      show Go _ _ _ _ (T48.setTop (mkF m_ 272 #[.val (.ref j), .val (.int c), .val (.int (Int32.ofNat bs.length)), .val (.int (Int32.ofNat (bs.length + 3))), .unset] [(.int c), (.int (128 : Int32)), (.int (Int32.ofNat (bs.length + 2))), (.ref b)]))
                      refine Go.st (fun _ => XS.bipush W48.here W48.ex rfl (hb hby d33_272)) ?_
                      refine Go.st (fun _ => XS.iand W48.here W48.ex rfl (hb hby d33_274) rfl) ?_
                      refine Go.st (fun _ => XS.ior W48.here W48.ex rfl (hb hby d33_275) rfl) ?_
                      show Go _ _ _ _ (T48.setTop (mkF m_ 276 #[.val (.ref j), .val (.int c), .val (.int (Int32.ofNat bs.length)), .val (.int (Int32.ofNat (bs.length + 3))), .unset] [(.int ((128 : Int32) ||| (c &&& (63 : Int32)))), (.int (Int32.ofNat (bs.length + 2))), (.ref b)]))
                      refine Go.st (fun _ => XS.i2b W48.here W48.ex rfl (hb hby d33_276) rfl) ?_
                      show Go _ _ _ _ (T48.setTop (mkF m_ 277 #[.val (.ref j), .val (.int c), .val (.int (Int32.ofNat bs.length)), .val (.int (Int32.ofNat (bs.length + 3))), .unset] [(.int (((128 : Int32) ||| (c &&& (63 : Int32))).toInt8.toInt32)), (.int (Int32.ofNat (bs.length + 2))), (.ref b)]))
                      refine W48.stA V_b (x := (((128 : Int32) ||| (c &&& (63 : Int32))).toInt8.toInt32)) (n1 := (bs.length + 2)) (ln rfl) (rmB (k := 2) rfl (by omega)) (List.mem_of_getElem? (i := 0) rfl) g_b (hb hby d33_277) ?_
                      intro T49 h49 L49 sl49 vv49 W49 w49 V_new
                      replace E_j := E_j.wr w49
                      replace F_bytes_j := F_bytes_j.other w49 (Or.inl ne_j_b)
                      replace K0 := K0.wr w49 (Or.inl (List.mem_of_getElem? (i := 0) rfl))
                      rw [nar_byte] at V_new
                      replace V_b : Arv Z h49 b kb .byte (4096 : Int32) ((bs ++ [(((224 : Int32) ||| (c >>> ((12 : Int32) &&& 31))).toInt8.toInt32), (((128 : Int32) ||| ((c >>> ((6 : Int32) &&& 31)) &&& (63 : Int32))).toInt8.toInt32), (((128 : Int32) ||| (c &&& (63 : Int32))).toInt8.toInt32)]).map Value.int) (.int 0) := by rw [List.append_assoc] at V_new; exact V_new
                      clear V_new
                      refine Go.st (fun _ => XS.iloadN W49.here W49.ex rfl (hb hby d33_278) rfl) ?_
                      show Go _ _ _ _ (T49.setTop (mkF m_ 279 #[.val (.ref j), .val (.int c), .val (.int (Int32.ofNat bs.length)), .val (.int (Int32.ofNat (bs.length + 3))), .unset] [(.int (Int32.ofNat (bs.length + 3)))]))
                      have he : Ec c = [(((224 : Int32) ||| (c >>> ((12 : Int32) &&& 31))).toInt8.toInt32), (((128 : Int32) ||| ((c >>> ((6 : Int32) &&& 31)) &&& (63 : Int32))).toInt8.toInt32), (((128 : Int32) ||| (c &&& (63 : Int32))).toInt8.toInt32)] := by rw [o3 hC, o33 hC, o63 hC.nn.1]; exact Ec_3 ⟨z34, z92, z8, z9, z10, z12, z13⟩ (nosur z32 hs) (fun q => hnp ⟨z32, q, z34, z92⟩) z2k
                      exact W49.retI hret (hb hby d33_279) (by decide) (by decide) fun vr_ cr_ => ⟨lnE he rfl, K0, by rw [he]; exact V_b⟩
theorem quo_2 {l : Launch} {Z a0 n0 g1 gf hxa khx} (cx : Ctx Z a0 n0 g1 gf hxa khx) {p_ : Program} {e_ : Env} {s_ : State} {m_ : MethodId} {ar_ : Array Value} {bl_ : List Frame} {mt_ : Method} {c_ : Code} {vm0 : Vm} {T0 : State} {h : Heap} {L0 : List Loc} (j b : Addr) (bs us : List Int32) (q t : Addr) (x y : Int32) (h00 : Heap) (cc : Int32) {kb : ClassId} (W0 : Wk p_ l e_ ({ frames := 6, cells := 4, slots := 56, locals := 84 } : Room) s_ m_ ar_ bl_ mt_ c_ Z a0 consts_1 n0 "com/example/dijtabla/dijtabla/JsonText" vm0 T0 h L0 4 56 [j, b]) (hby : c_.code = prog_10_method_15_code) (hml : c_.maxLocals = 7) (hret : mt_.sig.returnType = none) (hnm : mt_.name = "quoted") (E_j : Exa Z h j "com/example/dijtabla/dijtabla/JsonText") (F_bytes_j : Fld Z h j "com/example/dijtabla/dijtabla/JsonText" "bytes" "[B" (.ref b)) (F_length_j : Fld Z h j "com/example/dijtabla/dijtabla/JsonText" "length" "I" (.int (Int32.ofNat bs.length))) (F_first_j : Fld Z h j "com/example/dijtabla/dijtabla/JsonText" "first" "Z" (.int 0)) (V_b : Arv Z h b kb .byte 4096 (us.map Value.int) (.int 0)) (g_j : n0 ≤ j) (g_b : n0 ≤ b) (S_q : Str2 Z h q t x y) (ne_t_b : t ≠ b) (ne_q_b : q ≠ b) (hX : R16 x) (hY : R16 y) (hu : us = bs ++ [34] ++ Ec x ++ Ec y) (hl : bs.length ≤ 100) (K0 : Keep h00 h [j, b]) :
    Go p_ e_ bl_ (Pst Z consts_1 n0 s_ ({ frames := 6, cells := 4, slots := 56, locals := 84 } : Room).cells ({ frames := 6, cells := 4, slots := 56, locals := 84 } : Room).slots (fun v _ h' => v = none ∧ Keep h00 h' [j, b] ∧ JT Z h' j b kb (bs ++ [34] ++ Ec x ++ Ec y ++ [34]) 0)) (T0.setTop (mkF m_ 107 #[.val (.ref j), .val (.ref q), .val (.int (0 : Int32)), .val (.ref b), .val (.int (Int32.ofNat us.length)), .val (.int (1 : Int32)), .val (.int cc)] [])) := by
  have ne_b_j : b ≠ j := (Ne.symm (Exa.neArv E_j V_b (cx.w 32 rfl)))
  have ne_q_j : q ≠ j := (Ne.symm (Ne.symm (S_q.neC E_j (by decide))))
  have ne_t_j : t ≠ j := (Ne.symm (Ne.symm (S_q.neT E_j (cx.w 32 rfl))))
  show Go _ _ _ _ (T0.setTop (mkF m_ 107 #[.val (.ref j), .val (.ref q), .val (.int (0 : Int32)), .val (.ref b), .val (.int (Int32.ofNat us.length)), .val (.int (1 : Int32)), .val (.int cc)] []))
  have hm : us.length ≤ 120 := by have e1 := Ec_len x; have e2 := Ec_len y; rw [hu]; simp only [List.length_append, List.length_cons, List.length_nil]; omega
  refine Go.st (fun _ => XS.iinc W0.here W0.ex rfl (hb hby d23_107) rfl (l' := #[.val (.ref j), .val (.ref q), .val (.int (0 : Int32)), .val (.ref b), .val (.int (Int32.ofNat us.length)), .val (.int (2 : Int32)), .val (.int cc)]) rfl) ?_
  refine Go.st (fun _ => XS.goto W0.here W0.ex rfl (pc0 := 110) (pc' := 38) rfl (hb hby d23_110) (by decide) (by decide)) ?_
  show Go _ _ _ _ (T0.setTop (mkF m_ 38 #[.val (.ref j), .val (.ref q), .val (.int (0 : Int32)), .val (.ref b), .val (.int (Int32.ofNat us.length)), .val (.int (2 : Int32)), .val (.int cc)] []))
  refine Go.st (fun _ => XS.iload W0.here W0.ex rfl (hb hby d23_38) rfl) ?_
  refine Go.st (fun _ => XS.aloadN W0.here W0.ex rfl (hb hby d23_40) rfl rfl) ?_
  show Go _ _ _ _ (T0.setTop (mkF m_ 41 #[.val (.ref j), .val (.ref q), .val (.int (0 : Int32)), .val (.ref b), .val (.int (Int32.ofNat us.length)), .val (.int (2 : Int32)), .val (.int cc)] [(.ref q), (.int (2 : Int32))]))
  have E_q := S_q.E
  refine W0.callV (y := Y26) (z := Y26) (cx.w 114 rfl) (cx.w 115 rfl) (cx.w 117 rfl) (cx.w 116 rfl) (cx.w 4 rfl) (cx.w 118 rfl) (W0.nf (cx.w 117 rfl)) (by decide) E_q (ct_lenS cx W0.old q t x y S_q) all0 (by decide) (Wd := 1) (by decide) (k' := 4) (n' := 56) rfl rfl (by decide) (by decide) (by rw [hml]; rfl) (a := q) (argsL := []) (rest := [(.int (2 : Int32))]) rfl (lenOf pd18 rfl) rfl (Nat.le_of_eq rfl) (hb hby d23_41) ?_
  intro v1 vm1 T1 h1 L1 W1 q1
  obtain ⟨rfl, eh_⟩ := q1
  subst h1
  refine Go.st (fun _ => XS.icmpYes W1.here W1.ex rfl (pc0 := 44) (pc' := 113) rfl (hb hby d23_44) rfl (flt ((by decide) : ¬ ((2 : Int32) < (2 : Int32)))).2.1 (by decide) (by decide)) ?_
  refine Go.st (fun _ => XS.aloadN W1.here W1.ex rfl (hb hby d23_113) rfl rfl) ?_
  refine Go.st (fun _ => XS.iload W1.here W1.ex rfl (hb hby d23_114) rfl) ?_
  show Go _ _ _ _ (T1.setTop (mkF m_ 116 #[.val (.ref j), .val (.ref q), .val (.int (0 : Int32)), .val (.ref b), .val (.int (Int32.ofNat us.length)), .val (.int (2 : Int32)), .val (.int cc)] [(.int (Int32.ofNat us.length)), (.ref b)]))
  refine Go.st (fun _ => XS.iinc W1.here W1.ex rfl (hb hby d23_116) rfl (l' := #[.val (.ref j), .val (.ref q), .val (.int (0 : Int32)), .val (.ref b), .val (.int ((Int32.ofNat us.length) + (1 : Int32))), .val (.int (2 : Int32)), .val (.int cc)]) rfl) ?_
  show Go _ _ _ _ (T1.setTop (mkF m_ 119 #[.val (.ref j), .val (.ref q), .val (.int (0 : Int32)), .val (.ref b), .val (.int ((Int32.ofNat us.length) + (1 : Int32))), .val (.int (2 : Int32)), .val (.int cc)] [(.int (Int32.ofNat us.length)), (.ref b)]))
  rw [show ((Int32.ofNat us.length) + (1 : Int32)) = (Int32.ofNat (us.length + 1)) from ofn_add _ 1]
  refine Go.st (fun _ => XS.bipush W1.here W1.ex rfl (hb hby d23_119)) ?_
  show Go _ _ _ _ (T1.setTop (mkF m_ 121 #[.val (.ref j), .val (.ref q), .val (.int (0 : Int32)), .val (.ref b), .val (.int (Int32.ofNat (us.length + 1))), .val (.int (2 : Int32)), .val (.int cc)] [(.int (34 : Int32)), (.int (Int32.ofNat us.length)), (.ref b)]))
  refine W1.stA V_b (x := (34 : Int32)) (n1 := us.length) rfl (rmB0 (by omega)) (List.mem_of_getElem? (i := 1) rfl) g_b (hb hby d23_121) ?_
  intro T2 h2 L2 sl2 vv2 W2 w2 V_new
  replace E_j := E_j.wr w2
  replace F_bytes_j := F_bytes_j.other w2 (Or.inl (Ne.symm ne_b_j))
  replace F_length_j := F_length_j.other w2 (Or.inl (Ne.symm ne_b_j))
  replace F_first_j := F_first_j.other w2 (Or.inl (Ne.symm ne_b_j))
  replace S_q := S_q.wr w2 ne_q_b ne_t_b
  replace K0 := K0.wr w2 (Or.inl (List.mem_of_getElem? (i := 1) rfl))
  replace V_b : Arv Z h2 b kb .byte (4096 : Int32) ((us ++ [(34 : Int32)]).map Value.int) (.int 0) := V_new
  clear V_new
  refine Go.st (fun _ => XS.aloadN W2.here W2.ex rfl (hb hby d23_122) rfl rfl) ?_
  refine Go.st (fun _ => XS.iload W2.here W2.ex rfl (hb hby d23_123) rfl) ?_
  show Go _ _ _ _ (T2.setTop (mkF m_ 125 #[.val (.ref j), .val (.ref q), .val (.int (0 : Int32)), .val (.ref b), .val (.int (Int32.ofNat (us.length + 1))), .val (.int (2 : Int32)), .val (.int cc)] [(.int (Int32.ofNat (us.length + 1))), (.ref j)]))
  refine W2.putF (cx.w 47 rfl) Via.refl F_length_j E_j (Or.inl (cx.w 48 rfl)) (cx.w 32 rfl) (ty := .int) (by decide) rfl rfl (List.mem_of_getElem? (i := 0) rfl) g_j (hb hby d23_125) ?_
  intro T3 h3 L3 W3 w3
  replace E_j := E_j.wr w3
  replace F_bytes_j := F_bytes_j.other w3 (Or.inr (slot_ne (Or.inl (cx.w 39 rfl)) (Or.inl (cx.w 48 rfl)) (by decide) (t := (.array .byte)) (t' := .int) (by decide) (by decide)))
  replace F_length_j := F_length_j.same w3
  replace F_first_j := F_first_j.other w3 (Or.inr (slot_ne (Or.inl (cx.w 41 rfl)) (Or.inl (cx.w 48 rfl)) (by decide) (t := .boolean) (t' := .int) (by decide) (by decide)))
  replace V_b := V_b.other w3 ne_b_j
  replace S_q := S_q.wr w3 ne_q_j ne_t_j
  replace K0 := K0.wr w3 (Or.inl (List.mem_of_getElem? (i := 0) rfl))
  show Go _ _ _ _ (T3.setTop (mkF m_ 128 #[.val (.ref j), .val (.ref q), .val (.int (0 : Int32)), .val (.ref b), .val (.int (Int32.ofNat (us.length + 1))), .val (.int (2 : Int32)), .val (.int cc)] []))
  subst hu
  exact W3.retV hret (hb hby d23_128) (by decide) (by decide) fun vr_ cr_ => ⟨rfl, K0, E_j, F_bytes_j, fld_ln F_length_j rfl, F_first_j, V_b⟩
theorem quo_1 {l : Launch} {Z a0 n0 g1 gf hxa khx} (cx : Ctx Z a0 n0 g1 gf hxa khx) {p_ : Program} {e_ : Env} {s_ : State} {m_ : MethodId} {ar_ : Array Value} {bl_ : List Frame} {mt_ : Method} {c_ : Code} {vm0 : Vm} {T0 : State} {h : Heap} {L0 : List Loc} (j b : Addr) (bs us : List Int32) (q t : Addr) (x y : Int32) (h00 : Heap) (cc : Int32) {kb : ClassId} (W0 : Wk p_ l e_ ({ frames := 6, cells := 4, slots := 56, locals := 84 } : Room) s_ m_ ar_ bl_ mt_ c_ Z a0 consts_1 n0 "com/example/dijtabla/dijtabla/JsonText" vm0 T0 h L0 2 28 [j, b]) (hby : c_.code = prog_10_method_15_code) (hml : c_.maxLocals = 7) (hret : mt_.sig.returnType = none) (hnm : mt_.name = "quoted") (E_j : Exa Z h j "com/example/dijtabla/dijtabla/JsonText") (F_bytes_j : Fld Z h j "com/example/dijtabla/dijtabla/JsonText" "bytes" "[B" (.ref b)) (F_length_j : Fld Z h j "com/example/dijtabla/dijtabla/JsonText" "length" "I" (.int (Int32.ofNat bs.length))) (F_first_j : Fld Z h j "com/example/dijtabla/dijtabla/JsonText" "first" "Z" (.int 0)) (V_b : Arv Z h b kb .byte 4096 (us.map Value.int) (.int 0)) (g_j : n0 ≤ j) (g_b : n0 ≤ b) (S_q : Str2 Z h q t x y) (ne_t_b : t ≠ b) (ne_q_b : q ≠ b) (hX : R16 x) (hY : R16 y) (hu : us = bs ++ [34] ++ Ec x) (hl : bs.length ≤ 100) (K0 : Keep h00 h [j, b]) :
    Go p_ e_ bl_ (Pst Z consts_1 n0 s_ ({ frames := 6, cells := 4, slots := 56, locals := 84 } : Room).cells ({ frames := 6, cells := 4, slots := 56, locals := 84 } : Room).slots (fun v _ h' => v = none ∧ Keep h00 h' [j, b] ∧ JT Z h' j b kb (bs ++ [34] ++ Ec x ++ Ec y ++ [34]) 0)) (T0.setTop (mkF m_ 107 #[.val (.ref j), .val (.ref q), .val (.int (0 : Int32)), .val (.ref b), .val (.int (Int32.ofNat us.length)), .val (.int (0 : Int32)), .val (.int cc)] [])) := by
  have ne_b_j : b ≠ j := (Ne.symm (Exa.neArv E_j V_b (cx.w 32 rfl)))
  have ne_q_j : q ≠ j := (Ne.symm (Ne.symm (S_q.neC E_j (by decide))))
  have ne_t_j : t ≠ j := (Ne.symm (Ne.symm (S_q.neT E_j (cx.w 32 rfl))))
  show Go _ _ _ _ (T0.setTop (mkF m_ 107 #[.val (.ref j), .val (.ref q), .val (.int (0 : Int32)), .val (.ref b), .val (.int (Int32.ofNat us.length)), .val (.int (0 : Int32)), .val (.int cc)] []))
  have hm : us.length ≤ 120 := by have e1 := Ec_len x; have e2 := Ec_len y; rw [hu]; simp only [List.length_append, List.length_cons, List.length_nil]; omega
  refine Go.st (fun _ => XS.iinc W0.here W0.ex rfl (hb hby d23_107) rfl (l' := #[.val (.ref j), .val (.ref q), .val (.int (0 : Int32)), .val (.ref b), .val (.int (Int32.ofNat us.length)), .val (.int (1 : Int32)), .val (.int cc)]) rfl) ?_
  refine Go.st (fun _ => XS.goto W0.here W0.ex rfl (pc0 := 110) (pc' := 38) rfl (hb hby d23_110) (by decide) (by decide)) ?_
  show Go _ _ _ _ (T0.setTop (mkF m_ 38 #[.val (.ref j), .val (.ref q), .val (.int (0 : Int32)), .val (.ref b), .val (.int (Int32.ofNat us.length)), .val (.int (1 : Int32)), .val (.int cc)] []))
  refine Go.st (fun _ => XS.iload W0.here W0.ex rfl (hb hby d23_38) rfl) ?_
  refine Go.st (fun _ => XS.aloadN W0.here W0.ex rfl (hb hby d23_40) rfl rfl) ?_
  show Go _ _ _ _ (T0.setTop (mkF m_ 41 #[.val (.ref j), .val (.ref q), .val (.int (0 : Int32)), .val (.ref b), .val (.int (Int32.ofNat us.length)), .val (.int (1 : Int32)), .val (.int cc)] [(.ref q), (.int (1 : Int32))]))
  have E_q := S_q.E
  refine W0.callV (y := Y26) (z := Y26) (cx.w 114 rfl) (cx.w 115 rfl) (cx.w 117 rfl) (cx.w 116 rfl) (cx.w 4 rfl) (cx.w 118 rfl) (W0.nf (cx.w 117 rfl)) (by decide) E_q (ct_lenS cx W0.old q t x y S_q) all0 (by decide) (Wd := 1) (by decide) (k' := 2) (n' := 28) rfl rfl (by decide) (by decide) (by rw [hml]; rfl) (a := q) (argsL := []) (rest := [(.int (1 : Int32))]) rfl (lenOf pd18 rfl) rfl (Nat.le_of_eq rfl) (hb hby d23_41) ?_
  intro v1 vm1 T1 h1 L1 W1 q1
  obtain ⟨rfl, eh_⟩ := q1
  subst h1
  refine Go.st (fun _ => XS.icmpNo W1.here W1.ex rfl (hb hby d23_44) rfl (tlt ((by decide) : (1 : Int32) < (2 : Int32))).2.1) ?_
  refine Go.st (fun _ => XS.aloadN W1.here W1.ex rfl (hb hby d23_47) rfl rfl) ?_
  refine Go.st (fun _ => XS.iload W1.here W1.ex rfl (hb hby d23_48) rfl) ?_
  show Go _ _ _ _ (T1.setTop (mkF m_ 50 #[.val (.ref j), .val (.ref q), .val (.int (0 : Int32)), .val (.ref b), .val (.int (Int32.ofNat us.length)), .val (.int (1 : Int32)), .val (.int cc)] [(.int (1 : Int32)), (.ref q)]))
  have E_q := S_q.E
  refine W1.callV (y := Y22) (z := Y22) (cx.w 124 rfl) (cx.w 125 rfl) (cx.w 127 rfl) (cx.w 126 rfl) (cx.w 4 rfl) (cx.w 128 rfl) (W1.nf (cx.w 127 rfl)) (by decide) E_q (ct_chS1 cx W1.old q t x y S_q hX hY) all0 (by decide) (Wd := 0) (by decide) (k' := 2) (n' := 28) rfl rfl (by decide) (by decide) (by rw [hml]; rfl) (a := q) (argsL := [(.int (1 : Int32))]) (rest := []) rfl (lenOf pd19 rfl) rfl (Nat.le_of_eq rfl) (hb hby d23_50) ?_
  intro v2 vm2 T2 h2 L2 W2 q2
  obtain ⟨rfl, eh_⟩ := q2
  subst h2
  refine Go.st (fun _ => XS.istore W2.here W2.ex rfl (hb hby d23_53) rfl (l' := #[.val (.ref j), .val (.ref q), .val (.int (0 : Int32)), .val (.ref b), .val (.int (Int32.ofNat us.length)), .val (.int (1 : Int32)), .val (.int y)]) rfl) ?_
  refine Go.st (fun _ => XS.iload W2.here W2.ex rfl (hb hby d23_55) rfl) ?_
  refine Go.st (fun _ => XS.bipush W2.here W2.ex rfl (hb hby d23_57)) ?_
  show Go _ _ _ _ (T2.setTop (mkF m_ 59 #[.val (.ref j), .val (.ref q), .val (.int (0 : Int32)), .val (.ref b), .val (.int (Int32.ofNat us.length)), .val (.int (1 : Int32)), .val (.int y)] [(.int (32 : Int32)), (.int y)]))
  by_cases p32 : y < (32 : Int32)
  · refine Go.st (fun _ => XS.icmpYes W2.here W2.ex rfl (pc0 := 59) (pc' := 97) rfl (hb hby d23_59) rfl (tlt (p32 : y < (32 : Int32))).1 (by decide) (by decide)) ?_
    refine Go.st (fun _ => XS.aloadN W2.here W2.ex rfl (hb hby d23_97) rfl rfl) ?_
    show Go _ _ _ _ (T2.setTop (mkF m_ 98 #[.val (.ref j), .val (.ref q), .val (.int (0 : Int32)), .val (.ref b), .val (.int (Int32.ofNat us.length)), .val (.int (1 : Int32)), .val (.int y)] [(.ref j)]))
    refine Go.st (fun _ => XS.iload W2.here W2.ex rfl (hb hby d23_98) rfl) ?_
    refine Go.st (fun _ => XS.iload W2.here W2.ex rfl (hb hby d23_100) rfl) ?_
    show Go _ _ _ _ (T2.setTop (mkF m_ 102 #[.val (.ref j), .val (.ref q), .val (.int (0 : Int32)), .val (.ref b), .val (.int (Int32.ofNat us.length)), .val (.int (1 : Int32)), .val (.int y)] [(.int (Int32.ofNat us.length)), (.int y), (.ref j)]))
    refine W2.callP (y := Y4) (cx.w 151 rfl) (cx.w 153 rfl) (selP (y' := Y1) (cx.w 45 rfl) rfl (cx.w 153 rfl) (cx.w 152 rfl) (by decide)) (cx.w 152 rfl) (cx.w 33 rfl) (cx.w 154 rfl) (by decide) E_j (ct_esc cx W2.old j b us y E_j F_bytes_j V_b g_b (by omega) hY (fun q => q.1 p32)) (allS (List.mem_of_getElem? (i := 1) rfl) all0) (by decide) (Wd := 0) (by decide) (k' := 4) (n' := 56) rfl rfl (by decide) (by decide) (by rw [hml]; rfl) (a := j) (argsL := [(.int y), (.int (Int32.ofNat us.length))]) (rest := []) rfl (lenOf pd22 rfl) rfl (Nat.le_of_eq rfl) (hb hby d23_102) ?_
    intro v3 vm3 T3 h3 L3 W3 q3
    obtain ⟨rfl, Ke, V_b⟩ := q3
    replace E_j := E_j.keep Ke
    replace F_bytes_j := F_bytes_j.keep Ke (ninS (Ne.symm ne_b_j) nin0)
    replace F_length_j := F_length_j.keep Ke (ninS (Ne.symm ne_b_j) nin0)
    replace F_first_j := F_first_j.keep Ke (ninS (Ne.symm ne_b_j) nin0)
    replace S_q := S_q.keep Ke (ninS ne_q_b nin0) (ninS ne_t_b nin0)
    replace K0 := K0.trans Ke (allS (Or.inl (List.mem_of_getElem? (i := 1) rfl)) all0)
    refine Go.st (fun _ => XS.istore W3.here W3.ex rfl (hb hby d23_105) rfl (l' := #[.val (.ref j), .val (.ref q), .val (.int (0 : Int32)), .val (.ref b), .val (.int (Int32.ofNat (us ++ Ec y).length)), .val (.int (1 : Int32)), .val (.int y)]) rfl) ?_
    show Go _ _ _ _ (T3.setTop (mkF m_ 107 #[.val (.ref j), .val (.ref q), .val (.int (0 : Int32)), .val (.ref b), .val (.int (Int32.ofNat (us ++ Ec y).length)), .val (.int (1 : Int32)), .val (.int y)] []))
    exact quo_2 cx j b bs (us ++ Ec y) q t x y h00 y ((W3.more (by decide) (by decide)).sub (allS (List.mem_of_getElem? (i := 0) rfl) (allS (List.mem_of_getElem? (i := 1) rfl) all0))) hby hml hret hnm E_j F_bytes_j F_length_j F_first_j V_b g_j g_b S_q ne_t_b ne_q_b hX hY (by rw [hu]) hl K0
  · refine Go.st (fun _ => XS.icmpNo W2.here W2.ex rfl (hb hby d23_59) rfl (flt (p32 : ¬ (y < (32 : Int32)))).1) ?_
    refine Go.st (fun _ => XS.iload W2.here W2.ex rfl (hb hby d23_62) rfl) ?_
    show Go _ _ _ _ (T2.setTop (mkF m_ 64 #[.val (.ref j), .val (.ref q), .val (.int (0 : Int32)), .val (.ref b), .val (.int (Int32.ofNat us.length)), .val (.int (1 : Int32)), .val (.int y)] [(.int y)]))
    refine Go.st (fun _ => XS.sipush W2.here W2.ex rfl (hb hby d23_64)) ?_
    show Go _ _ _ _ (T2.setTop (mkF m_ 67 #[.val (.ref j), .val (.ref q), .val (.int (0 : Int32)), .val (.ref b), .val (.int (Int32.ofNat us.length)), .val (.int (1 : Int32)), .val (.int y)] [(.int (128 : Int32)), (.int y)]))
    by_cases p128 : y < (128 : Int32)
    · refine Go.st (fun _ => XS.icmpNo W2.here W2.ex rfl (hb hby d23_67) rfl (tlt (p128 : y < (128 : Int32))).2.1) ?_
      refine Go.st (fun _ => XS.iload W2.here W2.ex rfl (hb hby d23_70) rfl) ?_
      show Go _ _ _ _ (T2.setTop (mkF m_ 72 #[.val (.ref j), .val (.ref q), .val (.int (0 : Int32)), .val (.ref b), .val (.int (Int32.ofNat us.length)), .val (.int (1 : Int32)), .val (.int y)] [(.int y)]))
      refine Go.st (fun _ => XS.bipush W2.here W2.ex rfl (hb hby d23_72)) ?_
      show Go _ _ _ _ (T2.setTop (mkF m_ 74 #[.val (.ref j), .val (.ref q), .val (.int (0 : Int32)), .val (.ref b), .val (.int (Int32.ofNat us.length)), .val (.int (1 : Int32)), .val (.int y)] [(.int (34 : Int32)), (.int y)]))
      by_cases p34 : y = (34 : Int32)
      · refine Go.st (fun _ => XS.icmpYes W2.here W2.ex rfl (pc0 := 74) (pc' := 97) rfl (hb hby d23_74) rfl (teq (p34 : y = (34 : Int32))).1 (by decide) (by decide)) ?_
        refine Go.st (fun _ => XS.aloadN W2.here W2.ex rfl (hb hby d23_97) rfl rfl) ?_
        show Go _ _ _ _ (T2.setTop (mkF m_ 98 #[.val (.ref j), .val (.ref q), .val (.int (0 : Int32)), .val (.ref b), .val (.int (Int32.ofNat us.length)), .val (.int (1 : Int32)), .val (.int y)] [(.ref j)]))
        refine Go.st (fun _ => XS.iload W2.here W2.ex rfl (hb hby d23_98) rfl) ?_
        refine Go.st (fun _ => XS.iload W2.here W2.ex rfl (hb hby d23_100) rfl) ?_
        show Go _ _ _ _ (T2.setTop (mkF m_ 102 #[.val (.ref j), .val (.ref q), .val (.int (0 : Int32)), .val (.ref b), .val (.int (Int32.ofNat us.length)), .val (.int (1 : Int32)), .val (.int y)] [(.int (Int32.ofNat us.length)), (.int y), (.ref j)]))
        refine W2.callP (y := Y4) (cx.w 151 rfl) (cx.w 153 rfl) (selP (y' := Y1) (cx.w 45 rfl) rfl (cx.w 153 rfl) (cx.w 152 rfl) (by decide)) (cx.w 152 rfl) (cx.w 33 rfl) (cx.w 154 rfl) (by decide) E_j (ct_esc cx W2.old j b us y E_j F_bytes_j V_b g_b (by omega) hY (fun q => q.2.2.1 p34)) (allS (List.mem_of_getElem? (i := 1) rfl) all0) (by decide) (Wd := 0) (by decide) (k' := 4) (n' := 56) rfl rfl (by decide) (by decide) (by rw [hml]; rfl) (a := j) (argsL := [(.int y), (.int (Int32.ofNat us.length))]) (rest := []) rfl (lenOf pd22 rfl) rfl (Nat.le_of_eq rfl) (hb hby d23_102) ?_
        intro v5 vm5 T5 h5 L5 W5 q5
        obtain ⟨rfl, Ke, V_b⟩ := q5
        replace E_j := E_j.keep Ke
        replace F_bytes_j := F_bytes_j.keep Ke (ninS (Ne.symm ne_b_j) nin0)
        replace F_length_j := F_length_j.keep Ke (ninS (Ne.symm ne_b_j) nin0)
        replace F_first_j := F_first_j.keep Ke (ninS (Ne.symm ne_b_j) nin0)
        replace S_q := S_q.keep Ke (ninS ne_q_b nin0) (ninS ne_t_b nin0)
        replace K0 := K0.trans Ke (allS (Or.inl (List.mem_of_getElem? (i := 1) rfl)) all0)
        refine Go.st (fun _ => XS.istore W5.here W5.ex rfl (hb hby d23_105) rfl (l' := #[.val (.ref j), .val (.ref q), .val (.int (0 : Int32)), .val (.ref b), .val (.int (Int32.ofNat (us ++ Ec y).length)), .val (.int (1 : Int32)), .val (.int y)]) rfl) ?_
        show Go _ _ _ _ (T5.setTop (mkF m_ 107 #[.val (.ref j), .val (.ref q), .val (.int (0 : Int32)), .val (.ref b), .val (.int (Int32.ofNat (us ++ Ec y).length)), .val (.int (1 : Int32)), .val (.int y)] []))
        exact quo_2 cx j b bs (us ++ Ec y) q t x y h00 y ((W5.more (by decide) (by decide)).sub (allS (List.mem_of_getElem? (i := 0) rfl) (allS (List.mem_of_getElem? (i := 1) rfl) all0))) hby hml hret hnm E_j F_bytes_j F_length_j F_first_j V_b g_j g_b S_q ne_t_b ne_q_b hX hY (by rw [hu]) hl K0
      · refine Go.st (fun _ => XS.icmpNo W2.here W2.ex rfl (hb hby d23_74) rfl (feq (p34 : ¬ (y = (34 : Int32)))).1) ?_
        refine Go.st (fun _ => XS.iload W2.here W2.ex rfl (hb hby d23_77) rfl) ?_
        show Go _ _ _ _ (T2.setTop (mkF m_ 79 #[.val (.ref j), .val (.ref q), .val (.int (0 : Int32)), .val (.ref b), .val (.int (Int32.ofNat us.length)), .val (.int (1 : Int32)), .val (.int y)] [(.int y)]))
        refine Go.st (fun _ => XS.bipush W2.here W2.ex rfl (hb hby d23_79)) ?_
        show Go _ _ _ _ (T2.setTop (mkF m_ 81 #[.val (.ref j), .val (.ref q), .val (.int (0 : Int32)), .val (.ref b), .val (.int (Int32.ofNat us.length)), .val (.int (1 : Int32)), .val (.int y)] [(.int (92 : Int32)), (.int y)]))
        by_cases p92 : y = (92 : Int32)
        · refine Go.st (fun _ => XS.icmpYes W2.here W2.ex rfl (pc0 := 81) (pc' := 97) rfl (hb hby d23_81) rfl (teq (p92 : y = (92 : Int32))).1 (by decide) (by decide)) ?_
          refine Go.st (fun _ => XS.aloadN W2.here W2.ex rfl (hb hby d23_97) rfl rfl) ?_
          show Go _ _ _ _ (T2.setTop (mkF m_ 98 #[.val (.ref j), .val (.ref q), .val (.int (0 : Int32)), .val (.ref b), .val (.int (Int32.ofNat us.length)), .val (.int (1 : Int32)), .val (.int y)] [(.ref j)]))
          refine Go.st (fun _ => XS.iload W2.here W2.ex rfl (hb hby d23_98) rfl) ?_
          refine Go.st (fun _ => XS.iload W2.here W2.ex rfl (hb hby d23_100) rfl) ?_
          show Go _ _ _ _ (T2.setTop (mkF m_ 102 #[.val (.ref j), .val (.ref q), .val (.int (0 : Int32)), .val (.ref b), .val (.int (Int32.ofNat us.length)), .val (.int (1 : Int32)), .val (.int y)] [(.int (Int32.ofNat us.length)), (.int y), (.ref j)]))
          refine W2.callP (y := Y4) (cx.w 151 rfl) (cx.w 153 rfl) (selP (y' := Y1) (cx.w 45 rfl) rfl (cx.w 153 rfl) (cx.w 152 rfl) (by decide)) (cx.w 152 rfl) (cx.w 33 rfl) (cx.w 154 rfl) (by decide) E_j (ct_esc cx W2.old j b us y E_j F_bytes_j V_b g_b (by omega) hY (fun q => q.2.2.2 p92)) (allS (List.mem_of_getElem? (i := 1) rfl) all0) (by decide) (Wd := 0) (by decide) (k' := 4) (n' := 56) rfl rfl (by decide) (by decide) (by rw [hml]; rfl) (a := j) (argsL := [(.int y), (.int (Int32.ofNat us.length))]) (rest := []) rfl (lenOf pd22 rfl) rfl (Nat.le_of_eq rfl) (hb hby d23_102) ?_
          intro v6 vm6 T6 h6 L6 W6 q6
          obtain ⟨rfl, Ke, V_b⟩ := q6
          replace E_j := E_j.keep Ke
          replace F_bytes_j := F_bytes_j.keep Ke (ninS (Ne.symm ne_b_j) nin0)
          replace F_length_j := F_length_j.keep Ke (ninS (Ne.symm ne_b_j) nin0)
          replace F_first_j := F_first_j.keep Ke (ninS (Ne.symm ne_b_j) nin0)
          replace S_q := S_q.keep Ke (ninS ne_q_b nin0) (ninS ne_t_b nin0)
          replace K0 := K0.trans Ke (allS (Or.inl (List.mem_of_getElem? (i := 1) rfl)) all0)
          refine Go.st (fun _ => XS.istore W6.here W6.ex rfl (hb hby d23_105) rfl (l' := #[.val (.ref j), .val (.ref q), .val (.int (0 : Int32)), .val (.ref b), .val (.int (Int32.ofNat (us ++ Ec y).length)), .val (.int (1 : Int32)), .val (.int y)]) rfl) ?_
          show Go _ _ _ _ (T6.setTop (mkF m_ 107 #[.val (.ref j), .val (.ref q), .val (.int (0 : Int32)), .val (.ref b), .val (.int (Int32.ofNat (us ++ Ec y).length)), .val (.int (1 : Int32)), .val (.int y)] []))
          exact quo_2 cx j b bs (us ++ Ec y) q t x y h00 y ((W6.more (by decide) (by decide)).sub (allS (List.mem_of_getElem? (i := 0) rfl) (allS (List.mem_of_getElem? (i := 1) rfl) all0))) hby hml hret hnm E_j F_bytes_j F_length_j F_first_j V_b g_j g_b S_q ne_t_b ne_q_b hX hY (by rw [hu]) hl K0
        · refine Go.st (fun _ => XS.icmpNo W2.here W2.ex rfl (hb hby d23_81) rfl (feq (p92 : ¬ (y = (92 : Int32)))).1) ?_
          refine Go.st (fun _ => XS.aloadN W2.here W2.ex rfl (hb hby d23_84) rfl rfl) ?_
          show Go _ _ _ _ (T2.setTop (mkF m_ 85 #[.val (.ref j), .val (.ref q), .val (.int (0 : Int32)), .val (.ref b), .val (.int (Int32.ofNat us.length)), .val (.int (1 : Int32)), .val (.int y)] [(.ref b)]))
          refine Go.st (fun _ => XS.iload W2.here W2.ex rfl (hb hby d23_85) rfl) ?_
          refine Go.st (fun _ => XS.iinc W2.here W2.ex rfl (hb hby d23_87) rfl (l' := #[.val (.ref j), .val (.ref q), .val (.int (0 : Int32)), .val (.ref b), .val (.int ((Int32.ofNat us.length) + (1 : Int32))), .val (.int (1 : Int32)), .val (.int y)]) rfl) ?_
          show Go _ _ _ _ (T2.setTop (mkF m_ 90 #[.val (.ref j), .val (.ref q), .val (.int (0 : Int32)), .val (.ref b), .val (.int ((Int32.ofNat us.length) + (1 : Int32))), .val (.int (1 : Int32)), .val (.int y)] [(.int (Int32.ofNat us.length)), (.ref b)]))
          rw [show ((Int32.ofNat us.length) + (1 : Int32)) = (Int32.ofNat (us.length + 1)) from ofn_add _ 1]
          refine Go.st (fun _ => XS.iload W2.here W2.ex rfl (hb hby d23_90) rfl) ?_
          refine Go.st (fun _ => XS.i2b W2.here W2.ex rfl (hb hby d23_92) rfl) ?_
          show Go _ _ _ _ (T2.setTop (mkF m_ 93 #[.val (.ref j), .val (.ref q), .val (.int (0 : Int32)), .val (.ref b), .val (.int (Int32.ofNat (us.length + 1))), .val (.int (1 : Int32)), .val (.int y)] [(.int (y.toInt8.toInt32)), (.int (Int32.ofNat us.length)), (.ref b)]))
          refine W2.stA V_b (x := (y.toInt8.toInt32)) (n1 := us.length) rfl (rmB0 (by omega)) (List.mem_of_getElem? (i := 1) rfl) g_b (hb hby d23_93) ?_
          intro T7 h7 L7 sl7 vv7 W7 w7 V_new
          replace E_j := E_j.wr w7
          replace F_bytes_j := F_bytes_j.other w7 (Or.inl (Ne.symm ne_b_j))
          replace F_length_j := F_length_j.other w7 (Or.inl (Ne.symm ne_b_j))
          replace F_first_j := F_first_j.other w7 (Or.inl (Ne.symm ne_b_j))
          replace S_q := S_q.wr w7 ne_q_b ne_t_b
          replace K0 := K0.wr w7 (Or.inl (List.mem_of_getElem? (i := 1) rfl))
          rw [nar_byte] at V_new
          replace V_b : Arv Z h7 b kb .byte (4096 : Int32) ((us ++ [(y.toInt8.toInt32)]).map Value.int) (.int 0) := V_new
          clear V_new
          refine Go.st (fun _ => XS.goto W7.here W7.ex rfl (pc0 := 94) (pc' := 107) rfl (hb hby d23_94) (by decide) (by decide)) ?_
          show Go _ _ _ _ (T7.setTop (mkF m_ 107 #[.val (.ref j), .val (.ref q), .val (.int (0 : Int32)), .val (.ref b), .val (.int (Int32.ofNat (us.length + 1))), .val (.int (1 : Int32)), .val (.int y)] []))
          have hE : Ec y = [y.toInt8.toInt32] := Ec_pl p32 p128 p34 p92
          replace V_b : Arv Z h7 b kb .byte 4096 ((us ++ Ec y).map Value.int) (.int 0) := by rw [hE]; exact V_b
          rw [show (Int32.ofNat (us.length + 1)) = Int32.ofNat (us ++ Ec y).length from by rw [hE]; exact lnI rfl]
          show Go _ _ _ _ (T7.setTop (mkF m_ 107 #[.val (.ref j), .val (.ref q), .val (.int (0 : Int32)), .val (.ref b), .val (.int (Int32.ofNat (us ++ Ec y).length)), .val (.int (1 : Int32)), .val (.int y)] []))
          exact quo_2 cx j b bs (us ++ Ec y) q t x y h00 y ((W7.more (by decide) (by decide)).sub (allS (List.mem_of_getElem? (i := 0) rfl) (allS (List.mem_of_getElem? (i := 1) rfl) all0))) hby hml hret hnm E_j F_bytes_j F_length_j F_first_j V_b g_j g_b S_q ne_t_b ne_q_b hX hY (by rw [hu]) hl K0
    · refine Go.st (fun _ => XS.icmpYes W2.here W2.ex rfl (pc0 := 67) (pc' := 97) rfl (hb hby d23_67) rfl (flt (p128 : ¬ (y < (128 : Int32)))).2.1 (by decide) (by decide)) ?_
      refine Go.st (fun _ => XS.aloadN W2.here W2.ex rfl (hb hby d23_97) rfl rfl) ?_
      show Go _ _ _ _ (T2.setTop (mkF m_ 98 #[.val (.ref j), .val (.ref q), .val (.int (0 : Int32)), .val (.ref b), .val (.int (Int32.ofNat us.length)), .val (.int (1 : Int32)), .val (.int y)] [(.ref j)]))
      refine Go.st (fun _ => XS.iload W2.here W2.ex rfl (hb hby d23_98) rfl) ?_
      refine Go.st (fun _ => XS.iload W2.here W2.ex rfl (hb hby d23_100) rfl) ?_
      show Go _ _ _ _ (T2.setTop (mkF m_ 102 #[.val (.ref j), .val (.ref q), .val (.int (0 : Int32)), .val (.ref b), .val (.int (Int32.ofNat us.length)), .val (.int (1 : Int32)), .val (.int y)] [(.int (Int32.ofNat us.length)), (.int y), (.ref j)]))
      refine W2.callP (y := Y4) (cx.w 151 rfl) (cx.w 153 rfl) (selP (y' := Y1) (cx.w 45 rfl) rfl (cx.w 153 rfl) (cx.w 152 rfl) (by decide)) (cx.w 152 rfl) (cx.w 33 rfl) (cx.w 154 rfl) (by decide) E_j (ct_esc cx W2.old j b us y E_j F_bytes_j V_b g_b (by omega) hY (fun q => p128 q.2.1)) (allS (List.mem_of_getElem? (i := 1) rfl) all0) (by decide) (Wd := 0) (by decide) (k' := 4) (n' := 56) rfl rfl (by decide) (by decide) (by rw [hml]; rfl) (a := j) (argsL := [(.int y), (.int (Int32.ofNat us.length))]) (rest := []) rfl (lenOf pd22 rfl) rfl (Nat.le_of_eq rfl) (hb hby d23_102) ?_
      intro v4 vm4 T4 h4 L4 W4 q4
      obtain ⟨rfl, Ke, V_b⟩ := q4
      replace E_j := E_j.keep Ke
      replace F_bytes_j := F_bytes_j.keep Ke (ninS (Ne.symm ne_b_j) nin0)
      replace F_length_j := F_length_j.keep Ke (ninS (Ne.symm ne_b_j) nin0)
      replace F_first_j := F_first_j.keep Ke (ninS (Ne.symm ne_b_j) nin0)
      replace S_q := S_q.keep Ke (ninS ne_q_b nin0) (ninS ne_t_b nin0)
      replace K0 := K0.trans Ke (allS (Or.inl (List.mem_of_getElem? (i := 1) rfl)) all0)
      refine Go.st (fun _ => XS.istore W4.here W4.ex rfl (hb hby d23_105) rfl (l' := #[.val (.ref j), .val (.ref q), .val (.int (0 : Int32)), .val (.ref b), .val (.int (Int32.ofNat (us ++ Ec y).length)), .val (.int (1 : Int32)), .val (.int y)]) rfl) ?_
      show Go _ _ _ _ (T4.setTop (mkF m_ 107 #[.val (.ref j), .val (.ref q), .val (.int (0 : Int32)), .val (.ref b), .val (.int (Int32.ofNat (us ++ Ec y).length)), .val (.int (1 : Int32)), .val (.int y)] []))
      exact quo_2 cx j b bs (us ++ Ec y) q t x y h00 y ((W4.more (by decide) (by decide)).sub (allS (List.mem_of_getElem? (i := 0) rfl) (allS (List.mem_of_getElem? (i := 1) rfl) all0))) hby hml hret hnm E_j F_bytes_j F_length_j F_first_j V_b g_j g_b S_q ne_t_b ne_q_b hX hY (by rw [hu]) hl K0
theorem ct_quo {l : Launch} {Z a0 n0 g1 gf hxa khx} (cx : Ctx Z a0 n0 g1 gf hxa khx) {h : Heap} (O : Old Z n0 h) (j b : Addr) (bs : List Int32) {kb : ClassId} (q t : Addr) (x y : Int32) (J : JT Z h j b kb bs 0) (g_j : n0 ≤ j) (g_b : n0 ≤ b) (hl : bs.length ≤ 100) (S_q : Str2 Z h q t x y) (ne_t_b : t ≠ b) (ne_q_b : q ≠ b) (hX : R16 x) (hY : R16 y) :
    Ct l Z consts_1 n0 [] (⟨"com/example/dijtabla/dijtabla/JsonText", "quoted", "(Ljava/lang/String;I)V"⟩ : MethodName) prog_10_method_15_code 7 none ({ frames := 6, cells := 4, slots := 56, locals := 84 } : Room) #[(.ref j), (.ref q), (.int (0 : Int32))] [j, b] h (fun v _ h' => v = none ∧ Keep h h' [j, b] ∧ JT Z h' j b kb (bs ++ [34] ++ Ec x ++ Ec y ++ [34]) 0) := by
  obtain ⟨E_j, F_bytes_j, F_length_j, F_first_j, V_b⟩ := J
  have ne_b_j : b ≠ j := (Ne.symm (Exa.neArv E_j V_b (cx.w 32 rfl)))
  have ne_q_j : q ≠ j := (Ne.symm (Ne.symm (S_q.neC E_j (by decide))))
  have ne_t_j : t ≠ j := (Ne.symm (Ne.symm (S_q.neT E_j (cx.w 32 rfl))))
  refine Ct.intro (plainFor_of_name pn4) O cx.ew ?_
  intro p_ e_ s_ m_ bl_ mt_ c_ T0 W0 hby hml hret hnm
  refine Go.st (fun t_ k_ => castTop (g' := mkF m_ 0 #[.val (.ref j), .val (.ref q), .val (.int (0 : Int32)), .unset, .unset, .unset, .unset] []) (by first | (simp [entryFrame, mkF, argsToLocals, Value.category]; done) | rfl) k_) ?_
  show Go _ _ _ _ (T0.setTop (mkF m_ 0 #[.val (.ref j), .val (.ref q), .val (.int (0 : Int32)), .unset, .unset, .unset, .unset] []))
  have K0 : Keep h h [j, b] := Keep.refl _ _
  refine Go.st (fun _ => XS.aloadN W0.here W0.ex rfl (hb hby d23_0) rfl rfl) ?_
  refine Go.st (fun _ => XS.bipush W0.here W0.ex rfl (hb hby d23_1)) ?_
  show Go _ _ _ _ (T0.setTop (mkF m_ 3 #[.val (.ref j), .val (.ref q), .val (.int (0 : Int32)), .unset, .unset, .unset, .unset] [(.int (6 : Int32)), (.ref j)]))
  refine Go.st (fun _ => XS.aloadN W0.here W0.ex rfl (hb hby d23_3) rfl rfl) ?_
  show Go _ _ _ _ (T0.setTop (mkF m_ 4 #[.val (.ref j), .val (.ref q), .val (.int (0 : Int32)), .unset, .unset, .unset, .unset] [(.ref q), (.int (6 : Int32)), (.ref j)]))
  have E_q := S_q.E
  refine W0.callV (y := Y26) (z := Y26) (cx.w 114 rfl) (cx.w 115 rfl) (cx.w 117 rfl) (cx.w 116 rfl) (cx.w 4 rfl) (cx.w 118 rfl) (W0.nf (cx.w 117 rfl)) (by decide) E_q (ct_lenS cx W0.old q t x y S_q) all0 (by decide) (Wd := 2) (by decide) (k' := 0) (n' := 0) rfl rfl (by decide) (by decide) (by rw [hml]; rfl) (a := q) (argsL := []) (rest := [(.int (6 : Int32)), (.ref j)]) rfl (lenOf pd18 rfl) rfl (Nat.le_of_eq rfl) (hb hby d23_4) ?_
  intro v1 vm1 T1 h1 L1 W1 q1
  obtain ⟨rfl, eh_⟩ := q1
  subst h1
  refine Go.st (fun _ => XS.imul W1.here W1.ex rfl (hb hby d23_7) rfl) ?_
  show Go _ _ _ _ (T1.setTop (mkF m_ 8 #[.val (.ref j), .val (.ref q), .val (.int (0 : Int32)), .unset, .unset, .unset, .unset] [(.int ((6 : Int32) * (2 : Int32))), (.ref j)]))
  rw [show ((6 : Int32) * (2 : Int32)) = (12 : Int32) from by decide]
  refine Go.st (fun _ => XS.iconst W1.here W1.ex rfl (hb hby d23_8)) ?_
  refine Go.st (fun _ => XS.iadd W1.here W1.ex rfl (hb hby d23_9) rfl) ?_
  show Go _ _ _ _ (T1.setTop (mkF m_ 10 #[.val (.ref j), .val (.ref q), .val (.int (0 : Int32)), .unset, .unset, .unset, .unset] [(.int ((12 : Int32) + (2 : Int32))), (.ref j)]))
  rw [show ((12 : Int32) + (2 : Int32)) = (14 : Int32) from by decide]
  refine Go.st (fun _ => XS.iloadN W1.here W1.ex rfl (hb hby d23_10) rfl) ?_
  refine Go.st (fun _ => XS.iadd W1.here W1.ex rfl (hb hby d23_11) rfl) ?_
  show Go _ _ _ _ (T1.setTop (mkF m_ 12 #[.val (.ref j), .val (.ref q), .val (.int (0 : Int32)), .unset, .unset, .unset, .unset] [(.int ((14 : Int32) + (0 : Int32))), (.ref j)]))
  rw [show ((14 : Int32) + (0 : Int32)) = (14 : Int32) from by decide]
  show Go _ _ _ _ (T1.setTop (mkF m_ 12 #[.val (.ref j), .val (.ref q), .val (.int (0 : Int32)), .unset, .unset, .unset, .unset] [(.int (14 : Int32)), (.ref j)]))
  refine W1.callP (y := Y10) (cx.w 101 rfl) (cx.w 103 rfl) (selP (y' := Y1) (cx.w 45 rfl) rfl (cx.w 103 rfl) (cx.w 102 rfl) (by decide)) (cx.w 102 rfl) (cx.w 33 rfl) (cx.w 104 rfl) (by decide) E_j (ct_room cx W1.old j b bs 14 0 (by decide) ⟨E_j, F_bytes_j, F_length_j, F_first_j, V_b⟩ g_j g_b (by omega)) all0 (by decide) (Wd := 0) (by decide) (k' := 0) (n' := 0) rfl rfl (by decide) (by decide) (by rw [hml]; rfl) (a := j) (argsL := [(.int (14 : Int32))]) (rest := []) rfl (lenOf pd14 rfl) rfl (Nat.le_of_eq rfl) (hb hby d23_12) ?_
  intro v2 vm2 T2 h2 L2 W2 q2
  obtain ⟨rfl, eh_⟩ := q2
  subst h2
  refine Go.st (fun _ => XS.aloadN W2.here W2.ex rfl (hb hby d23_15) rfl rfl) ?_
  show Go _ _ _ _ (T2.setTop (mkF m_ 16 #[.val (.ref j), .val (.ref q), .val (.int (0 : Int32)), .unset, .unset, .unset, .unset] [(.ref j)]))
  refine W2.getF (cx.w 38 rfl) Via.refl F_bytes_j (hb hby d23_16) ?_
  intro T3 W3
  refine Go.st (fun _ => XS.astoreN W3.here W3.ex rfl (hb hby d23_19) rfl rfl (l' := #[.val (.ref j), .val (.ref q), .val (.int (0 : Int32)), .val (.ref b), .unset, .unset, .unset]) rfl) ?_
  refine Go.st (fun _ => XS.aloadN W3.here W3.ex rfl (hb hby d23_20) rfl rfl) ?_
  show Go _ _ _ _ (T3.setTop (mkF m_ 21 #[.val (.ref j), .val (.ref q), .val (.int (0 : Int32)), .val (.ref b), .unset, .unset, .unset] [(.ref j)]))
  refine W3.getF (cx.w 47 rfl) Via.refl F_length_j (hb hby d23_21) ?_
  intro T4 W4
  refine Go.st (fun _ => XS.istore W4.here W4.ex rfl (hb hby d23_24) rfl (l' := #[.val (.ref j), .val (.ref q), .val (.int (0 : Int32)), .val (.ref b), .val (.int (Int32.ofNat bs.length)), .unset, .unset]) rfl) ?_
  refine Go.st (fun _ => XS.aloadN W4.here W4.ex rfl (hb hby d23_26) rfl rfl) ?_
  refine Go.st (fun _ => XS.iload W4.here W4.ex rfl (hb hby d23_27) rfl) ?_
  show Go _ _ _ _ (T4.setTop (mkF m_ 29 #[.val (.ref j), .val (.ref q), .val (.int (0 : Int32)), .val (.ref b), .val (.int (Int32.ofNat bs.length)), .unset, .unset] [(.int (Int32.ofNat bs.length)), (.ref b)]))
  refine Go.st (fun _ => XS.iinc W4.here W4.ex rfl (hb hby d23_29) rfl (l' := #[.val (.ref j), .val (.ref q), .val (.int (0 : Int32)), .val (.ref b), .val (.int ((Int32.ofNat bs.length) + (1 : Int32))), .unset, .unset]) rfl) ?_
  show Go _ _ _ _ (T4.setTop (mkF m_ 32 #[.val (.ref j), .val (.ref q), .val (.int (0 : Int32)), .val (.ref b), .val (.int ((Int32.ofNat bs.length) + (1 : Int32))), .unset, .unset] [(.int (Int32.ofNat bs.length)), (.ref b)]))
  rw [show ((Int32.ofNat bs.length) + (1 : Int32)) = (Int32.ofNat (bs.length + 1)) from ofn_add _ 1]
  refine Go.st (fun _ => XS.bipush W4.here W4.ex rfl (hb hby d23_32)) ?_
  show Go _ _ _ _ (T4.setTop (mkF m_ 34 #[.val (.ref j), .val (.ref q), .val (.int (0 : Int32)), .val (.ref b), .val (.int (Int32.ofNat (bs.length + 1))), .unset, .unset] [(.int (34 : Int32)), (.int (Int32.ofNat bs.length)), (.ref b)]))
  refine W4.stA V_b (x := (34 : Int32)) (n1 := bs.length) rfl (rmB0 (by omega)) (List.mem_of_getElem? (i := 1) rfl) g_b (hb hby d23_34) ?_
  intro T5 h5 L5 sl5 vv5 W5 w5 V_new
  replace E_j := E_j.wr w5
  replace F_bytes_j := F_bytes_j.other w5 (Or.inl (Ne.symm ne_b_j))
  replace F_length_j := F_length_j.other w5 (Or.inl (Ne.symm ne_b_j))
  replace F_first_j := F_first_j.other w5 (Or.inl (Ne.symm ne_b_j))
  replace S_q := S_q.wr w5 ne_q_b ne_t_b
  replace K0 := K0.wr w5 (Or.inl (List.mem_of_getElem? (i := 1) rfl))
  replace V_b : Arv Z h5 b kb .byte (4096 : Int32) ((bs ++ [(34 : Int32)]).map Value.int) (.int 0) := V_new
  clear V_new
  refine Go.st (fun _ => XS.iconst W5.here W5.ex rfl (hb hby d23_35)) ?_
  refine Go.st (fun _ => XS.istore W5.here W5.ex rfl (hb hby d23_36) rfl (l' := #[.val (.ref j), .val (.ref q), .val (.int (0 : Int32)), .val (.ref b), .val (.int (Int32.ofNat (bs.length + 1))), .val (.int (0 : Int32)), .unset]) rfl) ?_
  show Go _ _ _ _ (T5.setTop (mkF m_ 38 #[.val (.ref j), .val (.ref q), .val (.int (0 : Int32)), .val (.ref b), .val (.int (Int32.ofNat (bs.length + 1))), .val (.int (0 : Int32)), .unset] []))
  rw [show (Int32.ofNat (bs.length + 1)) = (Int32.ofNat (bs ++ [(34 : Int32)]).length) from lnI rfl]
  show Go _ _ _ _ (T5.setTop (mkF m_ 38 #[.val (.ref j), .val (.ref q), .val (.int (0 : Int32)), .val (.ref b), .val (.int (Int32.ofNat (bs ++ [(34 : Int32)]).length)), .val (.int (0 : Int32)), .unset] []))
  have hm : (bs ++ [(34 : Int32)]).length ≤ 120 := hlA (k := 1) rfl (by omega)
  refine Go.st (fun _ => XS.iload W5.here W5.ex rfl (hb hby d23_38) rfl) ?_
  refine Go.st (fun _ => XS.aloadN W5.here W5.ex rfl (hb hby d23_40) rfl rfl) ?_
  show Go _ _ _ _ (T5.setTop (mkF m_ 41 #[.val (.ref j), .val (.ref q), .val (.int (0 : Int32)), .val (.ref b), .val (.int (Int32.ofNat (bs ++ [(34 : Int32)]).length)), .val (.int (0 : Int32)), .unset] [(.ref q), (.int (0 : Int32))]))
  have E_q := S_q.E
  refine W5.callV (y := Y26) (z := Y26) (cx.w 114 rfl) (cx.w 115 rfl) (cx.w 117 rfl) (cx.w 116 rfl) (cx.w 4 rfl) (cx.w 118 rfl) (W5.nf (cx.w 117 rfl)) (by decide) E_q (ct_lenS cx W5.old q t x y S_q) all0 (by decide) (Wd := 1) (by decide) (k' := 0) (n' := 0) rfl rfl (by decide) (by decide) (by rw [hml]; rfl) (a := q) (argsL := []) (rest := [(.int (0 : Int32))]) rfl (lenOf pd18 rfl) rfl (Nat.le_of_eq rfl) (hb hby d23_41) ?_
  intro v6 vm6 T6 h6 L6 W6 q6
  obtain ⟨rfl, eh_⟩ := q6
  subst h6
  refine Go.st (fun _ => XS.icmpNo W6.here W6.ex rfl (hb hby d23_44) rfl (tlt ((by decide) : (0 : Int32) < (2 : Int32))).2.1) ?_
  refine Go.st (fun _ => XS.aloadN W6.here W6.ex rfl (hb hby d23_47) rfl rfl) ?_
  refine Go.st (fun _ => XS.iload W6.here W6.ex rfl (hb hby d23_48) rfl) ?_
  show Go _ _ _ _ (T6.setTop (mkF m_ 50 #[.val (.ref j), .val (.ref q), .val (.int (0 : Int32)), .val (.ref b), .val (.int (Int32.ofNat (bs ++ [(34 : Int32)]).length)), .val (.int (0 : Int32)), .unset] [(.int (0 : Int32)), (.ref q)]))
  have E_q := S_q.E
  refine W6.callV (y := Y22) (z := Y22) (cx.w 124 rfl) (cx.w 125 rfl) (cx.w 127 rfl) (cx.w 126 rfl) (cx.w 4 rfl) (cx.w 128 rfl) (W6.nf (cx.w 127 rfl)) (by decide) E_q (ct_chS0 cx W6.old q t x y S_q hX hY) all0 (by decide) (Wd := 0) (by decide) (k' := 0) (n' := 0) rfl rfl (by decide) (by decide) (by rw [hml]; rfl) (a := q) (argsL := [(.int (0 : Int32))]) (rest := []) rfl (lenOf pd19 rfl) rfl (Nat.le_of_eq rfl) (hb hby d23_50) ?_
  intro v7 vm7 T7 h7 L7 W7 q7
  obtain ⟨rfl, eh_⟩ := q7
  subst h7
  refine Go.st (fun _ => XS.istore W7.here W7.ex rfl (hb hby d23_53) rfl (l' := #[.val (.ref j), .val (.ref q), .val (.int (0 : Int32)), .val (.ref b), .val (.int (Int32.ofNat (bs ++ [(34 : Int32)]).length)), .val (.int (0 : Int32)), .val (.int x)]) rfl) ?_
  refine Go.st (fun _ => XS.iload W7.here W7.ex rfl (hb hby d23_55) rfl) ?_
  refine Go.st (fun _ => XS.bipush W7.here W7.ex rfl (hb hby d23_57)) ?_
  show Go _ _ _ _ (T7.setTop (mkF m_ 59 #[.val (.ref j), .val (.ref q), .val (.int (0 : Int32)), .val (.ref b), .val (.int (Int32.ofNat (bs ++ [(34 : Int32)]).length)), .val (.int (0 : Int32)), .val (.int x)] [(.int (32 : Int32)), (.int x)]))
  by_cases p32 : x < (32 : Int32)
  · refine Go.st (fun _ => XS.icmpYes W7.here W7.ex rfl (pc0 := 59) (pc' := 97) rfl (hb hby d23_59) rfl (tlt (p32 : x < (32 : Int32))).1 (by decide) (by decide)) ?_
    refine Go.st (fun _ => XS.aloadN W7.here W7.ex rfl (hb hby d23_97) rfl rfl) ?_
    show Go _ _ _ _ (T7.setTop (mkF m_ 98 #[.val (.ref j), .val (.ref q), .val (.int (0 : Int32)), .val (.ref b), .val (.int (Int32.ofNat (bs ++ [(34 : Int32)]).length)), .val (.int (0 : Int32)), .val (.int x)] [(.ref j)]))
    refine Go.st (fun _ => XS.iload W7.here W7.ex rfl (hb hby d23_98) rfl) ?_
    refine Go.st (fun _ => XS.iload W7.here W7.ex rfl (hb hby d23_100) rfl) ?_
    show Go _ _ _ _ (T7.setTop (mkF m_ 102 #[.val (.ref j), .val (.ref q), .val (.int (0 : Int32)), .val (.ref b), .val (.int (Int32.ofNat (bs ++ [(34 : Int32)]).length)), .val (.int (0 : Int32)), .val (.int x)] [(.int (Int32.ofNat (bs ++ [(34 : Int32)]).length)), (.int x), (.ref j)]))
    refine W7.callP (y := Y4) (cx.w 151 rfl) (cx.w 153 rfl) (selP (y' := Y1) (cx.w 45 rfl) rfl (cx.w 153 rfl) (cx.w 152 rfl) (by decide)) (cx.w 152 rfl) (cx.w 33 rfl) (cx.w 154 rfl) (by decide) E_j (ct_esc cx W7.old j b (bs ++ [(34 : Int32)]) x E_j F_bytes_j V_b g_b (by omega) hX (fun q => q.1 p32)) (allS (List.mem_of_getElem? (i := 1) rfl) all0) (by decide) (Wd := 0) (by decide) (k' := 2) (n' := 28) rfl rfl (by decide) (by decide) (by rw [hml]; rfl) (a := j) (argsL := [(.int x), (.int (Int32.ofNat (bs ++ [(34 : Int32)]).length))]) (rest := []) rfl (lenOf pd22 rfl) rfl (Nat.le_of_eq rfl) (hb hby d23_102) ?_
    intro v8 vm8 T8 h8 L8 W8 q8
    obtain ⟨rfl, Ke, V_b⟩ := q8
    replace E_j := E_j.keep Ke
    replace F_bytes_j := F_bytes_j.keep Ke (ninS (Ne.symm ne_b_j) nin0)
    replace F_length_j := F_length_j.keep Ke (ninS (Ne.symm ne_b_j) nin0)
    replace F_first_j := F_first_j.keep Ke (ninS (Ne.symm ne_b_j) nin0)
    replace S_q := S_q.keep Ke (ninS ne_q_b nin0) (ninS ne_t_b nin0)
    replace K0 := K0.trans Ke (allS (Or.inl (List.mem_of_getElem? (i := 1) rfl)) all0)
    refine Go.st (fun _ => XS.istore W8.here W8.ex rfl (hb hby d23_105) rfl (l' := #[.val (.ref j), .val (.ref q), .val (.int (0 : Int32)), .val (.ref b), .val (.int (Int32.ofNat ((bs ++ [(34 : Int32)]) ++ Ec x).length)), .val (.int (0 : Int32)), .val (.int x)]) rfl) ?_
    show Go _ _ _ _ (T8.setTop (mkF m_ 107 #[.val (.ref j), .val (.ref q), .val (.int (0 : Int32)), .val (.ref b), .val (.int (Int32.ofNat ((bs ++ [(34 : Int32)]) ++ Ec x).length)), .val (.int (0 : Int32)), .val (.int x)] []))
    exact quo_1 cx j b bs ((bs ++ [(34 : Int32)]) ++ Ec x) q t x y h x ((W8.more (by decide) (by decide)).sub (allS (List.mem_of_getElem? (i := 0) rfl) (allS (List.mem_of_getElem? (i := 1) rfl) all0))) hby hml hret hnm E_j F_bytes_j F_length_j F_first_j V_b g_j g_b S_q ne_t_b ne_q_b hX hY rfl hl K0
  · refine Go.st (fun _ => XS.icmpNo W7.here W7.ex rfl (hb hby d23_59) rfl (flt (p32 : ¬ (x < (32 : Int32)))).1) ?_
    refine Go.st (fun _ => XS.iload W7.here W7.ex rfl (hb hby d23_62) rfl) ?_
    show Go _ _ _ _ (T7.setTop (mkF m_ 64 #[.val (.ref j), .val (.ref q), .val (.int (0 : Int32)), .val (.ref b), .val (.int (Int32.ofNat (bs ++ [(34 : Int32)]).length)), .val (.int (0 : Int32)), .val (.int x)] [(.int x)]))
    refine Go.st (fun _ => XS.sipush W7.here W7.ex rfl (hb hby d23_64)) ?_
    show Go _ _ _ _ (T7.setTop (mkF m_ 67 #[.val (.ref j), .val (.ref q), .val (.int (0 : Int32)), .val (.ref b), .val (.int (Int32.ofNat (bs ++ [(34 : Int32)]).length)), .val (.int (0 : Int32)), .val (.int x)] [(.int (128 : Int32)), (.int x)]))
    by_cases p128 : x < (128 : Int32)
    · refine Go.st (fun _ => XS.icmpNo W7.here W7.ex rfl (hb hby d23_67) rfl (tlt (p128 : x < (128 : Int32))).2.1) ?_
      refine Go.st (fun _ => XS.iload W7.here W7.ex rfl (hb hby d23_70) rfl) ?_
      show Go _ _ _ _ (T7.setTop (mkF m_ 72 #[.val (.ref j), .val (.ref q), .val (.int (0 : Int32)), .val (.ref b), .val (.int (Int32.ofNat (bs ++ [(34 : Int32)]).length)), .val (.int (0 : Int32)), .val (.int x)] [(.int x)]))
      refine Go.st (fun _ => XS.bipush W7.here W7.ex rfl (hb hby d23_72)) ?_
      show Go _ _ _ _ (T7.setTop (mkF m_ 74 #[.val (.ref j), .val (.ref q), .val (.int (0 : Int32)), .val (.ref b), .val (.int (Int32.ofNat (bs ++ [(34 : Int32)]).length)), .val (.int (0 : Int32)), .val (.int x)] [(.int (34 : Int32)), (.int x)]))
      by_cases p34 : x = (34 : Int32)
      · refine Go.st (fun _ => XS.icmpYes W7.here W7.ex rfl (pc0 := 74) (pc' := 97) rfl (hb hby d23_74) rfl (teq (p34 : x = (34 : Int32))).1 (by decide) (by decide)) ?_
        refine Go.st (fun _ => XS.aloadN W7.here W7.ex rfl (hb hby d23_97) rfl rfl) ?_
        show Go _ _ _ _ (T7.setTop (mkF m_ 98 #[.val (.ref j), .val (.ref q), .val (.int (0 : Int32)), .val (.ref b), .val (.int (Int32.ofNat (bs ++ [(34 : Int32)]).length)), .val (.int (0 : Int32)), .val (.int x)] [(.ref j)]))
        refine Go.st (fun _ => XS.iload W7.here W7.ex rfl (hb hby d23_98) rfl) ?_
        refine Go.st (fun _ => XS.iload W7.here W7.ex rfl (hb hby d23_100) rfl) ?_
        show Go _ _ _ _ (T7.setTop (mkF m_ 102 #[.val (.ref j), .val (.ref q), .val (.int (0 : Int32)), .val (.ref b), .val (.int (Int32.ofNat (bs ++ [(34 : Int32)]).length)), .val (.int (0 : Int32)), .val (.int x)] [(.int (Int32.ofNat (bs ++ [(34 : Int32)]).length)), (.int x), (.ref j)]))
        refine W7.callP (y := Y4) (cx.w 151 rfl) (cx.w 153 rfl) (selP (y' := Y1) (cx.w 45 rfl) rfl (cx.w 153 rfl) (cx.w 152 rfl) (by decide)) (cx.w 152 rfl) (cx.w 33 rfl) (cx.w 154 rfl) (by decide) E_j (ct_esc cx W7.old j b (bs ++ [(34 : Int32)]) x E_j F_bytes_j V_b g_b (by omega) hX (fun q => q.2.2.1 p34)) (allS (List.mem_of_getElem? (i := 1) rfl) all0) (by decide) (Wd := 0) (by decide) (k' := 2) (n' := 28) rfl rfl (by decide) (by decide) (by rw [hml]; rfl) (a := j) (argsL := [(.int x), (.int (Int32.ofNat (bs ++ [(34 : Int32)]).length))]) (rest := []) rfl (lenOf pd22 rfl) rfl (Nat.le_of_eq rfl) (hb hby d23_102) ?_
        intro v10 vm10 T10 h10 L10 W10 q10
        obtain ⟨rfl, Ke, V_b⟩ := q10
        replace E_j := E_j.keep Ke
        replace F_bytes_j := F_bytes_j.keep Ke (ninS (Ne.symm ne_b_j) nin0)
        replace F_length_j := F_length_j.keep Ke (ninS (Ne.symm ne_b_j) nin0)
        replace F_first_j := F_first_j.keep Ke (ninS (Ne.symm ne_b_j) nin0)
        replace S_q := S_q.keep Ke (ninS ne_q_b nin0) (ninS ne_t_b nin0)
        replace K0 := K0.trans Ke (allS (Or.inl (List.mem_of_getElem? (i := 1) rfl)) all0)
        refine Go.st (fun _ => XS.istore W10.here W10.ex rfl (hb hby d23_105) rfl (l' := #[.val (.ref j), .val (.ref q), .val (.int (0 : Int32)), .val (.ref b), .val (.int (Int32.ofNat ((bs ++ [(34 : Int32)]) ++ Ec x).length)), .val (.int (0 : Int32)), .val (.int x)]) rfl) ?_
        show Go _ _ _ _ (T10.setTop (mkF m_ 107 #[.val (.ref j), .val (.ref q), .val (.int (0 : Int32)), .val (.ref b), .val (.int (Int32.ofNat ((bs ++ [(34 : Int32)]) ++ Ec x).length)), .val (.int (0 : Int32)), .val (.int x)] []))
        exact quo_1 cx j b bs ((bs ++ [(34 : Int32)]) ++ Ec x) q t x y h x ((W10.more (by decide) (by decide)).sub (allS (List.mem_of_getElem? (i := 0) rfl) (allS (List.mem_of_getElem? (i := 1) rfl) all0))) hby hml hret hnm E_j F_bytes_j F_length_j F_first_j V_b g_j g_b S_q ne_t_b ne_q_b hX hY rfl hl K0
      · refine Go.st (fun _ => XS.icmpNo W7.here W7.ex rfl (hb hby d23_74) rfl (feq (p34 : ¬ (x = (34 : Int32)))).1) ?_
        refine Go.st (fun _ => XS.iload W7.here W7.ex rfl (hb hby d23_77) rfl) ?_
        show Go _ _ _ _ (T7.setTop (mkF m_ 79 #[.val (.ref j), .val (.ref q), .val (.int (0 : Int32)), .val (.ref b), .val (.int (Int32.ofNat (bs ++ [(34 : Int32)]).length)), .val (.int (0 : Int32)), .val (.int x)] [(.int x)]))
        refine Go.st (fun _ => XS.bipush W7.here W7.ex rfl (hb hby d23_79)) ?_
        show Go _ _ _ _ (T7.setTop (mkF m_ 81 #[.val (.ref j), .val (.ref q), .val (.int (0 : Int32)), .val (.ref b), .val (.int (Int32.ofNat (bs ++ [(34 : Int32)]).length)), .val (.int (0 : Int32)), .val (.int x)] [(.int (92 : Int32)), (.int x)]))
        by_cases p92 : x = (92 : Int32)
        · refine Go.st (fun _ => XS.icmpYes W7.here W7.ex rfl (pc0 := 81) (pc' := 97) rfl (hb hby d23_81) rfl (teq (p92 : x = (92 : Int32))).1 (by decide) (by decide)) ?_
          refine Go.st (fun _ => XS.aloadN W7.here W7.ex rfl (hb hby d23_97) rfl rfl) ?_
          show Go _ _ _ _ (T7.setTop (mkF m_ 98 #[.val (.ref j), .val (.ref q), .val (.int (0 : Int32)), .val (.ref b), .val (.int (Int32.ofNat (bs ++ [(34 : Int32)]).length)), .val (.int (0 : Int32)), .val (.int x)] [(.ref j)]))
          refine Go.st (fun _ => XS.iload W7.here W7.ex rfl (hb hby d23_98) rfl) ?_
          refine Go.st (fun _ => XS.iload W7.here W7.ex rfl (hb hby d23_100) rfl) ?_
          show Go _ _ _ _ (T7.setTop (mkF m_ 102 #[.val (.ref j), .val (.ref q), .val (.int (0 : Int32)), .val (.ref b), .val (.int (Int32.ofNat (bs ++ [(34 : Int32)]).length)), .val (.int (0 : Int32)), .val (.int x)] [(.int (Int32.ofNat (bs ++ [(34 : Int32)]).length)), (.int x), (.ref j)]))
          refine W7.callP (y := Y4) (cx.w 151 rfl) (cx.w 153 rfl) (selP (y' := Y1) (cx.w 45 rfl) rfl (cx.w 153 rfl) (cx.w 152 rfl) (by decide)) (cx.w 152 rfl) (cx.w 33 rfl) (cx.w 154 rfl) (by decide) E_j (ct_esc cx W7.old j b (bs ++ [(34 : Int32)]) x E_j F_bytes_j V_b g_b (by omega) hX (fun q => q.2.2.2 p92)) (allS (List.mem_of_getElem? (i := 1) rfl) all0) (by decide) (Wd := 0) (by decide) (k' := 2) (n' := 28) rfl rfl (by decide) (by decide) (by rw [hml]; rfl) (a := j) (argsL := [(.int x), (.int (Int32.ofNat (bs ++ [(34 : Int32)]).length))]) (rest := []) rfl (lenOf pd22 rfl) rfl (Nat.le_of_eq rfl) (hb hby d23_102) ?_
          intro v11 vm11 T11 h11 L11 W11 q11
          obtain ⟨rfl, Ke, V_b⟩ := q11
          replace E_j := E_j.keep Ke
          replace F_bytes_j := F_bytes_j.keep Ke (ninS (Ne.symm ne_b_j) nin0)
          replace F_length_j := F_length_j.keep Ke (ninS (Ne.symm ne_b_j) nin0)
          replace F_first_j := F_first_j.keep Ke (ninS (Ne.symm ne_b_j) nin0)
          replace S_q := S_q.keep Ke (ninS ne_q_b nin0) (ninS ne_t_b nin0)
          replace K0 := K0.trans Ke (allS (Or.inl (List.mem_of_getElem? (i := 1) rfl)) all0)
          refine Go.st (fun _ => XS.istore W11.here W11.ex rfl (hb hby d23_105) rfl (l' := #[.val (.ref j), .val (.ref q), .val (.int (0 : Int32)), .val (.ref b), .val (.int (Int32.ofNat ((bs ++ [(34 : Int32)]) ++ Ec x).length)), .val (.int (0 : Int32)), .val (.int x)]) rfl) ?_
          show Go _ _ _ _ (T11.setTop (mkF m_ 107 #[.val (.ref j), .val (.ref q), .val (.int (0 : Int32)), .val (.ref b), .val (.int (Int32.ofNat ((bs ++ [(34 : Int32)]) ++ Ec x).length)), .val (.int (0 : Int32)), .val (.int x)] []))
          exact quo_1 cx j b bs ((bs ++ [(34 : Int32)]) ++ Ec x) q t x y h x ((W11.more (by decide) (by decide)).sub (allS (List.mem_of_getElem? (i := 0) rfl) (allS (List.mem_of_getElem? (i := 1) rfl) all0))) hby hml hret hnm E_j F_bytes_j F_length_j F_first_j V_b g_j g_b S_q ne_t_b ne_q_b hX hY rfl hl K0
        · refine Go.st (fun _ => XS.icmpNo W7.here W7.ex rfl (hb hby d23_81) rfl (feq (p92 : ¬ (x = (92 : Int32)))).1) ?_
          refine Go.st (fun _ => XS.aloadN W7.here W7.ex rfl (hb hby d23_84) rfl rfl) ?_
          show Go _ _ _ _ (T7.setTop (mkF m_ 85 #[.val (.ref j), .val (.ref q), .val (.int (0 : Int32)), .val (.ref b), .val (.int (Int32.ofNat (bs ++ [(34 : Int32)]).length)), .val (.int (0 : Int32)), .val (.int x)] [(.ref b)]))
          refine Go.st (fun _ => XS.iload W7.here W7.ex rfl (hb hby d23_85) rfl) ?_
          refine Go.st (fun _ => XS.iinc W7.here W7.ex rfl (hb hby d23_87) rfl (l' := #[.val (.ref j), .val (.ref q), .val (.int (0 : Int32)), .val (.ref b), .val (.int ((Int32.ofNat (bs ++ [(34 : Int32)]).length) + (1 : Int32))), .val (.int (0 : Int32)), .val (.int x)]) rfl) ?_
          show Go _ _ _ _ (T7.setTop (mkF m_ 90 #[.val (.ref j), .val (.ref q), .val (.int (0 : Int32)), .val (.ref b), .val (.int ((Int32.ofNat (bs ++ [(34 : Int32)]).length) + (1 : Int32))), .val (.int (0 : Int32)), .val (.int x)] [(.int (Int32.ofNat (bs ++ [(34 : Int32)]).length)), (.ref b)]))
          rw [show ((Int32.ofNat (bs ++ [(34 : Int32)]).length) + (1 : Int32)) = (Int32.ofNat ((bs ++ [(34 : Int32)]).length + 1)) from ofn_add _ 1]
          refine Go.st (fun _ => XS.iload W7.here W7.ex rfl (hb hby d23_90) rfl) ?_
          refine Go.st (fun _ => XS.i2b W7.here W7.ex rfl (hb hby d23_92) rfl) ?_
          show Go _ _ _ _ (T7.setTop (mkF m_ 93 #[.val (.ref j), .val (.ref q), .val (.int (0 : Int32)), .val (.ref b), .val (.int (Int32.ofNat ((bs ++ [(34 : Int32)]).length + 1))), .val (.int (0 : Int32)), .val (.int x)] [(.int (x.toInt8.toInt32)), (.int (Int32.ofNat (bs ++ [(34 : Int32)]).length)), (.ref b)]))
          refine W7.stA V_b (x := (x.toInt8.toInt32)) (n1 := (bs ++ [(34 : Int32)]).length) rfl (rmB0 (by omega)) (List.mem_of_getElem? (i := 1) rfl) g_b (hb hby d23_93) ?_
          intro T12 h12 L12 sl12 vv12 W12 w12 V_new
          replace E_j := E_j.wr w12
          replace F_bytes_j := F_bytes_j.other w12 (Or.inl (Ne.symm ne_b_j))
          replace F_length_j := F_length_j.other w12 (Or.inl (Ne.symm ne_b_j))
          replace F_first_j := F_first_j.other w12 (Or.inl (Ne.symm ne_b_j))
          replace S_q := S_q.wr w12 ne_q_b ne_t_b
          replace K0 := K0.wr w12 (Or.inl (List.mem_of_getElem? (i := 1) rfl))
          rw [nar_byte] at V_new
          replace V_b : Arv Z h12 b kb .byte (4096 : Int32) (((bs ++ [(34 : Int32)]) ++ [(x.toInt8.toInt32)]).map Value.int) (.int 0) := V_new
          clear V_new
          refine Go.st (fun _ => XS.goto W12.here W12.ex rfl (pc0 := 94) (pc' := 107) rfl (hb hby d23_94) (by decide) (by decide)) ?_
          show Go _ _ _ _ (T12.setTop (mkF m_ 107 #[.val (.ref j), .val (.ref q), .val (.int (0 : Int32)), .val (.ref b), .val (.int (Int32.ofNat ((bs ++ [(34 : Int32)]).length + 1))), .val (.int (0 : Int32)), .val (.int x)] []))
          have hE : Ec x = [x.toInt8.toInt32] := Ec_pl p32 p128 p34 p92
          replace V_b : Arv Z h12 b kb .byte 4096 (((bs ++ [(34 : Int32)]) ++ Ec x).map Value.int) (.int 0) := by rw [hE]; exact V_b
          rw [show (Int32.ofNat ((bs ++ [(34 : Int32)]).length + 1)) = Int32.ofNat ((bs ++ [(34 : Int32)]) ++ Ec x).length from by rw [hE]; exact lnI rfl]
          show Go _ _ _ _ (T12.setTop (mkF m_ 107 #[.val (.ref j), .val (.ref q), .val (.int (0 : Int32)), .val (.ref b), .val (.int (Int32.ofNat ((bs ++ [(34 : Int32)]) ++ Ec x).length)), .val (.int (0 : Int32)), .val (.int x)] []))
          exact quo_1 cx j b bs ((bs ++ [(34 : Int32)]) ++ Ec x) q t x y h x ((W12.more (by decide) (by decide)).sub (allS (List.mem_of_getElem? (i := 0) rfl) (allS (List.mem_of_getElem? (i := 1) rfl) all0))) hby hml hret hnm E_j F_bytes_j F_length_j F_first_j V_b g_j g_b S_q ne_t_b ne_q_b hX hY rfl hl K0
    · refine Go.st (fun _ => XS.icmpYes W7.here W7.ex rfl (pc0 := 67) (pc' := 97) rfl (hb hby d23_67) rfl (flt (p128 : ¬ (x < (128 : Int32)))).2.1 (by decide) (by decide)) ?_
      refine Go.st (fun _ => XS.aloadN W7.here W7.ex rfl (hb hby d23_97) rfl rfl) ?_
      show Go _ _ _ _ (T7.setTop (mkF m_ 98 #[.val (.ref j), .val (.ref q), .val (.int (0 : Int32)), .val (.ref b), .val (.int (Int32.ofNat (bs ++ [(34 : Int32)]).length)), .val (.int (0 : Int32)), .val (.int x)] [(.ref j)]))
      refine Go.st (fun _ => XS.iload W7.here W7.ex rfl (hb hby d23_98) rfl) ?_
      refine Go.st (fun _ => XS.iload W7.here W7.ex rfl (hb hby d23_100) rfl) ?_
      show Go _ _ _ _ (T7.setTop (mkF m_ 102 #[.val (.ref j), .val (.ref q), .val (.int (0 : Int32)), .val (.ref b), .val (.int (Int32.ofNat (bs ++ [(34 : Int32)]).length)), .val (.int (0 : Int32)), .val (.int x)] [(.int (Int32.ofNat (bs ++ [(34 : Int32)]).length)), (.int x), (.ref j)]))
      refine W7.callP (y := Y4) (cx.w 151 rfl) (cx.w 153 rfl) (selP (y' := Y1) (cx.w 45 rfl) rfl (cx.w 153 rfl) (cx.w 152 rfl) (by decide)) (cx.w 152 rfl) (cx.w 33 rfl) (cx.w 154 rfl) (by decide) E_j (ct_esc cx W7.old j b (bs ++ [(34 : Int32)]) x E_j F_bytes_j V_b g_b (by omega) hX (fun q => p128 q.2.1)) (allS (List.mem_of_getElem? (i := 1) rfl) all0) (by decide) (Wd := 0) (by decide) (k' := 2) (n' := 28) rfl rfl (by decide) (by decide) (by rw [hml]; rfl) (a := j) (argsL := [(.int x), (.int (Int32.ofNat (bs ++ [(34 : Int32)]).length))]) (rest := []) rfl (lenOf pd22 rfl) rfl (Nat.le_of_eq rfl) (hb hby d23_102) ?_
      intro v9 vm9 T9 h9 L9 W9 q9
      obtain ⟨rfl, Ke, V_b⟩ := q9
      replace E_j := E_j.keep Ke
      replace F_bytes_j := F_bytes_j.keep Ke (ninS (Ne.symm ne_b_j) nin0)
      replace F_length_j := F_length_j.keep Ke (ninS (Ne.symm ne_b_j) nin0)
      replace F_first_j := F_first_j.keep Ke (ninS (Ne.symm ne_b_j) nin0)
      replace S_q := S_q.keep Ke (ninS ne_q_b nin0) (ninS ne_t_b nin0)
      replace K0 := K0.trans Ke (allS (Or.inl (List.mem_of_getElem? (i := 1) rfl)) all0)
      refine Go.st (fun _ => XS.istore W9.here W9.ex rfl (hb hby d23_105) rfl (l' := #[.val (.ref j), .val (.ref q), .val (.int (0 : Int32)), .val (.ref b), .val (.int (Int32.ofNat ((bs ++ [(34 : Int32)]) ++ Ec x).length)), .val (.int (0 : Int32)), .val (.int x)]) rfl) ?_
      show Go _ _ _ _ (T9.setTop (mkF m_ 107 #[.val (.ref j), .val (.ref q), .val (.int (0 : Int32)), .val (.ref b), .val (.int (Int32.ofNat ((bs ++ [(34 : Int32)]) ++ Ec x).length)), .val (.int (0 : Int32)), .val (.int x)] []))
      exact quo_1 cx j b bs ((bs ++ [(34 : Int32)]) ++ Ec x) q t x y h x ((W9.more (by decide) (by decide)).sub (allS (List.mem_of_getElem? (i := 0) rfl) (allS (List.mem_of_getElem? (i := 1) rfl) all0))) hby hml hret hnm E_j F_bytes_j F_length_j F_first_j V_b g_j g_b S_q ne_t_b ne_q_b hX hY rfl hl K0
theorem ct_str {l : Launch} {Z a0 n0 g1 gf hxa khx} (cx : Ctx Z a0 n0 g1 gf hxa khx) {h : Heap} (O : Old Z n0 h) (j b : Addr) (bs : List Int32) {kb : ClassId} (q t : Addr) (x y : Int32) (J : JT Z h j b kb bs 1) (g_j : n0 ≤ j) (g_b : n0 ≤ b) (hl : bs.length ≤ 170) (hl2 : bs.length ≤ 100) (S_q : Str2 Z h q t x y) (ne_t_b : t ≠ b) (ne_q_b : q ≠ b) (hX : R16 x) (hY : R16 y) :
    Ct l Z consts_1 n0 [] Y12 prog_10_method_7_code 2 (some (.object "com/example/dijtabla/dijtabla/JsonText")) ({ frames := 7, cells := 4, slots := 56, locals := 102 } : Room) #[(.ref j), (.ref q)] [j, b] h (fun v _ h' => v = some (.ref j) ∧ Keep h h' [j, b] ∧ JT Z h' j b kb (bs ++ [34] ++ Ec x ++ Ec y ++ [34]) 0) := by
  obtain ⟨E_j, F_bytes_j, F_length_j, F_first_j, V_b⟩ := J
  have ne_b_j : b ≠ j := (Ne.symm (Exa.neArv E_j V_b (cx.w 32 rfl)))
  have ne_q_j : q ≠ j := (Ne.symm (Ne.symm (S_q.neC E_j (by decide))))
  have ne_t_j : t ≠ j := (Ne.symm (Ne.symm (S_q.neT E_j (cx.w 32 rfl))))
  refine Ct.intro (plainFor_of_name pn4) O cx.ew ?_
  intro p_ e_ s_ m_ bl_ mt_ c_ T0 W0 hby hml hret hnm
  refine Go.st (fun t_ k_ => castTop (g' := mkF m_ 0 #[.val (.ref j), .val (.ref q)] []) (by first | (simp [entryFrame, mkF, argsToLocals, Value.category]; done) | rfl) k_) ?_
  show Go _ _ _ _ (T0.setTop (mkF m_ 0 #[.val (.ref j), .val (.ref q)] []))
  have K0 : Keep h h [j, b] := Keep.refl _ _
  refine Go.st (fun _ => XS.aloadN W0.here W0.ex rfl (hb hby d22_0) rfl rfl) ?_
  refine Go.st (fun _ => XS.ifnonnullYes W0.here W0.ex rfl (pc0 := 1) (pc' := 11) rfl (hb hby d22_1) rfl (by decide) (by decide)) ?_
  show Go _ _ _ _ (T0.setTop (mkF m_ 11 #[.val (.ref j), .val (.ref q)] []))
  refine Go.st (fun _ => XS.aloadN W0.here W0.ex rfl (hb hby d22_11) rfl rfl) ?_
  show Go _ _ _ _ (T0.setTop (mkF m_ 12 #[.val (.ref j), .val (.ref q)] [(.ref j)]))
  refine W0.callP (y := Y13) (cx.w 93 rfl) (cx.w 95 rfl) (selP (y' := Y1) (cx.w 45 rfl) rfl (cx.w 95 rfl) (cx.w 94 rfl) (by decide)) (cx.w 94 rfl) (cx.w 33 rfl) (cx.w 96 rfl) (by decide) E_j (ct_val1 cx W0.old j b bs  ⟨E_j, F_bytes_j, F_length_j, F_first_j, V_b⟩ g_j g_b (by omega)) (allS (List.mem_of_getElem? (i := 0) rfl) (allS (List.mem_of_getElem? (i := 1) rfl) all0)) (by decide) (Wd := 0) (by decide) (k' := 0) (n' := 0) rfl rfl (by decide) (by decide) (by rw [hml]; rfl) (a := j) (argsL := []) (rest := []) rfl (lenOf pd16 rfl) rfl (Nat.le_of_eq rfl) (hb hby d22_12) ?_
  intro v1 vm1 T1 h1 L1 W1 q1
  obtain ⟨rfl, Kj8, Jq⟩ := q1
  replace E_j := E_j.keep Kj8
  replace S_q := S_q.keep Kj8 (ninS ne_q_j (ninS ne_q_b nin0)) (ninS ne_t_j (ninS ne_t_b nin0))
  replace K0 := K0.trans Kj8 (allS (Or.inl (List.mem_of_getElem? (i := 0) rfl)) (allS (Or.inl (List.mem_of_getElem? (i := 1) rfl)) all0))
  show Go _ _ _ _ (T1.setTop (mkF m_ 15 #[.val (.ref j), .val (.ref q)] []))
  obtain ⟨-, F_bytes_j, F_length_j, F_first_j, V_b⟩ := Jq
  refine Go.st (fun _ => XS.aloadN W1.here W1.ex rfl (hb hby d22_15) rfl rfl) ?_
  refine Go.st (fun _ => XS.aloadN W1.here W1.ex rfl (hb hby d22_16) rfl rfl) ?_
  show Go _ _ _ _ (T1.setTop (mkF m_ 17 #[.val (.ref j), .val (.ref q)] [(.ref q), (.ref j)]))
  refine Go.st (fun _ => XS.iconst W1.here W1.ex rfl (hb hby d22_17)) ?_
  show Go _ _ _ _ (T1.setTop (mkF m_ 18 #[.val (.ref j), .val (.ref q)] [(.int (0 : Int32)), (.ref q), (.ref j)]))
  refine W1.callP (y := (⟨"com/example/dijtabla/dijtabla/JsonText", "quoted", "(Ljava/lang/String;I)V"⟩ : MethodName)) (cx.w 110 rfl) (cx.w 112 rfl) (selP (y' := Y1) (cx.w 45 rfl) rfl (cx.w 112 rfl) (cx.w 111 rfl) (by decide)) (cx.w 111 rfl) (cx.w 33 rfl) (cx.w 113 rfl) (by decide) E_j (ct_quo cx W1.old j b bs q t x y ⟨E_j, F_bytes_j, F_length_j, F_first_j, V_b⟩ g_j g_b hl2 S_q ne_t_b ne_q_b hX hY) (allS (List.mem_of_getElem? (i := 0) rfl) (allS (List.mem_of_getElem? (i := 1) rfl) all0)) (by decide) (Wd := 0) (by decide) (k' := 4) (n' := 56) rfl rfl (by decide) (by decide) (by rw [hml]; rfl) (a := j) (argsL := [(.ref q), (.int (0 : Int32))]) (rest := []) rfl (lenOf pd23 rfl) rfl (Nat.le_of_eq rfl) (hb hby d22_18) ?_
  intro v2 vm2 T2 h2 L2 W2 q2
  obtain ⟨rfl, K2, Jq⟩ := q2
  replace E_j := E_j.keep K2
  replace S_q := S_q.keep K2 (ninS ne_q_j (ninS ne_q_b nin0)) (ninS ne_t_j (ninS ne_t_b nin0))
  replace K0 := K0.trans K2 (allS (Or.inl (List.mem_of_getElem? (i := 0) rfl)) (allS (Or.inl (List.mem_of_getElem? (i := 1) rfl)) all0))
  show Go _ _ _ _ (T2.setTop (mkF m_ 21 #[.val (.ref j), .val (.ref q)] []))
  obtain ⟨-, F_bytes_j, F_length_j, F_first_j, V_b⟩ := Jq
  refine Go.st (fun _ => XS.aloadN W2.here W2.ex rfl (hb hby d22_21) rfl rfl) ?_
  show Go _ _ _ _ (T2.setTop (mkF m_ 22 #[.val (.ref j), .val (.ref q)] [(.ref j)]))
  exact W2.retA hret rfl rfl (hb hby d22_22) (by decide) (by decide) fun vr_ cr_ => ⟨rfl, K0, E_j, F_bytes_j, F_length_j, F_first_j, V_b⟩
theorem ct_ji {l : Launch} {Z a0 n0 g1 gf hxa khx} (cx : Ctx Z a0 n0 g1 gf hxa khx) {h : Heap} (O : Old Z n0 h) (j : Addr) (E_j : Exa Z h j "com/example/dijtabla/dijtabla/JsonText") (F_bytes_j : Fld Z h j "com/example/dijtabla/dijtabla/JsonText" "bytes" "[B" .null) (F_length_j : Fld Z h j "com/example/dijtabla/dijtabla/JsonText" "length" "I" (.int 0)) (F_first_j : Fld Z h j "com/example/dijtabla/dijtabla/JsonText" "first" "Z" (.int 0)) (g_j : n0 ≤ j) :
    Ct l Z consts_1 n0 [] (⟨"com/example/dijtabla/dijtabla/JsonText", "<init>", "()V"⟩ : MethodName) prog_10_method_1_code 1 none ({ frames := 1, cells := 1, slots := 4096, locals := 12 } : Room) #[(.ref j)] [j] h (fun v vm h' => v = none ∧ ∃ (b : Addr) (kb : ClassId), h.size ≤ b ∧ n0 ≤ b ∧ Keep h h' [j] ∧ JT Z h' j b kb [] 1 ∧ Safe Z consts_1 vm h' b) := by
  refine Ct.intro (plainFor_of_name pn4) O cx.ew ?_
  intro p_ e_ s_ m_ bl_ mt_ c_ T0 W0 hby hml hret hnm
  refine Go.st (fun t_ k_ => castTop (g' := mkF m_ 0 #[.val (.ref j)] []) (by first | (simp [entryFrame, mkF, argsToLocals, Value.category]; done) | rfl) k_) ?_
  show Go _ _ _ _ (T0.setTop (mkF m_ 0 #[.val (.ref j)] []))
  have K0 : Keep h h [j] := Keep.refl _ _
  refine Go.st (fun _ => XS.aloadN W0.here W0.ex rfl (hb hby d7_0) rfl rfl) ?_
  show Go _ _ _ _ (T0.setTop (mkF m_ 1 #[.val (.ref j)] [(.ref j)]))
  refine W0.initO (cx.w 37 rfl) (cx.w 13 rfl) (cx.w 14 rfl) (by rw [hml]; rfl) (hb hby d7_1) (by decide) (Wd := 0) (Nat.le_of_eq rfl) (by decide) ?_
  intro T1 W1
  refine Go.st (fun _ => XS.aloadN W1.here W1.ex rfl (hb hby d7_4) rfl rfl) ?_
  refine Go.st (fun _ => XS.sipush W1.here W1.ex rfl (hb hby d7_5)) ?_
  show Go _ _ _ _ (T1.setTop (mkF m_ 8 #[.val (.ref j)] [(.int (4096 : Int32)), (.ref j)]))
  refine W1.newP (ty := .byte) (dv := .int 0) rfl rfl (cx.w 20 rfl) (hb hby d7_8) (z := (4096 : Int32)) (by decide) (cap := 4096) (by decide) (by decide) (k' := 1) (n' := 4096) rfl rfl (by decide) (by decide) ?_
  intro T2 h2 b2 kA_b2 hb2 g_b2 W2 E2 V_b2
  have ne_j_b2 : j ≠ b2 := Nat.ne_of_lt (Nat.lt_of_lt_of_le E_j.lt (Nat.le_of_eq hb2.symm))
  have sz_b2 : h.size ≤ b2 := Nat.le_trans K0.1 (Nat.le_of_eq hb2.symm)
  replace E_j := E_j.ext E2
  replace F_bytes_j := F_bytes_j.ext E2
  replace F_length_j := F_length_j.ext E2
  replace F_first_j := F_first_j.ext E2
  replace K0 := K0.ext E2
  show Go _ _ _ _ (T2.setTop (mkF m_ 10 #[.val (.ref j)] [(.ref b2), (.ref j)]))
  refine W2.putF (cx.w 38 rfl) Via.refl F_bytes_j E_j (Or.inl (cx.w 39 rfl)) (cx.w 32 rfl) (ty := (.array .byte)) (by decide) rfl rfl (List.mem_of_getElem? (i := 1) rfl) g_j (hb hby d7_10) ?_
  intro T3 h3 L3 W3 w3
  replace E_j := E_j.wr w3
  replace F_bytes_j := F_bytes_j.same w3
  replace F_length_j := F_length_j.other w3 (Or.inr (slot_ne (Or.inl (cx.w 48 rfl)) (Or.inl (cx.w 39 rfl)) (by decide) (t := .int) (t' := (.array .byte)) (by decide) (by decide)))
  replace F_first_j := F_first_j.other w3 (Or.inr (slot_ne (Or.inl (cx.w 41 rfl)) (Or.inl (cx.w 39 rfl)) (by decide) (t := .boolean) (t' := (.array .byte)) (by decide) (by decide)))
  replace V_b2 := V_b2.other w3 (Ne.symm ne_j_b2)
  replace K0 := K0.wr w3 (Or.inl (List.mem_of_getElem? (i := 0) rfl))
  refine Go.st (fun _ => XS.aloadN W3.here W3.ex rfl (hb hby d7_13) rfl rfl) ?_
  refine Go.st (fun _ => XS.iconst W3.here W3.ex rfl (hb hby d7_14)) ?_
  show Go _ _ _ _ (T3.setTop (mkF m_ 15 #[.val (.ref j)] [(.int (1 : Int32)), (.ref j)]))
  refine W3.putF (cx.w 40 rfl) Via.refl F_first_j E_j (Or.inl (cx.w 41 rfl)) (cx.w 32 rfl) (ty := .boolean) (by decide) rfl rfl (List.mem_of_getElem? (i := 1) rfl) g_j (hb hby d7_15) ?_
  intro T4 h4 L4 W4 w4
  replace E_j := E_j.wr w4
  replace F_bytes_j := F_bytes_j.other w4 (Or.inr (slot_ne (Or.inl (cx.w 39 rfl)) (Or.inl (cx.w 41 rfl)) (by decide) (t := (.array .byte)) (t' := .boolean) (by decide) (by decide)))
  replace F_length_j := F_length_j.other w4 (Or.inr (slot_ne (Or.inl (cx.w 48 rfl)) (Or.inl (cx.w 41 rfl)) (by decide) (t := .int) (t' := .boolean) (by decide) (by decide)))
  replace F_first_j := F_first_j.same w4
  replace V_b2 := V_b2.other w4 (Ne.symm ne_j_b2)
  replace K0 := K0.wr w4 (Or.inl (List.mem_of_getElem? (i := 0) rfl))
  show Go _ _ _ _ (T4.setTop (mkF m_ 18 #[.val (.ref j)] []))
  exact W4.retV hret (hb hby d7_18) (by decide) (by decide) fun vr_ cr_ => ⟨rfl, b2, _, sz_b2, g_b2, K0, ⟨E_j, F_bytes_j, F_length_j, F_first_j, V_b2.pad fun i => (pad_rep [] _ 4096 i).symm⟩, (W4.sf.chr cr_ _ (List.mem_of_getElem? (i := 0) rfl)).1⟩
theorem ct_min {l : Launch} {Z a0 n0 g1 gf hxa khx} (cx : Ctx Z a0 n0 g1 gf hxa khx) {h : Heap} (O : Old Z n0 h) (n : Int32) (q : n < 4096) :
    Ct l Z consts_1 n0 [] (⟨"java/lang/Math", "min", "(II)I"⟩ : MethodName) jdk_29_method_69_code 2 (some .int) ({ frames := 0, cells := 0, slots := 0, locals := 0 } : Room) #[(.int (4096 : Int32)), (.int n)] [] h (fun v _ h' => v = some (.int n) ∧ h' = h) := by
  refine Ct.intro (Jvm.Free.JP.mathPlain rfl (by decide +kernel)) O cx.ew ?_
  intro p_ e_ s_ m_ bl_ mt_ c_ T0 W0 hby hml hret hnm
  refine Go.st (fun t_ k_ => castTop (g' := mkF m_ 0 #[.val (.int (4096 : Int32)), .val (.int n)] []) (by first | (simp [entryFrame, mkF, argsToLocals, Value.category]; done) | rfl) k_) ?_
  refine Go.st (fun _ => XS.iloadN W0.here W0.ex rfl (hb hby d10_0) rfl) ?_
  refine Go.st (fun _ => XS.iloadN W0.here W0.ex rfl (hb hby d10_1) rfl) ?_
  refine Go.st (fun _ => XS.icmpYes W0.here W0.ex rfl (pc0 := 2) (pc' := 9) rfl (hb hby d10_2) rfl (tlt (q : n < (4096 : Int32))).2.2.1 (by decide) (by decide)) ?_
  show Go _ _ _ _ (T0.setTop (mkF m_ 9 #[.val (.int (4096 : Int32)), .val (.int n)] []))
  refine Go.st (fun _ => XS.iloadN W0.here W0.ex rfl (hb hby d10_9) rfl) ?_
  show Go _ _ _ _ (T0.setTop (mkF m_ 10 #[.val (.int (4096 : Int32)), .val (.int n)] [(.int n)]))
  exact W0.retI hret (hb hby d10_10) (by decide) (by decide) fun vr_ cr_ => ⟨rfl, rfl⟩
theorem ct_copy {l : Launch} {Z a0 n0 g1 gf hxa khx} (cx : Ctx Z a0 n0 g1 gf hxa khx) {h : Heap} (O : Old Z n0 h) (b : Addr) (bs : List Int32) {kb : ClassId} (V_b : Arv Z h b kb .byte 4096 (bs.map Value.int) (.int 0)) (hl : bs.length ≤ 24) :
    Ct l Z consts_1 n0 [] (⟨"java/util/Arrays", "copyOf", "([BI)[B"⟩ : MethodName) jdk_65_method_121_code 3 (some (.array .byte)) ({ frames := 1, cells := 1, slots := 24, locals := 18 } : Room) #[(.ref b), (.int (Int32.ofNat bs.length))] [] h (fun v vm h' => ∃ (r : Addr) (kr : ClassId), v = some (.ref r) ∧ h.size ≤ r ∧ n0 ≤ r ∧ Keep h h' [] ∧ Arv Z h' r kr .byte (Int32.ofNat bs.length) (bs.map Value.int) (.int 0) ∧ Safe Z consts_1 vm h' r) := by
  refine Ct.intro (plainFor_of_name pn6) O cx.ew ?_
  intro p_ e_ s_ m_ bl_ mt_ c_ T0 W0 hby hml hret hnm
  refine Go.st (fun t_ k_ => castTop (g' := mkF m_ 0 #[.val (.ref b), .val (.int (Int32.ofNat bs.length)), .unset] []) (by first | (simp [entryFrame, mkF, argsToLocals, Value.category]; done) | rfl) k_) ?_
  show Go _ _ _ _ (T0.setTop (mkF m_ 0 #[.val (.ref b), .val (.int (Int32.ofNat bs.length)), .unset] []))
  have K0 : Keep h h [] := Keep.refl _ _
  refine Go.st (fun _ => XS.iloadN W0.here W0.ex rfl (hb hby d9_0) rfl) ?_
  refine Go.st (fun _ => XS.aloadN W0.here W0.ex rfl (hb hby d9_1) rfl rfl) ?_
  show Go _ _ _ _ (T0.setTop (mkF m_ 2 #[.val (.ref b), .val (.int (Int32.ofNat bs.length)), .unset] [(.ref b), (.int (Int32.ofNat bs.length))]))
  refine W0.alen V_b (hb hby d9_2) ?_
  refine Go.st (fun _ => XS.icmpYes W0.here W0.ex rfl (pc0 := 3) (pc' := 14) rfl (hb hby d9_3) rfl (feq ((ofn_ne hl) : ¬ ((Int32.ofNat bs.length) = (4096 : Int32)))).2 (by decide) (by decide)) ?_
  refine Go.st (fun _ => XS.iloadN W0.here W0.ex rfl (hb hby d9_14) rfl) ?_
  show Go _ _ _ _ (T0.setTop (mkF m_ 15 #[.val (.ref b), .val (.int (Int32.ofNat bs.length)), .unset] [(.int (Int32.ofNat bs.length))]))
  refine W0.newP (ty := .byte) (dv := .int 0) rfl rfl (cx.w 20 rfl) (hb hby d9_15) (z := (Int32.ofNat bs.length)) (Int32.ofNat_not_neg (by omega)) (cap := 24) (by rw [ofn_nat (by omega)]; exact hl) (by decide) (k' := 1) (n' := 24) rfl rfl (by decide) (by decide) ?_
  intro T1 h1 b1 kA_b1 hb1 g_b1 W1 E1 V_b1
  have ne_b_b1 : b ≠ b1 := Nat.ne_of_lt (Nat.lt_of_lt_of_le V_b.lt (Nat.le_of_eq hb1.symm))
  have sz_b1 : h.size ≤ b1 := Nat.le_trans K0.1 (Nat.le_of_eq hb1.symm)
  replace V_b := V_b.ext E1
  replace K0 := K0.ext E1
  replace V_b1 : Arv Z h1 b1 kA_b1 .byte (Int32.ofNat bs.length) [(.int 0), (.int 0), (.int 0), (.int 0), (.int 0), (.int 0), (.int 0), (.int 0), (.int 0), (.int 0), (.int 0), (.int 0), (.int 0), (.int 0), (.int 0), (.int 0), (.int 0), (.int 0), (.int 0), (.int 0), (.int 0), (.int 0), (.int 0), (.int 0)] (.int 0) := V_b1
  refine Go.st (fun _ => XS.astoreN W1.here W1.ex rfl (hb hby d9_17) rfl rfl (l' := #[.val (.ref b), .val (.int (Int32.ofNat bs.length)), .val (.ref b1)]) rfl) ?_
  refine Go.st (fun _ => XS.aloadN W1.here W1.ex rfl (hb hby d9_18) rfl rfl) ?_
  refine Go.st (fun _ => XS.iconst W1.here W1.ex rfl (hb hby d9_19)) ?_
  show Go _ _ _ _ (T1.setTop (mkF m_ 20 #[.val (.ref b), .val (.int (Int32.ofNat bs.length)), .val (.ref b1)] [(.int (0 : Int32)), (.ref b)]))
  refine Go.st (fun _ => XS.aloadN W1.here W1.ex rfl (hb hby d9_20) rfl rfl) ?_
  refine Go.st (fun _ => XS.iconst W1.here W1.ex rfl (hb hby d9_21)) ?_
  refine Go.st (fun _ => XS.aloadN W1.here W1.ex rfl (hb hby d9_22) rfl rfl) ?_
  show Go _ _ _ _ (T1.setTop (mkF m_ 23 #[.val (.ref b), .val (.int (Int32.ofNat bs.length)), .val (.ref b1)] [(.ref b), (.int (0 : Int32)), (.ref b1), (.int (0 : Int32)), (.ref b)]))
  refine W1.alen V_b (hb hby d9_23) ?_
  refine Go.st (fun _ => XS.iloadN W1.here W1.ex rfl (hb hby d9_24) rfl) ?_
  show Go _ _ _ _ (T1.setTop (mkF m_ 25 #[.val (.ref b), .val (.int (Int32.ofNat bs.length)), .val (.ref b1)] [(.int (Int32.ofNat bs.length)), (.int (4096 : Int32)), (.int (0 : Int32)), (.ref b1), (.int (0 : Int32)), (.ref b)]))
  refine W1.callS (y := (⟨"java/lang/Math", "min", "(II)I"⟩ : MethodName)) (cx.w 53 rfl) (cx.w 54 rfl) (cx.w 55 rfl) (cx.w 56 rfl) (by decide) (ct_min cx W1.old (Int32.ofNat bs.length) (ofn_lt hl)) all0 (by decide) (Wd := 4) (by decide) (k' := 1) (n' := 24) rfl rfl (by decide) (by decide) (by rw [hml]; rfl) (argsL := [(.int (4096 : Int32)), (.int (Int32.ofNat bs.length))]) (rest := [(.int (0 : Int32)), (.ref b1), (.int (0 : Int32)), (.ref b)]) rfl (lenOf pd24 rfl) rfl (Nat.le_of_eq rfl) (hb hby d9_25) ?_
  intro v2 vm2 T2 h2 L2 W2 q2
  obtain ⟨rfl, eh_⟩ := q2
  subst h2
  show Go _ _ _ _ (T2.setTop (mkF m_ 28 #[.val (.ref b), .val (.int (Int32.ofNat bs.length)), .val (.ref b1)] [(.int (Int32.ofNat bs.length)), (.int (0 : Int32)), (.ref b1), (.int (0 : Int32)), (.ref b)]))
  refine W2.cpP (cx.w 57 rfl) (cx.w 60 rfl) (cx.w 58 rfl) (cx.w 59 rfl) V_b V_b1 rfl (by decide) (by decide) (Int32.ofNat_not_neg (by omega)) (by rw [ofn_nat (by omega)]; show 0 + bs.length ≤ 4096; omega) (Nat.le_of_eq (Nat.zero_add _)) (us := bs.map Value.int) (cp_us (by omega)) (by rw [ofn_nat (by omega)]; show 0 + bs.length ≤ 24; omega) (List.mem_of_getElem? (i := 0) rfl) g_b1 (by rw [hml]; rfl) (hb hby d9_28) (by decide) (Wd := 0) (Nat.le_of_eq rfl) (by decide) ?_
  intro T3 h3 L3 W3 Kc3 V_new
  replace V_b := V_b.keep Kc3 (ninS ne_b_b1 nin0)
  replace K0 := K0.trans Kc3 (allS (Or.inr sz_b1) all0)
  replace V_b1 : Arv Z h3 b1 kA_b1 .byte (Int32.ofNat bs.length) (bs.map Value.int) (.int 0) := V_new.pad fun i => cp_pad (cap := 24) (by omega) i
  clear V_new
  refine Go.st (fun _ => XS.aloadN W3.here W3.ex rfl (hb hby d9_31) rfl rfl) ?_
  show Go _ _ _ _ (T3.setTop (mkF m_ 32 #[.val (.ref b), .val (.int (Int32.ofNat bs.length)), .val (.ref b1)] [(.ref b1)]))
  exact W3.retA hret rfl rfl (hb hby d9_32) (by decide) (by decide) fun vr_ cr_ => ⟨b1, _, rfl, sz_b1, g_b1, K0, V_b1, (W3.sf.chr cr_ _ (List.mem_of_getElem? (i := 0) rfl)).1⟩
theorem ct_bytes {l : Launch} {Z a0 n0 g1 gf hxa khx} (cx : Ctx Z a0 n0 g1 gf hxa khx) {h : Heap} (O : Old Z n0 h) (j b : Addr) (bs : List Int32) {kb : ClassId} (f : Int32) (J : JT Z h j b kb bs f) (hl : bs.length ≤ 24) :
    Ct l Z consts_1 n0 [] Y1 prog_10_method_11_code 1 (some (.array .byte)) ({ frames := 2, cells := 1, slots := 24, locals := 32 } : Room) #[(.ref j)] [] h (fun v vm h' => ∃ (r : Addr) (kr : ClassId), v = some (.ref r) ∧ h.size ≤ r ∧ n0 ≤ r ∧ Keep h h' [] ∧ Arv Z h' r kr .byte (Int32.ofNat bs.length) (bs.map Value.int) (.int 0) ∧ Safe Z consts_1 vm h' r) := by
  obtain ⟨E_j, F_bytes_j, F_length_j, F_first_j, V_b⟩ := J
  have ne_b_j : b ≠ j := (Ne.symm (Exa.neArv E_j V_b (cx.w 32 rfl)))
  refine Ct.intro (plainFor_of_name pn4) O cx.ew ?_
  intro p_ e_ s_ m_ bl_ mt_ c_ T0 W0 hby hml hret hnm
  refine Go.st (fun t_ k_ => castTop (g' := mkF m_ 0 #[.val (.ref j)] []) (by first | (simp [entryFrame, mkF, argsToLocals, Value.category]; done) | rfl) k_) ?_
  refine Go.st (fun _ => XS.aloadN W0.here W0.ex rfl (hb hby d8_0) rfl rfl) ?_
  show Go _ _ _ _ (T0.setTop (mkF m_ 1 #[.val (.ref j)] [(.ref j)]))
  refine W0.getF (cx.w 38 rfl) Via.refl F_bytes_j (hb hby d8_1) ?_
  intro T1 W1
  refine Go.st (fun _ => XS.aloadN W1.here W1.ex rfl (hb hby d8_4) rfl rfl) ?_
  show Go _ _ _ _ (T1.setTop (mkF m_ 5 #[.val (.ref j)] [(.ref j), (.ref b)]))
  refine W1.getF (cx.w 47 rfl) Via.refl F_length_j (hb hby d8_5) ?_
  intro T2 W2
  show Go _ _ _ _ (T2.setTop (mkF m_ 8 #[.val (.ref j)] [(.int (Int32.ofNat bs.length)), (.ref b)]))
  refine W2.callS (y := (⟨"java/util/Arrays", "copyOf", "([BI)[B"⟩ : MethodName)) (cx.w 49 rfl) (cx.w 50 rfl) (cx.w 51 rfl) (cx.w 52 rfl) (by decide) (ct_copy cx W2.old b bs V_b hl) all0 (by decide) (Wd := 0) (by decide) (k' := 1) (n' := 24) rfl rfl (by decide) (by decide) (by rw [hml]; rfl) (argsL := [(.ref b), (.int (Int32.ofNat bs.length))]) (rest := []) rfl (lenOf pd25 rfl) rfl (Nat.le_of_eq rfl) (hb hby d8_8) ?_
  intro v3 vm3 T3 h3 L3 W3 q3
  obtain ⟨r, kr, rfl, hz_r, g_r, K1, V_r, sf_r⟩ := q3
  have ne_j_r : j ≠ r := Nat.ne_of_lt (Nat.lt_of_lt_of_le E_j.lt hz_r)
  have ne_b_r : b ≠ r := Nat.ne_of_lt (Nat.lt_of_lt_of_le V_b.lt hz_r)
  replace E_j := E_j.keep K1
  replace F_bytes_j := F_bytes_j.keep K1 nin0
  replace F_length_j := F_length_j.keep K1 nin0
  replace F_first_j := F_first_j.keep K1 nin0
  replace V_b := V_b.keep K1 nin0
  show Go _ _ _ _ (T3.setTop (mkF m_ 11 #[.val (.ref j)] [(.ref r)]))
  have Wb4 := W3.cons sf_r V_r.lt
  exact Wb4.retA hret rfl rfl (hb hby d8_11) (by decide) (by decide) fun vr_ cr_ => ⟨r, kr, rfl, hz_r, g_r, K1, V_r, (Wb4.sf.chr cr_ _ (List.mem_of_getElem? (i := 0) rfl)).1⟩
theorem ct_same {l : Launch} {Z a0 n0 g1 gf hxa khx} (cx : Ctx Z a0 n0 g1 gf hxa khx) {h : Heap} (O : Old Z n0 h) (r e : Addr) (bs : List Int32) (i : Int32) {kr ke : ClassId} (V_r : Arv Z h r kr .byte (Int32.ofNat bs.length) (bs.map Value.int) (.int 0)) (V_e : Arv Z h e ke .byte 32 (bs.map Value.int) (.int 0)) (hi : ¬ i < 0 ∧ i < 32) :
    Ct l Z consts_1 n0 [] Y17 method_3_code 4 (some .boolean) ({ frames := 0, cells := 0, slots := 0, locals := 0 } : Room) #[(.ref r), (.ref e), (.int i), (.int (Int32.ofNat bs.length))] [] h (fun v _ h' => v = some (.int 1) ∧ h' = h) := by
  refine Ct.intro (plainFor_of_name pn7) O cx.ew ?_
  intro p_ e_ s_ m_ bl_ mt_ c_ T0 W0 hby hml hret hnm
  refine Go.st (fun t_ k_ => castTop (g' := mkF m_ 0 #[.val (.ref r), .val (.ref e), .val (.int i), .val (.int (Int32.ofNat bs.length))] []) (by first | (simp [entryFrame, mkF, argsToLocals, Value.category]; done) | rfl) k_) ?_
  refine Go.st (fun _ => XS.iloadN W0.here W0.ex rfl (hb hby d11_0) rfl) ?_
  refine Go.st (fun _ => XS.iloadN W0.here W0.ex rfl (hb hby d11_1) rfl) ?_
  show Go _ _ _ _ (T0.setTop (mkF m_ 2 #[.val (.ref r), .val (.ref e), .val (.int i), .val (.int (Int32.ofNat bs.length))] [(.int (Int32.ofNat bs.length)), (.int i)]))
  by_cases hi1 : i < (Int32.ofNat bs.length)
  · refine Go.st (fun _ => XS.icmpYes W0.here W0.ex rfl (pc0 := 2) (pc' := 7) rfl (hb hby d11_2) rfl (tlt (hi1 : i < (Int32.ofNat bs.length))).1 (by decide) (by decide)) ?_
    refine Go.st (fun _ => XS.iloadN W0.here W0.ex rfl (hb hby d11_7) rfl) ?_
    show Go _ _ _ _ (T0.setTop (mkF m_ 8 #[.val (.ref r), .val (.ref e), .val (.int i), .val (.int (Int32.ofNat bs.length))] [(.int i)]))
    refine Go.st (fun _ => XS.aloadN W0.here W0.ex rfl (hb hby d11_8) rfl rfl) ?_
    show Go _ _ _ _ (T0.setTop (mkF m_ 9 #[.val (.ref r), .val (.ref e), .val (.int i), .val (.int (Int32.ofNat bs.length))] [(.ref r), (.int i)]))
    refine W0.alen V_r (hb hby d11_9) ?_
    refine Go.st (fun _ => XS.icmpNo W0.here W0.ex rfl (hb hby d11_10) rfl (tlt (hi1 : i < (Int32.ofNat bs.length))).2.1) ?_
    refine Go.st (fun _ => XS.iloadN W0.here W0.ex rfl (hb hby d11_13) rfl) ?_
    show Go _ _ _ _ (T0.setTop (mkF m_ 14 #[.val (.ref r), .val (.ref e), .val (.int i), .val (.int (Int32.ofNat bs.length))] [(.int i)]))
    refine Go.st (fun _ => XS.aloadN W0.here W0.ex rfl (hb hby d11_14) rfl rfl) ?_
    show Go _ _ _ _ (T0.setTop (mkF m_ 15 #[.val (.ref r), .val (.ref e), .val (.int i), .val (.int (Int32.ofNat bs.length))] [(.ref e), (.int i)]))
    refine W0.alen V_e (hb hby d11_15) ?_
    refine Go.st (fun _ => XS.icmpNo W0.here W0.ex rfl (hb hby d11_16) rfl (tlt (hi.2 : i < (32 : Int32))).2.1) ?_
    refine Go.st (fun _ => XS.aloadN W0.here W0.ex rfl (hb hby d11_19) rfl rfl) ?_
    show Go _ _ _ _ (T0.setTop (mkF m_ 20 #[.val (.ref r), .val (.ref e), .val (.int i), .val (.int (Int32.ofNat bs.length))] [(.ref r)]))
    refine Go.st (fun _ => XS.iloadN W0.here W0.ex rfl (hb hby d11_20) rfl) ?_
    show Go _ _ _ _ (T0.setTop (mkF m_ 21 #[.val (.ref r), .val (.ref e), .val (.int i), .val (.int (Int32.ofNat bs.length))] [(.int i), (.ref r)]))
    refine W0.ldB V_r (j := i) (v := .int (bs.getD i.toNatClampNeg 0)) ⟨hi.1, hi1⟩ (map_getD _ _) (hb hby d11_21) ?_
    refine Go.st (fun _ => XS.aloadN W0.here W0.ex rfl (hb hby d11_22) rfl rfl) ?_
    refine Go.st (fun _ => XS.iloadN W0.here W0.ex rfl (hb hby d11_23) rfl) ?_
    show Go _ _ _ _ (T0.setTop (mkF m_ 24 #[.val (.ref r), .val (.ref e), .val (.int i), .val (.int (Int32.ofNat bs.length))] [(.int i), (.ref e), (.int (bs.getD i.toNatClampNeg 0))]))
    refine W0.ldB V_e (j := i) (v := .int (bs.getD i.toNatClampNeg 0)) hi (map_getD _ _) (hb hby d11_24) ?_
    refine Go.st (fun _ => XS.icmpNo W0.here W0.ex rfl (hb hby d11_25) rfl (teq (rfl : (bs.getD i.toNatClampNeg 0) = (bs.getD i.toNatClampNeg 0))).2) ?_
    refine Go.st (fun _ => XS.iconst W0.here W0.ex rfl (hb hby d11_28)) ?_
    show Go _ _ _ _ (T0.setTop (mkF m_ 29 #[.val (.ref r), .val (.ref e), .val (.int i), .val (.int (Int32.ofNat bs.length))] [(.int (1 : Int32))]))
    refine Go.st (fun _ => XS.goto W0.here W0.ex rfl (pc0 := 29) (pc' := 33) rfl (hb hby d11_29) (by decide) (by decide)) ?_
    show Go _ _ _ _ (T0.setTop (mkF m_ 33 #[.val (.ref r), .val (.ref e), .val (.int i), .val (.int (Int32.ofNat bs.length))] [(.int (1 : Int32))]))
    exact W0.retN hret (by simp) (hb hby d11_33) (by decide) (by decide) fun vr_ cr_ => ⟨rfl, rfl⟩
  · refine Go.st (fun _ => XS.icmpNo W0.here W0.ex rfl (hb hby d11_2) rfl (flt (hi1 : ¬ (i < (Int32.ofNat bs.length)))).1) ?_
    refine Go.st (fun _ => XS.iconst W0.here W0.ex rfl (hb hby d11_5)) ?_
    show Go _ _ _ _ (T0.setTop (mkF m_ 6 #[.val (.ref r), .val (.ref e), .val (.int i), .val (.int (Int32.ofNat bs.length))] [(.int (1 : Int32))]))
    exact W0.retN hret (by simp) (hb hby d11_6) (by decide) (by decide) fun vr_ cr_ => ⟨rfl, rfl⟩
theorem ct_hex {l : Launch} {Z a0 n0 g1 gf hxa khx} (cx : Ctx Z a0 n0 g1 gf hxa khx) {h : Heap} (O : Old Z n0 h) (d : Int32)  :
    Ct l Z consts_1 n0 [] Y16 method_4_code 1 (some .byte) ({ frames := 0, cells := 0, slots := 0, locals := 0 } : Room) #[(.int d)] [] h (fun v _ h' => v = some (.int (hx d)) ∧ h' = h) := by
  refine Ct.intro (plainFor_of_name pn7) O cx.ew ?_
  intro p_ e_ s_ m_ bl_ mt_ c_ T0 W0 hby hml hret hnm
  refine Go.st (fun t_ k_ => castTop (g' := mkF m_ 0 #[.val (.int d)] []) (by first | (simp [entryFrame, mkF, argsToLocals, Value.category]; done) | rfl) k_) ?_
  refine Go.st (fun _ => XS.iloadN W0.here W0.ex rfl (hb hby d41_0) rfl) ?_
  refine Go.st (fun _ => XS.bipush W0.here W0.ex rfl (hb hby d41_1)) ?_
  show Go _ _ _ _ (T0.setTop (mkF m_ 3 #[.val (.int d)] [(.int (10 : Int32)), (.int d)]))
  by_cases z10 : d < (10 : Int32)
  · refine Go.st (fun _ => XS.icmpNo W0.here W0.ex rfl (hb hby d41_3) rfl (tlt (z10 : d < (10 : Int32))).2.1) ?_
    refine Go.st (fun _ => XS.bipush W0.here W0.ex rfl (hb hby d41_6)) ?_
    show Go _ _ _ _ (T0.setTop (mkF m_ 8 #[.val (.int d)] [(.int (48 : Int32))]))
    refine Go.st (fun _ => XS.iloadN W0.here W0.ex rfl (hb hby d41_8) rfl) ?_
    refine Go.st (fun _ => XS.iadd W0.here W0.ex rfl (hb hby d41_9) rfl) ?_
    refine Go.st (fun _ => XS.goto W0.here W0.ex rfl (pc0 := 10) (pc' := 17) rfl (hb hby d41_10) (by decide) (by decide)) ?_
    show Go _ _ _ _ (T0.setTop (mkF m_ 17 #[.val (.int d)] [(.int ((48 : Int32) + d))]))
    refine Go.st (fun _ => XS.i2b W0.here W0.ex rfl (hb hby d41_17) rfl) ?_
    show Go _ _ _ _ (T0.setTop (mkF m_ 18 #[.val (.int d)] [(.int (((48 : Int32) + d).toInt8.toInt32))]))
    exact W0.retN hret (by simp) (hb hby d41_18) (by decide) (by decide) fun vr_ cr_ => ⟨congrArg (fun z => some (Value.int z)) ((nar_byte _).trans (if_pos z10).symm), rfl⟩
  · refine Go.st (fun _ => XS.icmpYes W0.here W0.ex rfl (pc0 := 3) (pc' := 13) rfl (hb hby d41_3) rfl (flt (z10 : ¬ (d < (10 : Int32)))).2.1 (by decide) (by decide)) ?_
    refine Go.st (fun _ => XS.bipush W0.here W0.ex rfl (hb hby d41_13)) ?_
    show Go _ _ _ _ (T0.setTop (mkF m_ 15 #[.val (.int d)] [(.int (55 : Int32))]))
    refine Go.st (fun _ => XS.iloadN W0.here W0.ex rfl (hb hby d41_15) rfl) ?_
    refine Go.st (fun _ => XS.iadd W0.here W0.ex rfl (hb hby d41_16) rfl) ?_
    refine Go.st (fun _ => XS.i2b W0.here W0.ex rfl (hb hby d41_17) rfl) ?_
    show Go _ _ _ _ (T0.setTop (mkF m_ 18 #[.val (.int d)] [(.int (((55 : Int32) + d).toInt8.toInt32))]))
    exact W0.retN hret (by simp) (hb hby d41_18) (by decide) (by decide) fun vr_ cr_ => ⟨congrArg (fun z => some (Value.int z)) ((nar_byte _).trans (if_neg z10).symm), rfl⟩
theorem ct_lesc {l : Launch} {Z a0 n0 g1 gf hxa khx} (cx : Ctx Z a0 n0 g1 gf hxa khx) {h : Heap} (O : Old Z n0 h) (e : Addr) (bs : List Int32) (k d : Int32) {ke : ClassId} (V_e : Arv Z h e ke .byte 32 (bs.map Value.int) (.int 0)) (g_e : n0 ≤ e) (hl : bs.length ≤ 26) (hd : k.toInt8.toInt32 = d) :
    Ct l Z consts_1 n0 [] Y15 method_5_code 3 (some .int) ({ frames := 0, cells := 0, slots := 0, locals := 0 } : Room) #[(.ref e), (.int (Int32.ofNat bs.length)), (.int k)] [e] h (fun v _ h' => v = some (.int (Int32.ofNat (bs.length + 2))) ∧ Keep h h' [e] ∧ Arv Z h' e ke .byte 32 ((bs ++ [92, d]).map Value.int) (.int 0)) := by
  refine Ct.intro (plainFor_of_name pn7) O cx.ew ?_
  intro p_ e_ s_ m_ bl_ mt_ c_ T0 W0 hby hml hret hnm
  refine Go.st (fun t_ k_ => castTop (g' := mkF m_ 0 #[.val (.ref e), .val (.int (Int32.ofNat bs.length)), .val (.int k)] []) (by first | (simp [entryFrame, mkF, argsToLocals, Value.category]; done) | rfl) k_) ?_
  show Go _ _ _ _ (T0.setTop (mkF m_ 0 #[.val (.ref e), .val (.int (Int32.ofNat bs.length)), .val (.int k)] []))
  have K0 : Keep h h [e] := Keep.refl _ _
  refine Go.st (fun _ => XS.aloadN W0.here W0.ex rfl (hb hby d42_0) rfl rfl) ?_
  refine Go.st (fun _ => XS.iloadN W0.here W0.ex rfl (hb hby d42_1) rfl) ?_
  show Go _ _ _ _ (T0.setTop (mkF m_ 2 #[.val (.ref e), .val (.int (Int32.ofNat bs.length)), .val (.int k)] [(.int (Int32.ofNat bs.length)), (.ref e)]))
  refine Go.st (fun _ => XS.bipush W0.here W0.ex rfl (hb hby d42_2)) ?_
  show Go _ _ _ _ (T0.setTop (mkF m_ 4 #[.val (.ref e), .val (.int (Int32.ofNat bs.length)), .val (.int k)] [(.int (92 : Int32)), (.int (Int32.ofNat bs.length)), (.ref e)]))
  refine W0.stA V_e (x := (92 : Int32)) (n1 := bs.length) rfl (rmE0 (by omega)) (List.mem_of_getElem? (i := 0) rfl) g_e (hb hby d42_4) ?_
  intro T1 h1 L1 sl1 vv1 W1 w1 V_new
  replace K0 := K0.wr w1 (Or.inl (List.mem_of_getElem? (i := 0) rfl))
  replace V_e : Arv Z h1 e ke .byte (32 : Int32) ((bs ++ [(92 : Int32)]).map Value.int) (.int 0) := V_new
  clear V_new
  refine Go.st (fun _ => XS.aloadN W1.here W1.ex rfl (hb hby d42_5) rfl rfl) ?_
  refine Go.st (fun _ => XS.iloadN W1.here W1.ex rfl (hb hby d42_6) rfl) ?_
  refine Go.st (fun _ => XS.iconst W1.here W1.ex rfl (hb hby d42_7)) ?_
  show Go _ _ _ _ (T1.setTop (mkF m_ 8 #[.val (.ref e), .val (.int (Int32.ofNat bs.length)), .val (.int k)] [(.int (1 : Int32)), (.int (Int32.ofNat bs.length)), (.ref e)]))
  refine Go.st (fun _ => XS.iadd W1.here W1.ex rfl (hb hby d42_8) rfl) ?_
  show Go _ _ _ _ (T1.setTop (mkF m_ 9 #[.val (.ref e), .val (.int (Int32.ofNat bs.length)), .val (.int k)] [(.int ((Int32.ofNat bs.length) + (1 : Int32))), (.ref e)]))
  rw [show ((Int32.ofNat bs.length) + (1 : Int32)) = (Int32.ofNat (bs.length + 1)) from ofn_add _ 1]
  refine Go.st (fun _ => XS.iloadN W1.here W1.ex rfl (hb hby d42_9) rfl) ?_
  refine Go.st (fun _ => XS.i2b W1.here W1.ex rfl (hb hby d42_10) rfl) ?_
  show Go _ _ _ _ (T1.setTop (mkF m_ 11 #[.val (.ref e), .val (.int (Int32.ofNat bs.length)), .val (.int k)] [(.int (k.toInt8.toInt32)), (.int (Int32.ofNat (bs.length + 1))), (.ref e)]))
  refine W1.stA V_e (x := (k.toInt8.toInt32)) (n1 := (bs.length + 1)) (ln rfl) (rmE (k := 1) rfl (by omega)) (List.mem_of_getElem? (i := 0) rfl) g_e (hb hby d42_11) ?_
  intro T2 h2 L2 sl2 vv2 W2 w2 V_new
  replace K0 := K0.wr w2 (Or.inl (List.mem_of_getElem? (i := 0) rfl))
  rw [nar_byte] at V_new
  replace V_e : Arv Z h2 e ke .byte (32 : Int32) ((bs ++ [(92 : Int32), (k.toInt8.toInt32)]).map Value.int) (.int 0) := by rw [List.append_assoc] at V_new; exact V_new
  clear V_new
  refine Go.st (fun _ => XS.iloadN W2.here W2.ex rfl (hb hby d42_12) rfl) ?_
  refine Go.st (fun _ => XS.iconst W2.here W2.ex rfl (hb hby d42_13)) ?_
  refine Go.st (fun _ => XS.iadd W2.here W2.ex rfl (hb hby d42_14) rfl) ?_
  show Go _ _ _ _ (T2.setTop (mkF m_ 15 #[.val (.ref e), .val (.int (Int32.ofNat bs.length)), .val (.int k)] [(.int ((Int32.ofNat bs.length) + (2 : Int32)))]))
  rw [show ((Int32.ofNat bs.length) + (2 : Int32)) = (Int32.ofNat (bs.length + 2)) from ofn_add _ 2]
  show Go _ _ _ _ (T2.setTop (mkF m_ 15 #[.val (.ref e), .val (.int (Int32.ofNat bs.length)), .val (.int k)] [(.int (Int32.ofNat (bs.length + 2)))]))
  rw [hd] at V_e
  exact W2.retI hret (hb hby d42_15) (by decide) (by decide) fun vr_ cr_ => ⟨rfl, K0, V_e⟩
theorem enc_u {l : Launch} {Z a0 n0 g1 gf hxa khx} (cx : Ctx Z a0 n0 g1 gf hxa khx) {p_ : Program} {e_ : Env} {s_ : State} {m_ : MethodId} {ar_ : Array Value} {bl_ : List Frame} {mt_ : Method} {c_ : Code} {vm0 : Vm} {T0 : State} {h : Heap} {L0 : List Loc} (e : Addr) (bs : List Int32) (c : Int32) (h00 : Heap) {ke : ClassId} (W0 : Wk p_ l e_ ({ frames := 1, cells := 0, slots := 0, locals := 14 } : Room) s_ m_ ar_ bl_ mt_ c_ Z a0 consts_1 n0 "com/example/dijtabla/dijtabla/JsonTextBytesPinLaw" vm0 T0 h L0 0 0 [e]) (hby : c_.code = method_6_code) (hml : c_.maxLocals = 4) (hret : mt_.sig.returnType = (some .int)) (hnm : mt_.name = "enc") (V_e : Arv Z h e ke .byte 32 (bs.map Value.int) (.int 0)) (g_e : n0 ≤ e) (hl : bs.length ≤ 26) (hu : Ec c = [92, 117, hx (c / 4096), hx ((c / 256) % 16), hx ((c / 16) % 16), hx (c % 16)]) (K0 : Keep h00 h [e]) :
    Go p_ e_ bl_ (Pst Z consts_1 n0 s_ ({ frames := 1, cells := 0, slots := 0, locals := 14 } : Room).cells ({ frames := 1, cells := 0, slots := 0, locals := 14 } : Room).slots (fun v _ h' => v = some (.int (Int32.ofNat (bs ++ Ec c).length)) ∧ Keep h00 h' [e] ∧ Arv Z h' e ke .byte 32 ((bs ++ Ec c).map Value.int) (.int 0))) (T0.setTop (mkF m_ 118 #[.val (.ref e), .val (.int (Int32.ofNat bs.length)), .val (.int c), .val (.int c)] [])) := by
  refine Go.st (fun _ => XS.aloadN W0.here W0.ex rfl (hb hby d40_118) rfl rfl) ?_
  refine Go.st (fun _ => XS.iloadN W0.here W0.ex rfl (hb hby d40_119) rfl) ?_
  refine Go.st (fun _ => XS.bipush W0.here W0.ex rfl (hb hby d40_120)) ?_
  show Go _ _ _ _ (T0.setTop (mkF m_ 122 #[.val (.ref e), .val (.int (Int32.ofNat bs.length)), .val (.int c), .val (.int c)] [(.int (92 : Int32)), (.int (Int32.ofNat bs.length)), (.ref e)]))
  refine W0.stA V_e (x := (92 : Int32)) (n1 := bs.length) rfl (rmE0 (by omega)) (List.mem_of_getElem? (i := 0) rfl) g_e (hb hby d40_122) ?_
  intro T1 h1 L1 sl1 vv1 W1 w1 V_new
  replace K0 := K0.wr w1 (Or.inl (List.mem_of_getElem? (i := 0) rfl))
  replace V_e : Arv Z h1 e ke .byte (32 : Int32) ((bs ++ [(92 : Int32)]).map Value.int) (.int 0) := V_new
  clear V_new
  refine Go.st (fun _ => XS.aloadN W1.here W1.ex rfl (hb hby d40_123) rfl rfl) ?_
  refine Go.st (fun _ => XS.iloadN W1.here W1.ex rfl (hb hby d40_124) rfl) ?_
  refine Go.st (fun _ => XS.iconst W1.here W1.ex rfl (hb hby d40_125)) ?_
  show Go _ _ _ _ (T1.setTop (mkF m_ 126 #[.val (.ref e), .val (.int (Int32.ofNat bs.length)), .val (.int c), .val (.int c)] [(.int (1 : Int32)), (.int (Int32.ofNat bs.length)), (.ref e)]))
  refine Go.st (fun _ => XS.iadd W1.here W1.ex rfl (hb hby d40_126) rfl) ?_
  show Go _ _ _ _ (T1.setTop (mkF m_ 127 #[.val (.ref e), .val (.int (Int32.ofNat bs.length)), .val (.int c), .val (.int c)] [(.int ((Int32.ofNat bs.length) + (1 : Int32))), (.ref e)]))
  rw [show ((Int32.ofNat bs.length) + (1 : Int32)) = (Int32.ofNat (bs.length + 1)) from ofn_add _ 1]
  refine Go.st (fun _ => XS.bipush W1.here W1.ex rfl (hb hby d40_127)) ?_
  show Go _ _ _ _ (T1.setTop (mkF m_ 129 #[.val (.ref e), .val (.int (Int32.ofNat bs.length)), .val (.int c), .val (.int c)] [(.int (117 : Int32)), (.int (Int32.ofNat (bs.length + 1))), (.ref e)]))
  refine W1.stA V_e (x := (117 : Int32)) (n1 := (bs.length + 1)) (ln rfl) (rmE (k := 1) rfl (by omega)) (List.mem_of_getElem? (i := 0) rfl) g_e (hb hby d40_129) ?_
  intro T2 h2 L2 sl2 vv2 W2 w2 V_new
  replace K0 := K0.wr w2 (Or.inl (List.mem_of_getElem? (i := 0) rfl))
  replace V_e : Arv Z h2 e ke .byte (32 : Int32) ((bs ++ [(92 : Int32), (117 : Int32)]).map Value.int) (.int 0) := by rw [List.append_assoc] at V_new; exact V_new
  clear V_new
  refine Go.st (fun _ => XS.aloadN W2.here W2.ex rfl (hb hby d40_130) rfl rfl) ?_
  refine Go.st (fun _ => XS.iloadN W2.here W2.ex rfl (hb hby d40_131) rfl) ?_
  refine Go.st (fun _ => XS.iconst W2.here W2.ex rfl (hb hby d40_132)) ?_
  show Go _ _ _ _ (T2.setTop (mkF m_ 133 #[.val (.ref e), .val (.int (Int32.ofNat bs.length)), .val (.int c), .val (.int c)] [(.int (2 : Int32)), (.int (Int32.ofNat bs.length)), (.ref e)]))
  refine Go.st (fun _ => XS.iadd W2.here W2.ex rfl (hb hby d40_133) rfl) ?_
  show Go _ _ _ _ (T2.setTop (mkF m_ 134 #[.val (.ref e), .val (.int (Int32.ofNat bs.length)), .val (.int c), .val (.int c)] [(.int ((Int32.ofNat bs.length) + (2 : Int32))), (.ref e)]))
  rw [show ((Int32.ofNat bs.length) + (2 : Int32)) = (Int32.ofNat (bs.length + 2)) from ofn_add _ 2]
  refine Go.st (fun _ => XS.iloadN W2.here W2.ex rfl (hb hby d40_134) rfl) ?_
  refine Go.st (fun _ => XS.sipush W2.here W2.ex rfl (hb hby d40_135)) ?_
  show Go _ _ _ _ (T2.setTop (mkF m_ 138 #[.val (.ref e), .val (.int (Int32.ofNat bs.length)), .val (.int c), .val (.int c)] [(.int (4096 : Int32)), (.int c), (.int (Int32.ofNat (bs.length + 2))), (.ref e)]))
  refine Go.st (fun _ => XS.idiv W2.here W2.ex rfl (hb hby d40_138) rfl (by decide)) ?_
  show Go _ _ _ _ (T2.setTop (mkF m_ 139 #[.val (.ref e), .val (.int (Int32.ofNat bs.length)), .val (.int c), .val (.int c)] [(.int (c / (4096 : Int32))), (.int (Int32.ofNat (bs.length + 2))), (.ref e)]))
  refine W2.callS (y := Y16) (cx.w 194 rfl) (cx.w 195 rfl) (cx.w 63 rfl) (cx.w 196 rfl) (by decide) (ct_hex cx W2.old (c / (4096 : Int32))) all0 (by decide) (Wd := 2) (by decide) (k' := 0) (n' := 0) rfl rfl (by decide) (by decide) (by rw [hml]; rfl) (argsL := [(.int (c / (4096 : Int32)))]) (rest := [(.int (Int32.ofNat (bs.length + 2))), (.ref e)]) rfl (lenOf pd26 rfl) rfl (Nat.le_of_eq rfl) (hb hby d40_139) ?_
  intro v3 vm3 T3 h3 L3 W3 q3
  obtain ⟨rfl, eh_⟩ := q3
  subst h3
  show Go _ _ _ _ (T3.setTop (mkF m_ 142 #[.val (.ref e), .val (.int (Int32.ofNat bs.length)), .val (.int c), .val (.int c)] [(.int (hx (c / (4096 : Int32)))), (.int (Int32.ofNat (bs.length + 2))), (.ref e)]))
  refine W3.stA V_e (x := (hx (c / (4096 : Int32)))) (n1 := (bs.length + 2)) (ln rfl) (rmE (k := 2) rfl (by omega)) (List.mem_of_getElem? (i := 0) rfl) g_e (hb hby d40_142) ?_
  intro T4 h4 L4 sl4 vv4 W4 w4 V_new
  replace K0 := K0.wr w4 (Or.inl (List.mem_of_getElem? (i := 0) rfl))
  rw [nar_hx] at V_new
  replace V_e : Arv Z h4 e ke .byte (32 : Int32) ((bs ++ [(92 : Int32), (117 : Int32), hx (c / (4096 : Int32))]).map Value.int) (.int 0) := by rw [List.append_assoc] at V_new; exact V_new
  clear V_new
  refine Go.st (fun _ => XS.aloadN W4.here W4.ex rfl (hb hby d40_143) rfl rfl) ?_
  refine Go.st (fun _ => XS.iloadN W4.here W4.ex rfl (hb hby d40_144) rfl) ?_
  refine Go.st (fun _ => XS.iconst W4.here W4.ex rfl (hb hby d40_145)) ?_
  show Go _ _ _ _ (T4.setTop (mkF m_ 146 #[.val (.ref e), .val (.int (Int32.ofNat bs.length)), .val (.int c), .val (.int c)] [(.int (3 : Int32)), (.int (Int32.ofNat bs.length)), (.ref e)]))
  refine Go.st (fun _ => XS.iadd W4.here W4.ex rfl (hb hby d40_146) rfl) ?_
  show Go _ _ _ _ (T4.setTop (mkF m_ 147 #[.val (.ref e), .val (.int (Int32.ofNat bs.length)), .val (.int c), .val (.int c)] [(.int ((Int32.ofNat bs.length) + (3 : Int32))), (.ref e)]))
  rw [show ((Int32.ofNat bs.length) + (3 : Int32)) = (Int32.ofNat (bs.length + 3)) from ofn_add _ 3]
  refine Go.st (fun _ => XS.iloadN W4.here W4.ex rfl (hb hby d40_147) rfl) ?_
  refine Go.st (fun _ => XS.sipush W4.here W4.ex rfl (hb hby d40_148)) ?_
  show Go _ _ _ _ (T4.setTop (mkF m_ 151 #[.val (.ref e), .val (.int (Int32.ofNat bs.length)), .val (.int c), .val (.int c)] [(.int (256 : Int32)), (.int c), (.int (Int32.ofNat (bs.length + 3))), (.ref e)]))
  refine Go.st (fun _ => XS.idiv W4.here W4.ex rfl (hb hby d40_151) rfl (by decide)) ?_
  refine Go.st (fun _ => XS.bipush W4.here W4.ex rfl (hb hby d40_152)) ?_
  show Go _ _ _ _ (T4.setTop (mkF m_ 154 #[.val (.ref e), .val (.int (Int32.ofNat bs.length)), .val (.int c), .val (.int c)] [(.int (16 : Int32)), (.int (c / (256 : Int32))), (.int (Int32.ofNat (bs.length + 3))), (.ref e)]))
  refine Go.st (fun _ => iremM W4.X W4.ex rfl (hb hby d40_154) rfl (by decide)) ?_
  show Go _ _ _ _ (T4.setTop (mkF m_ 155 #[.val (.ref e), .val (.int (Int32.ofNat bs.length)), .val (.int c), .val (.int c)] [(.int ((c / (256 : Int32)) % (16 : Int32))), (.int (Int32.ofNat (bs.length + 3))), (.ref e)]))
  refine W4.callS (y := Y16) (cx.w 194 rfl) (cx.w 195 rfl) (cx.w 63 rfl) (cx.w 196 rfl) (by decide) (ct_hex cx W4.old ((c / (256 : Int32)) % (16 : Int32))) all0 (by decide) (Wd := 2) (by decide) (k' := 0) (n' := 0) rfl rfl (by decide) (by decide) (by rw [hml]; rfl) (argsL := [(.int ((c / (256 : Int32)) % (16 : Int32)))]) (rest := [(.int (Int32.ofNat (bs.length + 3))), (.ref e)]) rfl (lenOf pd26 rfl) rfl (Nat.le_of_eq rfl) (hb hby d40_155) ?_
  intro v5 vm5 T5 h5 L5 W5 q5
  obtain ⟨rfl, eh_⟩ := q5
  subst h5
  show Go _ _ _ _ (T5.setTop (mkF m_ 158 #[.val (.ref e), .val (.int (Int32.ofNat bs.length)), .val (.int c), .val (.int c)] [(.int (hx ((c / (256 : Int32)) % (16 : Int32)))), (.int (Int32.ofNat (bs.length + 3))), (.ref e)]))
  refine W5.stA V_e (x := (hx ((c / (256 : Int32)) % (16 : Int32)))) (n1 := (bs.length + 3)) (ln rfl) (rmE (k := 3) rfl (by omega)) (List.mem_of_getElem? (i := 0) rfl) g_e (hb hby d40_158) ?_
  intro T6 h6 L6 sl6 vv6 W6 w6 V_new
  replace K0 := K0.wr w6 (Or.inl (List.mem_of_getElem? (i := 0) rfl))
  rw [nar_hx] at V_new
  replace V_e : Arv Z h6 e ke .byte (32 : Int32) ((bs ++ [(92 : Int32), (117 : Int32), hx (c / (4096 : Int32)), hx ((c / (256 : Int32)) % (16 : Int32))]).map Value.int) (.int 0) := by rw [List.append_assoc] at V_new; exact V_new
  clear V_new
  refine Go.st (fun _ => XS.aloadN W6.here W6.ex rfl (hb hby d40_159) rfl rfl) ?_
  refine Go.st (fun _ => XS.iloadN W6.here W6.ex rfl (hb hby d40_160) rfl) ?_
  refine Go.st (fun _ => XS.iconst W6.here W6.ex rfl (hb hby d40_161)) ?_
  show Go _ _ _ _ (T6.setTop (mkF m_ 162 #[.val (.ref e), .val (.int (Int32.ofNat bs.length)), .val (.int c), .val (.int c)] [(.int (4 : Int32)), (.int (Int32.ofNat bs.length)), (.ref e)]))
  refine Go.st (fun _ => XS.iadd W6.here W6.ex rfl (hb hby d40_162) rfl) ?_
  show Go _ _ _ _ (T6.setTop (mkF m_ 163 #[.val (.ref e), .val (.int (Int32.ofNat bs.length)), .val (.int c), .val (.int c)] [(.int ((Int32.ofNat bs.length) + (4 : Int32))), (.ref e)]))
  rw [show ((Int32.ofNat bs.length) + (4 : Int32)) = (Int32.ofNat (bs.length + 4)) from ofn_add _ 4]
  refine Go.st (fun _ => XS.iloadN W6.here W6.ex rfl (hb hby d40_163) rfl) ?_
  refine Go.st (fun _ => XS.bipush W6.here W6.ex rfl (hb hby d40_164)) ?_
  show Go _ _ _ _ (T6.setTop (mkF m_ 166 #[.val (.ref e), .val (.int (Int32.ofNat bs.length)), .val (.int c), .val (.int c)] [(.int (16 : Int32)), (.int c), (.int (Int32.ofNat (bs.length + 4))), (.ref e)]))
  refine Go.st (fun _ => XS.idiv W6.here W6.ex rfl (hb hby d40_166) rfl (by decide)) ?_
  refine Go.st (fun _ => XS.bipush W6.here W6.ex rfl (hb hby d40_167)) ?_
  show Go _ _ _ _ (T6.setTop (mkF m_ 169 #[.val (.ref e), .val (.int (Int32.ofNat bs.length)), .val (.int c), .val (.int c)] [(.int (16 : Int32)), (.int (c / (16 : Int32))), (.int (Int32.ofNat (bs.length + 4))), (.ref e)]))
  refine Go.st (fun _ => iremM W6.X W6.ex rfl (hb hby d40_169) rfl (by decide)) ?_
  show Go _ _ _ _ (T6.setTop (mkF m_ 170 #[.val (.ref e), .val (.int (Int32.ofNat bs.length)), .val (.int c), .val (.int c)] [(.int ((c / (16 : Int32)) % (16 : Int32))), (.int (Int32.ofNat (bs.length + 4))), (.ref e)]))
  refine W6.callS (y := Y16) (cx.w 194 rfl) (cx.w 195 rfl) (cx.w 63 rfl) (cx.w 196 rfl) (by decide) (ct_hex cx W6.old ((c / (16 : Int32)) % (16 : Int32))) all0 (by decide) (Wd := 2) (by decide) (k' := 0) (n' := 0) rfl rfl (by decide) (by decide) (by rw [hml]; rfl) (argsL := [(.int ((c / (16 : Int32)) % (16 : Int32)))]) (rest := [(.int (Int32.ofNat (bs.length + 4))), (.ref e)]) rfl (lenOf pd26 rfl) rfl (Nat.le_of_eq rfl) (hb hby d40_170) ?_
  intro v7 vm7 T7 h7 L7 W7 q7
  obtain ⟨rfl, eh_⟩ := q7
  subst h7
  show Go _ _ _ _ (T7.setTop (mkF m_ 173 #[.val (.ref e), .val (.int (Int32.ofNat bs.length)), .val (.int c), .val (.int c)] [(.int (hx ((c / (16 : Int32)) % (16 : Int32)))), (.int (Int32.ofNat (bs.length + 4))), (.ref e)]))
  refine W7.stA V_e (x := (hx ((c / (16 : Int32)) % (16 : Int32)))) (n1 := (bs.length + 4)) (ln rfl) (rmE (k := 4) rfl (by omega)) (List.mem_of_getElem? (i := 0) rfl) g_e (hb hby d40_173) ?_
  intro T8 h8 L8 sl8 vv8 W8 w8 V_new
  replace K0 := K0.wr w8 (Or.inl (List.mem_of_getElem? (i := 0) rfl))
  rw [nar_hx] at V_new
  replace V_e : Arv Z h8 e ke .byte (32 : Int32) ((bs ++ [(92 : Int32), (117 : Int32), hx (c / (4096 : Int32)), hx ((c / (256 : Int32)) % (16 : Int32)), hx ((c / (16 : Int32)) % (16 : Int32))]).map Value.int) (.int 0) := by rw [List.append_assoc] at V_new; exact V_new
  clear V_new
  refine Go.st (fun _ => XS.aloadN W8.here W8.ex rfl (hb hby d40_174) rfl rfl) ?_
  refine Go.st (fun _ => XS.iloadN W8.here W8.ex rfl (hb hby d40_175) rfl) ?_
  refine Go.st (fun _ => XS.iconst W8.here W8.ex rfl (hb hby d40_176)) ?_
  show Go _ _ _ _ (T8.setTop (mkF m_ 177 #[.val (.ref e), .val (.int (Int32.ofNat bs.length)), .val (.int c), .val (.int c)] [(.int (5 : Int32)), (.int (Int32.ofNat bs.length)), (.ref e)]))
  refine Go.st (fun _ => XS.iadd W8.here W8.ex rfl (hb hby d40_177) rfl) ?_
  show Go _ _ _ _ (T8.setTop (mkF m_ 178 #[.val (.ref e), .val (.int (Int32.ofNat bs.length)), .val (.int c), .val (.int c)] [(.int ((Int32.ofNat bs.length) + (5 : Int32))), (.ref e)]))
  rw [show ((Int32.ofNat bs.length) + (5 : Int32)) = (Int32.ofNat (bs.length + 5)) from ofn_add _ 5]
  refine Go.st (fun _ => XS.iloadN W8.here W8.ex rfl (hb hby d40_178) rfl) ?_
  refine Go.st (fun _ => XS.bipush W8.here W8.ex rfl (hb hby d40_179)) ?_
  show Go _ _ _ _ (T8.setTop (mkF m_ 181 #[.val (.ref e), .val (.int (Int32.ofNat bs.length)), .val (.int c), .val (.int c)] [(.int (16 : Int32)), (.int c), (.int (Int32.ofNat (bs.length + 5))), (.ref e)]))
  refine Go.st (fun _ => iremM W8.X W8.ex rfl (hb hby d40_181) rfl (by decide)) ?_
  show Go _ _ _ _ (T8.setTop (mkF m_ 182 #[.val (.ref e), .val (.int (Int32.ofNat bs.length)), .val (.int c), .val (.int c)] [(.int (c % (16 : Int32))), (.int (Int32.ofNat (bs.length + 5))), (.ref e)]))
  refine W8.callS (y := Y16) (cx.w 194 rfl) (cx.w 195 rfl) (cx.w 63 rfl) (cx.w 196 rfl) (by decide) (ct_hex cx W8.old (c % (16 : Int32))) all0 (by decide) (Wd := 2) (by decide) (k' := 0) (n' := 0) rfl rfl (by decide) (by decide) (by rw [hml]; rfl) (argsL := [(.int (c % (16 : Int32)))]) (rest := [(.int (Int32.ofNat (bs.length + 5))), (.ref e)]) rfl (lenOf pd26 rfl) rfl (Nat.le_of_eq rfl) (hb hby d40_182) ?_
  intro v9 vm9 T9 h9 L9 W9 q9
  obtain ⟨rfl, eh_⟩ := q9
  subst h9
  show Go _ _ _ _ (T9.setTop (mkF m_ 185 #[.val (.ref e), .val (.int (Int32.ofNat bs.length)), .val (.int c), .val (.int c)] [(.int (hx (c % (16 : Int32)))), (.int (Int32.ofNat (bs.length + 5))), (.ref e)]))
  refine W9.stA V_e (x := (hx (c % (16 : Int32)))) (n1 := (bs.length + 5)) (ln rfl) (rmE (k := 5) rfl (by omega)) (List.mem_of_getElem? (i := 0) rfl) g_e (hb hby d40_185) ?_
  intro T10 h10 L10 sl10 vv10 W10 w10 V_new
  replace K0 := K0.wr w10 (Or.inl (List.mem_of_getElem? (i := 0) rfl))
  rw [nar_hx] at V_new
  replace V_e : Arv Z h10 e ke .byte (32 : Int32) ((bs ++ [(92 : Int32), (117 : Int32), hx (c / (4096 : Int32)), hx ((c / (256 : Int32)) % (16 : Int32)), hx ((c / (16 : Int32)) % (16 : Int32)), hx (c % (16 : Int32))]).map Value.int) (.int 0) := by rw [List.append_assoc] at V_new; exact V_new
  clear V_new
  refine Go.st (fun _ => XS.iloadN W10.here W10.ex rfl (hb hby d40_186) rfl) ?_
  refine Go.st (fun _ => XS.bipush W10.here W10.ex rfl (hb hby d40_187)) ?_
  refine Go.st (fun _ => XS.iadd W10.here W10.ex rfl (hb hby d40_189) rfl) ?_
  show Go _ _ _ _ (T10.setTop (mkF m_ 190 #[.val (.ref e), .val (.int (Int32.ofNat bs.length)), .val (.int c), .val (.int c)] [(.int ((Int32.ofNat bs.length) + (6 : Int32)))]))
  rw [show ((Int32.ofNat bs.length) + (6 : Int32)) = (Int32.ofNat (bs.length + 6)) from ofn_add _ 6]
  show Go _ _ _ _ (T10.setTop (mkF m_ 190 #[.val (.ref e), .val (.int (Int32.ofNat bs.length)), .val (.int c), .val (.int c)] [(.int (Int32.ofNat (bs.length + 6)))]))
  have he : Ec c = [(92 : Int32), (117 : Int32), hx (c / (4096 : Int32)), hx ((c / (256 : Int32)) % (16 : Int32)), hx ((c / (16 : Int32)) % (16 : Int32)), hx (c % (16 : Int32))] := hu
  exact W10.retI hret (hb hby d40_190) (by decide) (by decide) fun vr_ cr_ => ⟨lnE he rfl, K0, by rw [he]; exact V_e⟩
theorem enc_r {l : Launch} {Z a0 n0 g1 gf hxa khx} (cx : Ctx Z a0 n0 g1 gf hxa khx) {p_ : Program} {e_ : Env} {s_ : State} {m_ : MethodId} {ar_ : Array Value} {bl_ : List Frame} {mt_ : Method} {c_ : Code} {vm0 : Vm} {T0 : State} {h : Heap} {L0 : List Loc} (e : Addr) (bs : List Int32) (c : Int32) (h00 : Heap) {ke : ClassId} (W0 : Wk p_ l e_ ({ frames := 1, cells := 0, slots := 0, locals := 14 } : Room) s_ m_ ar_ bl_ mt_ c_ Z a0 consts_1 n0 "com/example/dijtabla/dijtabla/JsonTextBytesPinLaw" vm0 T0 h L0 0 0 [e]) (hby : c_.code = method_6_code) (hml : c_.maxLocals = 4) (hret : mt_.sig.returnType = (some .int)) (hnm : mt_.name = "enc") (V_e : Arv Z h e ke .byte 32 (bs.map Value.int) (.int 0)) (g_e : n0 ≤ e) (hl : bs.length ≤ 26) (hno : NoE c) (hu : ¬ (c < 32 ∨ (¬ c < 55296 ∧ ¬ (57343 : Int32) < c))) (K0 : Keep h00 h [e]) :
    Go p_ e_ bl_ (Pst Z consts_1 n0 s_ ({ frames := 1, cells := 0, slots := 0, locals := 14 } : Room).cells ({ frames := 1, cells := 0, slots := 0, locals := 14 } : Room).slots (fun v _ h' => v = some (.int (Int32.ofNat (bs ++ Ec c).length)) ∧ Keep h00 h' [e] ∧ Arv Z h' e ke .byte 32 ((bs ++ Ec c).map Value.int) (.int 0))) (T0.setTop (mkF m_ 191 #[.val (.ref e), .val (.int (Int32.ofNat bs.length)), .val (.int c), .val (.int c)] [])) := by
  refine Go.st (fun _ => XS.iloadN W0.here W0.ex rfl (hb hby d40_191) rfl) ?_
  refine Go.st (fun _ => XS.sipush W0.here W0.ex rfl (hb hby d40_192)) ?_
  show Go _ _ _ _ (T0.setTop (mkF m_ 195 #[.val (.ref e), .val (.int (Int32.ofNat bs.length)), .val (.int c), .val (.int c)] [(.int (128 : Int32)), (.int c)]))
  by_cases z1 : c < (128 : Int32)
  · refine Go.st (fun _ => XS.icmpNo W0.here W0.ex rfl (hb hby d40_195) rfl (tlt (z1 : c < (128 : Int32))).2.1) ?_
    refine Go.st (fun _ => XS.aloadN W0.here W0.ex rfl (hb hby d40_198) rfl rfl) ?_
    show Go _ _ _ _ (T0.setTop (mkF m_ 199 #[.val (.ref e), .val (.int (Int32.ofNat bs.length)), .val (.int c), .val (.int c)] [(.ref e)]))
    refine Go.st (fun _ => XS.iloadN W0.here W0.ex rfl (hb hby d40_199) rfl) ?_
    refine Go.st (fun _ => XS.iloadN W0.here W0.ex rfl (hb hby d40_200) rfl) ?_
    refine Go.st (fun _ => XS.i2b W0.here W0.ex rfl (hb hby d40_201) rfl) ?_
    show Go _ _ _ _ (T0.setTop (mkF m_ 202 #[.val (.ref e), .val (.int (Int32.ofNat bs.length)), .val (.int c), .val (.int c)] [(.int (c.toInt8.toInt32)), (.int (Int32.ofNat bs.length)), (.ref e)]))
    refine W0.stA V_e (x := (c.toInt8.toInt32)) (n1 := bs.length) rfl (rmE0 (by omega)) (List.mem_of_getElem? (i := 0) rfl) g_e (hb hby d40_202) ?_
    intro T1 h1 L1 sl1 vv1 W1 w1 V_new
    replace K0 := K0.wr w1 (Or.inl (List.mem_of_getElem? (i := 0) rfl))
    rw [nar_byte] at V_new
    replace V_e : Arv Z h1 e ke .byte (32 : Int32) ((bs ++ [(c.toInt8.toInt32)]).map Value.int) (.int 0) := V_new
    clear V_new
    refine Go.st (fun _ => XS.iloadN W1.here W1.ex rfl (hb hby d40_203) rfl) ?_
    refine Go.st (fun _ => XS.iconst W1.here W1.ex rfl (hb hby d40_204)) ?_
    refine Go.st (fun _ => XS.iadd W1.here W1.ex rfl (hb hby d40_205) rfl) ?_
    show Go _ _ _ _ (T1.setTop (mkF m_ 206 #[.val (.ref e), .val (.int (Int32.ofNat bs.length)), .val (.int c), .val (.int c)] [(.int ((Int32.ofNat bs.length) + (1 : Int32)))]))
    rw [show ((Int32.ofNat bs.length) + (1 : Int32)) = (Int32.ofNat (bs.length + 1)) from ofn_add _ 1]
    show Go _ _ _ _ (T1.setTop (mkF m_ 206 #[.val (.ref e), .val (.int (Int32.ofNat bs.length)), .val (.int c), .val (.int c)] [(.int (Int32.ofNat (bs.length + 1)))]))
    have he : Ec c = [(c.toInt8.toInt32)] := Ec_1 hno hu z1
    exact W1.retI hret (hb hby d40_206) (by decide) (by decide) fun vr_ cr_ => ⟨lnE he rfl, K0, by rw [he]; exact V_e⟩
  · refine Go.st (fun _ => XS.icmpYes W0.here W0.ex rfl (pc0 := 195) (pc' := 207) rfl (hb hby d40_195) rfl (flt (z1 : ¬ (c < (128 : Int32)))).2.1 (by decide) (by decide)) ?_
    refine Go.st (fun _ => XS.iloadN W0.here W0.ex rfl (hb hby d40_207) rfl) ?_
    show Go _ _ _ _ (T0.setTop (mkF m_ 208 #[.val (.ref e), .val (.int (Int32.ofNat bs.length)), .val (.int c), .val (.int c)] [(.int c)]))
    refine Go.st (fun _ => XS.sipush W0.here W0.ex rfl (hb hby d40_208)) ?_
    show Go _ _ _ _ (T0.setTop (mkF m_ 211 #[.val (.ref e), .val (.int (Int32.ofNat bs.length)), .val (.int c), .val (.int c)] [(.int (2048 : Int32)), (.int c)]))
    by_cases z2 : c < (2048 : Int32)
    · refine Go.st (fun _ => XS.icmpNo W0.here W0.ex rfl (hb hby d40_211) rfl (tlt (z2 : c < (2048 : Int32))).2.1) ?_
      refine Go.st (fun _ => XS.aloadN W0.here W0.ex rfl (hb hby d40_214) rfl rfl) ?_
      show Go _ _ _ _ (T0.setTop (mkF m_ 215 #[.val (.ref e), .val (.int (Int32.ofNat bs.length)), .val (.int c), .val (.int c)] [(.ref e)]))
      refine Go.st (fun _ => XS.iloadN W0.here W0.ex rfl (hb hby d40_215) rfl) ?_
      refine Go.st (fun _ => XS.sipush W0.here W0.ex rfl (hb hby d40_216)) ?_
      refine Go.st (fun _ => XS.iloadN W0.here W0.ex rfl (hb hby d40_219) rfl) ?_
      show Go _ _ _ _ (T0.setTop (mkF m_ 220 #[.val (.ref e), .val (.int (Int32.ofNat bs.length)), .val (.int c), .val (.int c)] [(.int c), (.int (192 : Int32)), (.int (Int32.ofNat bs.length)), (.ref e)]))
      refine Go.st (fun _ => XS.bipush W0.here W0.ex rfl (hb hby d40_220)) ?_
      refine Go.st (fun _ => XS.idiv W0.here W0.ex rfl (hb hby d40_222) rfl (by decide)) ?_
      refine Go.st (fun _ => XS.iadd W0.here W0.ex rfl (hb hby d40_223) rfl) ?_
      show Go _ _ _ _ (T0.setTop (mkF m_ 224 #[.val (.ref e), .val (.int (Int32.ofNat bs.length)), .val (.int c), .val (.int c)] [(.int ((192 : Int32) + (c / (64 : Int32)))), (.int (Int32.ofNat bs.length)), (.ref e)]))
      refine Go.st (fun _ => XS.i2b W0.here W0.ex rfl (hb hby d40_224) rfl) ?_
      show Go _ _ _ _ (T0.setTop (mkF m_ 225 #[.val (.ref e), .val (.int (Int32.ofNat bs.length)), .val (.int c), .val (.int c)] [(.int (((192 : Int32) + (c / (64 : Int32))).toInt8.toInt32)), (.int (Int32.ofNat bs.length)), (.ref e)]))
      refine W0.stA V_e (x := (((192 : Int32) + (c / (64 : Int32))).toInt8.toInt32)) (n1 := bs.length) rfl (rmE0 (by omega)) (List.mem_of_getElem? (i := 0) rfl) g_e (hb hby d40_225) ?_
      intro T2 h2 L2 sl2 vv2 W2 w2 V_new
      replace K0 := K0.wr w2 (Or.inl (List.mem_of_getElem? (i := 0) rfl))
      rw [nar_byte] at V_new
      replace V_e : Arv Z h2 e ke .byte (32 : Int32) ((bs ++ [(((192 : Int32) + (c / (64 : Int32))).toInt8.toInt32)]).map Value.int) (.int 0) := V_new
      clear V_new
      refine Go.st (fun _ => XS.aloadN W2.here W2.ex rfl (hb hby d40_226) rfl rfl) ?_
      refine Go.st (fun _ => XS.iloadN W2.here W2.ex rfl (hb hby d40_227) rfl) ?_
      refine Go.st (fun _ => XS.iconst W2.here W2.ex rfl (hb hby d40_228)) ?_
      show Go _ _ _ _ (T2.setTop (mkF m_ 229 #[.val (.ref e), .val (.int (Int32.ofNat bs.length)), .val (.int c), .val (.int c)] [(.int (1 : Int32)), (.int (Int32.ofNat bs.length)), (.ref e)]))
      refine Go.st (fun _ => XS.iadd W2.here W2.ex rfl (hb hby d40_229) rfl) ?_
      show Go _ _ _ _ (T2.setTop (mkF m_ 230 #[.val (.ref e), .val (.int (Int32.ofNat bs.length)), .val (.int c), .val (.int c)] [(.int ((Int32.ofNat bs.length) + (1 : Int32))), (.ref e)]))
      rw [show ((Int32.ofNat bs.length) + (1 : Int32)) = (Int32.ofNat (bs.length + 1)) from ofn_add _ 1]
      refine Go.st (fun _ => XS.sipush W2.here W2.ex rfl (hb hby d40_230)) ?_
      refine Go.st (fun _ => XS.iloadN W2.here W2.ex rfl (hb hby d40_233) rfl) ?_
      show Go _ _ _ _ (T2.setTop (mkF m_ 234 #[.val (.ref e), .val (.int (Int32.ofNat bs.length)), .val (.int c), .val (.int c)] [(.int c), (.int (128 : Int32)), (.int (Int32.ofNat (bs.length + 1))), (.ref e)]))
      refine Go.st (fun _ => XS.bipush W2.here W2.ex rfl (hb hby d40_234)) ?_
      show Go _ _ _ _ (T2.setTop (mkF m_ 236 #[.val (.ref e), .val (.int (Int32.ofNat bs.length)), .val (.int c), .val (.int c)] [(.int (64 : Int32)), (.int c), (.int (128 : Int32)), (.int (Int32.ofNat (bs.length + 1))), (.ref e)]))
      refine Go.st (fun _ => iremM W2.X W2.ex rfl (hb hby d40_236) rfl (by decide)) ?_
      refine Go.st (fun _ => XS.iadd W2.here W2.ex rfl (hb hby d40_237) rfl) ?_
      refine Go.st (fun _ => XS.i2b W2.here W2.ex rfl (hb hby d40_238) rfl) ?_
      show Go _ _ _ _ (T2.setTop (mkF m_ 239 #[.val (.ref e), .val (.int (Int32.ofNat bs.length)), .val (.int c), .val (.int c)] [(.int (((128 : Int32) + (c % (64 : Int32))).toInt8.toInt32)), (.int (Int32.ofNat (bs.length + 1))), (.ref e)]))
      refine W2.stA V_e (x := (((128 : Int32) + (c % (64 : Int32))).toInt8.toInt32)) (n1 := (bs.length + 1)) (ln rfl) (rmE (k := 1) rfl (by omega)) (List.mem_of_getElem? (i := 0) rfl) g_e (hb hby d40_239) ?_
      intro T3 h3 L3 sl3 vv3 W3 w3 V_new
      replace K0 := K0.wr w3 (Or.inl (List.mem_of_getElem? (i := 0) rfl))
      rw [nar_byte] at V_new
      replace V_e : Arv Z h3 e ke .byte (32 : Int32) ((bs ++ [(((192 : Int32) + (c / (64 : Int32))).toInt8.toInt32), (((128 : Int32) + (c % (64 : Int32))).toInt8.toInt32)]).map Value.int) (.int 0) := by rw [List.append_assoc] at V_new; exact V_new
      clear V_new
      refine Go.st (fun _ => XS.iloadN W3.here W3.ex rfl (hb hby d40_240) rfl) ?_
      refine Go.st (fun _ => XS.iconst W3.here W3.ex rfl (hb hby d40_241)) ?_
      refine Go.st (fun _ => XS.iadd W3.here W3.ex rfl (hb hby d40_242) rfl) ?_
      show Go _ _ _ _ (T3.setTop (mkF m_ 243 #[.val (.ref e), .val (.int (Int32.ofNat bs.length)), .val (.int c), .val (.int c)] [(.int ((Int32.ofNat bs.length) + (2 : Int32)))]))
      rw [show ((Int32.ofNat bs.length) + (2 : Int32)) = (Int32.ofNat (bs.length + 2)) from ofn_add _ 2]
      show Go _ _ _ _ (T3.setTop (mkF m_ 243 #[.val (.ref e), .val (.int (Int32.ofNat bs.length)), .val (.int c), .val (.int c)] [(.int (Int32.ofNat (bs.length + 2)))]))
      have he : Ec c = [(((192 : Int32) + (c / (64 : Int32))).toInt8.toInt32), (((128 : Int32) + (c % (64 : Int32))).toInt8.toInt32)] := Ec_2 hno hu z1 z2
      exact W3.retI hret (hb hby d40_243) (by decide) (by decide) fun vr_ cr_ => ⟨lnE he rfl, K0, by rw [he]; exact V_e⟩
    · refine Go.st (fun _ => XS.icmpYes W0.here W0.ex rfl (pc0 := 211) (pc' := 244) rfl (hb hby d40_211) rfl (flt (z2 : ¬ (c < (2048 : Int32)))).2.1 (by decide) (by decide)) ?_
      refine Go.st (fun _ => XS.aloadN W0.here W0.ex rfl (hb hby d40_244) rfl rfl) ?_
      show Go _ _ _ _ (T0.setTop (mkF m_ 245 #[.val (.ref e), .val (.int (Int32.ofNat bs.length)), .val (.int c), .val (.int c)] [(.ref e)]))
      refine Go.st (fun _ => XS.iloadN W0.here W0.ex rfl (hb hby d40_245) rfl) ?_
      refine Go.st (fun _ => XS.sipush W0.here W0.ex rfl (hb hby d40_246)) ?_
      refine Go.st (fun _ => XS.iloadN W0.here W0.ex rfl (hb hby d40_249) rfl) ?_
      show Go _ _ _ _ (T0.setTop (mkF m_ 250 #[.val (.ref e), .val (.int (Int32.ofNat bs.length)), .val (.int c), .val (.int c)] [(.int c), (.int (224 : Int32)), (.int (Int32.ofNat bs.length)), (.ref e)]))
      refine Go.st (fun _ => XS.sipush W0.here W0.ex rfl (hb hby d40_250)) ?_
      refine Go.st (fun _ => XS.idiv W0.here W0.ex rfl (hb hby d40_253) rfl (by decide)) ?_
      refine Go.st (fun _ => XS.iadd W0.here W0.ex rfl (hb hby d40_254) rfl) ?_
      show Go _ _ _ _ (T0.setTop (mkF m_ 255 #[.val (.ref e), .val (.int (Int32.ofNat bs.length)), .val (.int c), .val (.int c)] [(.int ((224 : Int32) + (c / (4096 : Int32)))), (.int (Int32.ofNat bs.length)), (.ref e)]))
      refine Go.st (fun _ => XS.i2b W0.here W0.ex rfl (hb hby d40_255) rfl) ?_
      show Go _ _ _ _ (T0.setTop (mkF m_ 256 #[.val (.ref e), .val (.int (Int32.ofNat bs.length)), .val (.int c), .val (.int c)] [(.int (((224 : Int32) + (c / (4096 : Int32))).toInt8.toInt32)), (.int (Int32.ofNat bs.length)), (.ref e)]))
      refine W0.stA V_e (x := (((224 : Int32) + (c / (4096 : Int32))).toInt8.toInt32)) (n1 := bs.length) rfl (rmE0 (by omega)) (List.mem_of_getElem? (i := 0) rfl) g_e (hb hby d40_256) ?_
      intro T4 h4 L4 sl4 vv4 W4 w4 V_new
      replace K0 := K0.wr w4 (Or.inl (List.mem_of_getElem? (i := 0) rfl))
      rw [nar_byte] at V_new
      replace V_e : Arv Z h4 e ke .byte (32 : Int32) ((bs ++ [(((224 : Int32) + (c / (4096 : Int32))).toInt8.toInt32)]).map Value.int) (.int 0) := V_new
      clear V_new
      refine Go.st (fun _ => XS.aloadN W4.here W4.ex rfl (hb hby d40_257) rfl rfl) ?_
      refine Go.st (fun _ => XS.iloadN W4.here W4.ex rfl (hb hby d40_258) rfl) ?_
      refine Go.st (fun _ => XS.iconst W4.here W4.ex rfl (hb hby d40_259)) ?_
      show Go _ _ _ _ (T4.setTop (mkF m_ 260 #[.val (.ref e), .val (.int (Int32.ofNat bs.length)), .val (.int c), .val (.int c)] [(.int (1 : Int32)), (.int (Int32.ofNat bs.length)), (.ref e)]))
      refine Go.st (fun _ => XS.iadd W4.here W4.ex rfl (hb hby d40_260) rfl) ?_
      show Go _ _ _ _ (T4.setTop (mkF m_ 261 #[.val (.ref e), .val (.int (Int32.ofNat bs.length)), .val (.int c), .val (.int c)] [(.int ((Int32.ofNat bs.length) + (1 : Int32))), (.ref e)]))
      rw [show ((Int32.ofNat bs.length) + (1 : Int32)) = (Int32.ofNat (bs.length + 1)) from ofn_add _ 1]
      refine Go.st (fun _ => XS.sipush W4.here W4.ex rfl (hb hby d40_261)) ?_
      refine Go.st (fun _ => XS.iloadN W4.here W4.ex rfl (hb hby d40_264) rfl) ?_
      show Go _ _ _ _ (T4.setTop (mkF m_ 265 #[.val (.ref e), .val (.int (Int32.ofNat bs.length)), .val (.int c), .val (.int c)] [(.int c), (.int (128 : Int32)), (.int (Int32.ofNat (bs.length + 1))), (.ref e)]))
      refine Go.st (fun _ => XS.bipush W4.here W4.ex rfl (hb hby d40_265)) ?_
      refine Go.st (fun _ => XS.idiv W4.here W4.ex rfl (hb hby d40_267) rfl (by decide)) ?_
      refine Go.st (fun _ => XS.bipush W4.here W4.ex rfl (hb hby d40_268)) ?_
      show Go _ _ _ _ (T4.setTop (mkF m_ 270 #[.val (.ref e), .val (.int (Int32.ofNat bs.length)), .val (.int c), .val (.int c)] [(.int (64 : Int32)), (.int (c / (64 : Int32))), (.int (128 : Int32)), (.int (Int32.ofNat (bs.length + 1))), (.ref e)]))
      refine Go.st (fun _ => iremM W4.X W4.ex rfl (hb hby d40_270) rfl (by decide)) ?_
      refine Go.st (fun _ => XS.iadd W4.here W4.ex rfl (hb hby d40_271) rfl) ?_
      refine Go.st (fun _ => XS.i2b W4.here W4.ex rfl (hb hby d40_272) rfl) ?_
      show Go _ _ _ _ (T4.setTop (mkF m_ 273 #[.val (.ref e), .val (.int (Int32.ofNat bs.length)), .val (.int c), .val (.int c)] [(.int (((128 : Int32) + ((c / (64 : Int32)) % (64 : Int32))).toInt8.toInt32)), (.int (Int32.ofNat (bs.length + 1))), (.ref e)]))
      refine W4.stA V_e (x := (((128 : Int32) + ((c / (64 : Int32)) % (64 : Int32))).toInt8.toInt32)) (n1 := (bs.length + 1)) (ln rfl) (rmE (k := 1) rfl (by omega)) (List.mem_of_getElem? (i := 0) rfl) g_e (hb hby d40_273) ?_
      intro T5 h5 L5 sl5 vv5 W5 w5 V_new
      replace K0 := K0.wr w5 (Or.inl (List.mem_of_getElem? (i := 0) rfl))
      rw [nar_byte] at V_new
      replace V_e : Arv Z h5 e ke .byte (32 : Int32) ((bs ++ [(((224 : Int32) + (c / (4096 : Int32))).toInt8.toInt32), (((128 : Int32) + ((c / (64 : Int32)) % (64 : Int32))).toInt8.toInt32)]).map Value.int) (.int 0) := by rw [List.append_assoc] at V_new; exact V_new
      clear V_new
      refine Go.st (fun _ => XS.aloadN W5.here W5.ex rfl (hb hby d40_274) rfl rfl) ?_
      refine Go.st (fun _ => XS.iloadN W5.here W5.ex rfl (hb hby d40_275) rfl) ?_
      refine Go.st (fun _ => XS.iconst W5.here W5.ex rfl (hb hby d40_276)) ?_
      show Go _ _ _ _ (T5.setTop (mkF m_ 277 #[.val (.ref e), .val (.int (Int32.ofNat bs.length)), .val (.int c), .val (.int c)] [(.int (2 : Int32)), (.int (Int32.ofNat bs.length)), (.ref e)]))
      refine Go.st (fun _ => XS.iadd W5.here W5.ex rfl (hb hby d40_277) rfl) ?_
      show Go _ _ _ _ (T5.setTop (mkF m_ 278 #[.val (.ref e), .val (.int (Int32.ofNat bs.length)), .val (.int c), .val (.int c)] [(.int ((Int32.ofNat bs.length) + (2 : Int32))), (.ref e)]))
      rw [show ((Int32.ofNat bs.length) + (2 : Int32)) = (Int32.ofNat (bs.length + 2)) from ofn_add _ 2]
      refine Go.st (fun _ => XS.sipush W5.here W5.ex rfl (hb hby d40_278)) ?_
      refine Go.st (fun _ => XS.iloadN W5.here W5.ex rfl (hb hby d40_281) rfl) ?_
      show Go _ _ _ _ (T5.setTop (mkF m_ 282 #[.val (.ref e), .val (.int (Int32.ofNat bs.length)), .val (.int c), .val (.int c)] [(.int c), (.int (128 : Int32)), (.int (Int32.ofNat (bs.length + 2))), (.ref e)]))
      refine Go.st (fun _ => XS.bipush W5.here W5.ex rfl (hb hby d40_282)) ?_
      show Go _ _ _ _ (T5.setTop (mkF m_ 284 #[.val (.ref e), .val (.int (Int32.ofNat bs.length)), .val (.int c), .val (.int c)] [(.int (64 : Int32)), (.int c), (.int (128 : Int32)), (.int (Int32.ofNat (bs.length + 2))), (.ref e)]))
      refine Go.st (fun _ => iremM W5.X W5.ex rfl (hb hby d40_284) rfl (by decide)) ?_
      refine Go.st (fun _ => XS.iadd W5.here W5.ex rfl (hb hby d40_285) rfl) ?_
      refine Go.st (fun _ => XS.i2b W5.here W5.ex rfl (hb hby d40_286) rfl) ?_
      show Go _ _ _ _ (T5.setTop (mkF m_ 287 #[.val (.ref e), .val (.int (Int32.ofNat bs.length)), .val (.int c), .val (.int c)] [(.int (((128 : Int32) + (c % (64 : Int32))).toInt8.toInt32)), (.int (Int32.ofNat (bs.length + 2))), (.ref e)]))
      refine W5.stA V_e (x := (((128 : Int32) + (c % (64 : Int32))).toInt8.toInt32)) (n1 := (bs.length + 2)) (ln rfl) (rmE (k := 2) rfl (by omega)) (List.mem_of_getElem? (i := 0) rfl) g_e (hb hby d40_287) ?_
      intro T6 h6 L6 sl6 vv6 W6 w6 V_new
      replace K0 := K0.wr w6 (Or.inl (List.mem_of_getElem? (i := 0) rfl))
      rw [nar_byte] at V_new
      replace V_e : Arv Z h6 e ke .byte (32 : Int32) ((bs ++ [(((224 : Int32) + (c / (4096 : Int32))).toInt8.toInt32), (((128 : Int32) + ((c / (64 : Int32)) % (64 : Int32))).toInt8.toInt32), (((128 : Int32) + (c % (64 : Int32))).toInt8.toInt32)]).map Value.int) (.int 0) := by rw [List.append_assoc] at V_new; exact V_new
      clear V_new
      refine Go.st (fun _ => XS.iloadN W6.here W6.ex rfl (hb hby d40_288) rfl) ?_
      refine Go.st (fun _ => XS.iconst W6.here W6.ex rfl (hb hby d40_289)) ?_
      refine Go.st (fun _ => XS.iadd W6.here W6.ex rfl (hb hby d40_290) rfl) ?_
      show Go _ _ _ _ (T6.setTop (mkF m_ 291 #[.val (.ref e), .val (.int (Int32.ofNat bs.length)), .val (.int c), .val (.int c)] [(.int ((Int32.ofNat bs.length) + (3 : Int32)))]))
      rw [show ((Int32.ofNat bs.length) + (3 : Int32)) = (Int32.ofNat (bs.length + 3)) from ofn_add _ 3]
      show Go _ _ _ _ (T6.setTop (mkF m_ 291 #[.val (.ref e), .val (.int (Int32.ofNat bs.length)), .val (.int c), .val (.int c)] [(.int (Int32.ofNat (bs.length + 3)))]))
      have he : Ec c = [(((224 : Int32) + (c / (4096 : Int32))).toInt8.toInt32), (((128 : Int32) + ((c / (64 : Int32)) % (64 : Int32))).toInt8.toInt32), (((128 : Int32) + (c % (64 : Int32))).toInt8.toInt32)] := Ec_3 hno hu z1 z2
      exact W6.retI hret (hb hby d40_291) (by decide) (by decide) fun vr_ cr_ => ⟨lnE he rfl, K0, by rw [he]; exact V_e⟩
theorem ct_enc {l : Launch} {Z a0 n0 g1 gf hxa khx} (cx : Ctx Z a0 n0 g1 gf hxa khx) {h : Heap} (O : Old Z n0 h) (e : Addr) (bs : List Int32) (c : Int32) {ke : ClassId} (V_e : Arv Z h e ke .byte 32 (bs.map Value.int) (.int 0)) (g_e : n0 ≤ e) (hl : bs.length ≤ 26) :
    Ct l Z consts_1 n0 [] Y14 method_6_code 4 (some .int) ({ frames := 1, cells := 0, slots := 0, locals := 14 } : Room) #[(.ref e), (.int (Int32.ofNat bs.length)), (.int c)] [e] h (fun v _ h' => v = some (.int (Int32.ofNat (bs ++ Ec c).length)) ∧ Keep h h' [e] ∧ Arv Z h' e ke .byte 32 ((bs ++ Ec c).map Value.int) (.int 0)) := by
  refine Ct.intro (plainFor_of_name pn7) O cx.ew ?_
  intro p_ e_ s_ m_ bl_ mt_ c_ T0 W0 hby hml hret hnm
  refine Go.st (fun t_ k_ => castTop (g' := mkF m_ 0 #[.val (.ref e), .val (.int (Int32.ofNat bs.length)), .val (.int c), .unset] []) (by first | (simp [entryFrame, mkF, argsToLocals, Value.category]; done) | rfl) k_) ?_
  show Go _ _ _ _ (T0.setTop (mkF m_ 0 #[.val (.ref e), .val (.int (Int32.ofNat bs.length)), .val (.int c), .unset] []))
  have K0 : Keep h h [e] := Keep.refl _ _
  refine Go.st (fun _ => XS.iloadN W0.here W0.ex rfl (hb hby d40_0) rfl) ?_
  refine Go.st (fun _ => XS.istoreN W0.here W0.ex rfl (hb hby d40_1) rfl (l' := #[.val (.ref e), .val (.int (Int32.ofNat bs.length)), .val (.int c), .val (.int c)]) rfl) ?_
  show Go _ _ _ _ (T0.setTop (mkF m_ 2 #[.val (.ref e), .val (.int (Int32.ofNat bs.length)), .val (.int c), .val (.int c)] []))
  refine Go.st (fun _ => XS.iloadN W0.here W0.ex rfl (hb hby d40_2) rfl) ?_
  refine Go.st (fun _ => XS.bipush W0.here W0.ex rfl (hb hby d40_3)) ?_
  show Go _ _ _ _ (T0.setTop (mkF m_ 5 #[.val (.ref e), .val (.int (Int32.ofNat bs.length)), .val (.int c), .val (.int c)] [(.int (34 : Int32)), (.int c)]))
  by_cases z34 : c = (34 : Int32)
  · refine Go.st (fun _ => XS.icmpYes W0.here W0.ex rfl (pc0 := 5) (pc' := 14) rfl (hb hby d40_5) rfl (teq (z34 : c = (34 : Int32))).1 (by decide) (by decide)) ?_
    refine Go.st (fun _ => XS.aloadN W0.here W0.ex rfl (hb hby d40_14) rfl rfl) ?_
    show Go _ _ _ _ (T0.setTop (mkF m_ 15 #[.val (.ref e), .val (.int (Int32.ofNat bs.length)), .val (.int c), .val (.int c)] [(.ref e)]))
    refine Go.st (fun _ => XS.iloadN W0.here W0.ex rfl (hb hby d40_15) rfl) ?_
    refine Go.st (fun _ => XS.bipush W0.here W0.ex rfl (hb hby d40_16)) ?_
    show Go _ _ _ _ (T0.setTop (mkF m_ 18 #[.val (.ref e), .val (.int (Int32.ofNat bs.length)), .val (.int c), .val (.int c)] [(.int (92 : Int32)), (.int (Int32.ofNat bs.length)), (.ref e)]))
    refine W0.stA V_e (x := (92 : Int32)) (n1 := bs.length) rfl (rmE0 (by omega)) (List.mem_of_getElem? (i := 0) rfl) g_e (hb hby d40_18) ?_
    intro T1 h1 L1 sl1 vv1 W1 w1 V_new
    replace K0 := K0.wr w1 (Or.inl (List.mem_of_getElem? (i := 0) rfl))
    replace V_e : Arv Z h1 e ke .byte (32 : Int32) ((bs ++ [(92 : Int32)]).map Value.int) (.int 0) := V_new
    clear V_new
    refine Go.st (fun _ => XS.aloadN W1.here W1.ex rfl (hb hby d40_19) rfl rfl) ?_
    refine Go.st (fun _ => XS.iloadN W1.here W1.ex rfl (hb hby d40_20) rfl) ?_
    refine Go.st (fun _ => XS.iconst W1.here W1.ex rfl (hb hby d40_21)) ?_
    show Go _ _ _ _ (T1.setTop (mkF m_ 22 #[.val (.ref e), .val (.int (Int32.ofNat bs.length)), .val (.int c), .val (.int c)] [(.int (1 : Int32)), (.int (Int32.ofNat bs.length)), (.ref e)]))
    refine Go.st (fun _ => XS.iadd W1.here W1.ex rfl (hb hby d40_22) rfl) ?_
    show Go _ _ _ _ (T1.setTop (mkF m_ 23 #[.val (.ref e), .val (.int (Int32.ofNat bs.length)), .val (.int c), .val (.int c)] [(.int ((Int32.ofNat bs.length) + (1 : Int32))), (.ref e)]))
    rw [show ((Int32.ofNat bs.length) + (1 : Int32)) = (Int32.ofNat (bs.length + 1)) from ofn_add _ 1]
    refine Go.st (fun _ => XS.iloadN W1.here W1.ex rfl (hb hby d40_23) rfl) ?_
    refine Go.st (fun _ => XS.i2b W1.here W1.ex rfl (hb hby d40_24) rfl) ?_
    show Go _ _ _ _ (T1.setTop (mkF m_ 25 #[.val (.ref e), .val (.int (Int32.ofNat bs.length)), .val (.int c), .val (.int c)] [(.int (c.toInt8.toInt32)), (.int (Int32.ofNat (bs.length + 1))), (.ref e)]))
    refine W1.stA V_e (x := (c.toInt8.toInt32)) (n1 := (bs.length + 1)) (ln rfl) (rmE (k := 1) rfl (by omega)) (List.mem_of_getElem? (i := 0) rfl) g_e (hb hby d40_25) ?_
    intro T2 h2 L2 sl2 vv2 W2 w2 V_new
    replace K0 := K0.wr w2 (Or.inl (List.mem_of_getElem? (i := 0) rfl))
    rw [nar_byte] at V_new
    replace V_e : Arv Z h2 e ke .byte (32 : Int32) ((bs ++ [(92 : Int32), (c.toInt8.toInt32)]).map Value.int) (.int 0) := by rw [List.append_assoc] at V_new; exact V_new
    clear V_new
    refine Go.st (fun _ => XS.iloadN W2.here W2.ex rfl (hb hby d40_26) rfl) ?_
    refine Go.st (fun _ => XS.iconst W2.here W2.ex rfl (hb hby d40_27)) ?_
    refine Go.st (fun _ => XS.iadd W2.here W2.ex rfl (hb hby d40_28) rfl) ?_
    show Go _ _ _ _ (T2.setTop (mkF m_ 29 #[.val (.ref e), .val (.int (Int32.ofNat bs.length)), .val (.int c), .val (.int c)] [(.int ((Int32.ofNat bs.length) + (2 : Int32)))]))
    rw [show ((Int32.ofNat bs.length) + (2 : Int32)) = (Int32.ofNat (bs.length + 2)) from ofn_add _ 2]
    show Go _ _ _ _ (T2.setTop (mkF m_ 29 #[.val (.ref e), .val (.int (Int32.ofNat bs.length)), .val (.int c), .val (.int c)] [(.int (Int32.ofNat (bs.length + 2)))]))
    have he : Ec c = [(92 : Int32), (c.toInt8.toInt32)] := Ec_q (Or.inl z34)
    exact W2.retI hret (hb hby d40_29) (by decide) (by decide) fun vr_ cr_ => ⟨lnE he rfl, K0, by rw [he]; exact V_e⟩
  · refine Go.st (fun _ => XS.icmpNo W0.here W0.ex rfl (hb hby d40_5) rfl (feq (z34 : ¬ (c = (34 : Int32)))).1) ?_
    refine Go.st (fun _ => XS.iloadN W0.here W0.ex rfl (hb hby d40_8) rfl) ?_
    show Go _ _ _ _ (T0.setTop (mkF m_ 9 #[.val (.ref e), .val (.int (Int32.ofNat bs.length)), .val (.int c), .val (.int c)] [(.int c)]))
    refine Go.st (fun _ => XS.bipush W0.here W0.ex rfl (hb hby d40_9)) ?_
    show Go _ _ _ _ (T0.setTop (mkF m_ 11 #[.val (.ref e), .val (.int (Int32.ofNat bs.length)), .val (.int c), .val (.int c)] [(.int (92 : Int32)), (.int c)]))
    by_cases z92 : c = (92 : Int32)
    · refine Go.st (fun _ => XS.icmpNo W0.here W0.ex rfl (hb hby d40_11) rfl (teq (z92 : c = (92 : Int32))).2) ?_
      refine Go.st (fun _ => XS.aloadN W0.here W0.ex rfl (hb hby d40_14) rfl rfl) ?_
      show Go _ _ _ _ (T0.setTop (mkF m_ 15 #[.val (.ref e), .val (.int (Int32.ofNat bs.length)), .val (.int c), .val (.int c)] [(.ref e)]))
      refine Go.st (fun _ => XS.iloadN W0.here W0.ex rfl (hb hby d40_15) rfl) ?_
      refine Go.st (fun _ => XS.bipush W0.here W0.ex rfl (hb hby d40_16)) ?_
      show Go _ _ _ _ (T0.setTop (mkF m_ 18 #[.val (.ref e), .val (.int (Int32.ofNat bs.length)), .val (.int c), .val (.int c)] [(.int (92 : Int32)), (.int (Int32.ofNat bs.length)), (.ref e)]))
      refine W0.stA V_e (x := (92 : Int32)) (n1 := bs.length) rfl (rmE0 (by omega)) (List.mem_of_getElem? (i := 0) rfl) g_e (hb hby d40_18) ?_
      intro T3 h3 L3 sl3 vv3 W3 w3 V_new
      replace K0 := K0.wr w3 (Or.inl (List.mem_of_getElem? (i := 0) rfl))
      replace V_e : Arv Z h3 e ke .byte (32 : Int32) ((bs ++ [(92 : Int32)]).map Value.int) (.int 0) := V_new
      clear V_new
      refine Go.st (fun _ => XS.aloadN W3.here W3.ex rfl (hb hby d40_19) rfl rfl) ?_
      refine Go.st (fun _ => XS.iloadN W3.here W3.ex rfl (hb hby d40_20) rfl) ?_
      refine Go.st (fun _ => XS.iconst W3.here W3.ex rfl (hb hby d40_21)) ?_
      show Go _ _ _ _ (T3.setTop (mkF m_ 22 #[.val (.ref e), .val (.int (Int32.ofNat bs.length)), .val (.int c), .val (.int c)] [(.int (1 : Int32)), (.int (Int32.ofNat bs.length)), (.ref e)]))
      refine Go.st (fun _ => XS.iadd W3.here W3.ex rfl (hb hby d40_22) rfl) ?_
      show Go _ _ _ _ (T3.setTop (mkF m_ 23 #[.val (.ref e), .val (.int (Int32.ofNat bs.length)), .val (.int c), .val (.int c)] [(.int ((Int32.ofNat bs.length) + (1 : Int32))), (.ref e)]))
      rw [show ((Int32.ofNat bs.length) + (1 : Int32)) = (Int32.ofNat (bs.length + 1)) from ofn_add _ 1]
      refine Go.st (fun _ => XS.iloadN W3.here W3.ex rfl (hb hby d40_23) rfl) ?_
      refine Go.st (fun _ => XS.i2b W3.here W3.ex rfl (hb hby d40_24) rfl) ?_
      show Go _ _ _ _ (T3.setTop (mkF m_ 25 #[.val (.ref e), .val (.int (Int32.ofNat bs.length)), .val (.int c), .val (.int c)] [(.int (c.toInt8.toInt32)), (.int (Int32.ofNat (bs.length + 1))), (.ref e)]))
      refine W3.stA V_e (x := (c.toInt8.toInt32)) (n1 := (bs.length + 1)) (ln rfl) (rmE (k := 1) rfl (by omega)) (List.mem_of_getElem? (i := 0) rfl) g_e (hb hby d40_25) ?_
      intro T4 h4 L4 sl4 vv4 W4 w4 V_new
      replace K0 := K0.wr w4 (Or.inl (List.mem_of_getElem? (i := 0) rfl))
      rw [nar_byte] at V_new
      replace V_e : Arv Z h4 e ke .byte (32 : Int32) ((bs ++ [(92 : Int32), (c.toInt8.toInt32)]).map Value.int) (.int 0) := by rw [List.append_assoc] at V_new; exact V_new
      clear V_new
      refine Go.st (fun _ => XS.iloadN W4.here W4.ex rfl (hb hby d40_26) rfl) ?_
      refine Go.st (fun _ => XS.iconst W4.here W4.ex rfl (hb hby d40_27)) ?_
      refine Go.st (fun _ => XS.iadd W4.here W4.ex rfl (hb hby d40_28) rfl) ?_
      show Go _ _ _ _ (T4.setTop (mkF m_ 29 #[.val (.ref e), .val (.int (Int32.ofNat bs.length)), .val (.int c), .val (.int c)] [(.int ((Int32.ofNat bs.length) + (2 : Int32)))]))
      rw [show ((Int32.ofNat bs.length) + (2 : Int32)) = (Int32.ofNat (bs.length + 2)) from ofn_add _ 2]
      show Go _ _ _ _ (T4.setTop (mkF m_ 29 #[.val (.ref e), .val (.int (Int32.ofNat bs.length)), .val (.int c), .val (.int c)] [(.int (Int32.ofNat (bs.length + 2)))]))
      have he : Ec c = [(92 : Int32), (c.toInt8.toInt32)] := Ec_q (Or.inr z92)
      exact W4.retI hret (hb hby d40_29) (by decide) (by decide) fun vr_ cr_ => ⟨lnE he rfl, K0, by rw [he]; exact V_e⟩
    · refine Go.st (fun _ => XS.icmpYes W0.here W0.ex rfl (pc0 := 11) (pc' := 30) rfl (hb hby d40_11) rfl (feq (z92 : ¬ (c = (92 : Int32)))).2 (by decide) (by decide)) ?_
      refine Go.st (fun _ => XS.iloadN W0.here W0.ex rfl (hb hby d40_30) rfl) ?_
      show Go _ _ _ _ (T0.setTop (mkF m_ 31 #[.val (.ref e), .val (.int (Int32.ofNat bs.length)), .val (.int c), .val (.int c)] [(.int c)]))
      refine Go.st (fun _ => XS.bipush W0.here W0.ex rfl (hb hby d40_31)) ?_
      show Go _ _ _ _ (T0.setTop (mkF m_ 33 #[.val (.ref e), .val (.int (Int32.ofNat bs.length)), .val (.int c), .val (.int c)] [(.int (8 : Int32)), (.int c)]))
      by_cases z8 : c = (8 : Int32)
      · refine Go.st (fun _ => XS.icmpNo W0.here W0.ex rfl (hb hby d40_33) rfl (teq (z8 : c = (8 : Int32))).2) ?_
        refine Go.st (fun _ => XS.aloadN W0.here W0.ex rfl (hb hby d40_36) rfl rfl) ?_
        show Go _ _ _ _ (T0.setTop (mkF m_ 37 #[.val (.ref e), .val (.int (Int32.ofNat bs.length)), .val (.int c), .val (.int c)] [(.ref e)]))
        refine Go.st (fun _ => XS.iloadN W0.here W0.ex rfl (hb hby d40_37) rfl) ?_
        refine Go.st (fun _ => XS.bipush W0.here W0.ex rfl (hb hby d40_38)) ?_
        show Go _ _ _ _ (T0.setTop (mkF m_ 40 #[.val (.ref e), .val (.int (Int32.ofNat bs.length)), .val (.int c), .val (.int c)] [(.int (98 : Int32)), (.int (Int32.ofNat bs.length)), (.ref e)]))
        refine W0.callS (y := Y15) (cx.w 198 rfl) (cx.w 199 rfl) (cx.w 63 rfl) (cx.w 200 rfl) (by decide) (ct_lesc cx W0.old e bs (98 : Int32) 98 V_e g_e hl (by decide)) (allS (List.mem_of_getElem? (i := 0) rfl) all0) (by decide) (Wd := 0) (by decide) (k' := 0) (n' := 0) rfl rfl (by decide) (by decide) (by rw [hml]; rfl) (argsL := [(.ref e), (.int (Int32.ofNat bs.length)), (.int (98 : Int32))]) (rest := []) rfl (lenOf pd27 rfl) rfl (Nat.le_of_eq rfl) (hb hby d40_40) ?_
        intro v5 vm5 T5 h5 L5 W5 q5
        obtain ⟨rfl, K1, V_e⟩ := q5
        replace K0 := K0.trans K1 (allS (Or.inl (List.mem_of_getElem? (i := 0) rfl)) all0)
        show Go _ _ _ _ (T5.setTop (mkF m_ 43 #[.val (.ref e), .val (.int (Int32.ofNat bs.length)), .val (.int c), .val (.int c)] [(.int (Int32.ofNat (bs.length + 2)))]))
        have he : Ec c = [92, 98] := by rw [z8]; decide +kernel
        exact W5.retI hret (hb hby d40_43) (by decide) (by decide) fun vr_ cr_ => ⟨lnE he rfl, K0, by rw [he]; exact V_e⟩
      · refine Go.st (fun _ => XS.icmpYes W0.here W0.ex rfl (pc0 := 33) (pc' := 44) rfl (hb hby d40_33) rfl (feq (z8 : ¬ (c = (8 : Int32)))).2 (by decide) (by decide)) ?_
        refine Go.st (fun _ => XS.iloadN W0.here W0.ex rfl (hb hby d40_44) rfl) ?_
        show Go _ _ _ _ (T0.setTop (mkF m_ 45 #[.val (.ref e), .val (.int (Int32.ofNat bs.length)), .val (.int c), .val (.int c)] [(.int c)]))
        refine Go.st (fun _ => XS.bipush W0.here W0.ex rfl (hb hby d40_45)) ?_
        show Go _ _ _ _ (T0.setTop (mkF m_ 47 #[.val (.ref e), .val (.int (Int32.ofNat bs.length)), .val (.int c), .val (.int c)] [(.int (9 : Int32)), (.int c)]))
        by_cases z9 : c = (9 : Int32)
        · refine Go.st (fun _ => XS.icmpNo W0.here W0.ex rfl (hb hby d40_47) rfl (teq (z9 : c = (9 : Int32))).2) ?_
          refine Go.st (fun _ => XS.aloadN W0.here W0.ex rfl (hb hby d40_50) rfl rfl) ?_
          show Go _ _ _ _ (T0.setTop (mkF m_ 51 #[.val (.ref e), .val (.int (Int32.ofNat bs.length)), .val (.int c), .val (.int c)] [(.ref e)]))
          refine Go.st (fun _ => XS.iloadN W0.here W0.ex rfl (hb hby d40_51) rfl) ?_
          refine Go.st (fun _ => XS.bipush W0.here W0.ex rfl (hb hby d40_52)) ?_
          show Go _ _ _ _ (T0.setTop (mkF m_ 54 #[.val (.ref e), .val (.int (Int32.ofNat bs.length)), .val (.int c), .val (.int c)] [(.int (116 : Int32)), (.int (Int32.ofNat bs.length)), (.ref e)]))
          refine W0.callS (y := Y15) (cx.w 198 rfl) (cx.w 199 rfl) (cx.w 63 rfl) (cx.w 200 rfl) (by decide) (ct_lesc cx W0.old e bs (116 : Int32) 116 V_e g_e hl (by decide)) (allS (List.mem_of_getElem? (i := 0) rfl) all0) (by decide) (Wd := 0) (by decide) (k' := 0) (n' := 0) rfl rfl (by decide) (by decide) (by rw [hml]; rfl) (argsL := [(.ref e), (.int (Int32.ofNat bs.length)), (.int (116 : Int32))]) (rest := []) rfl (lenOf pd27 rfl) rfl (Nat.le_of_eq rfl) (hb hby d40_54) ?_
          intro v6 vm6 T6 h6 L6 W6 q6
          obtain ⟨rfl, K1, V_e⟩ := q6
          replace K0 := K0.trans K1 (allS (Or.inl (List.mem_of_getElem? (i := 0) rfl)) all0)
          show Go _ _ _ _ (T6.setTop (mkF m_ 57 #[.val (.ref e), .val (.int (Int32.ofNat bs.length)), .val (.int c), .val (.int c)] [(.int (Int32.ofNat (bs.length + 2)))]))
          have he : Ec c = [92, 116] := by rw [z9]; decide +kernel
          exact W6.retI hret (hb hby d40_57) (by decide) (by decide) fun vr_ cr_ => ⟨lnE he rfl, K0, by rw [he]; exact V_e⟩
        · refine Go.st (fun _ => XS.icmpYes W0.here W0.ex rfl (pc0 := 47) (pc' := 58) rfl (hb hby d40_47) rfl (feq (z9 : ¬ (c = (9 : Int32)))).2 (by decide) (by decide)) ?_
          refine Go.st (fun _ => XS.iloadN W0.here W0.ex rfl (hb hby d40_58) rfl) ?_
          show Go _ _ _ _ (T0.setTop (mkF m_ 59 #[.val (.ref e), .val (.int (Int32.ofNat bs.length)), .val (.int c), .val (.int c)] [(.int c)]))
          refine Go.st (fun _ => XS.bipush W0.here W0.ex rfl (hb hby d40_59)) ?_
          show Go _ _ _ _ (T0.setTop (mkF m_ 61 #[.val (.ref e), .val (.int (Int32.ofNat bs.length)), .val (.int c), .val (.int c)] [(.int (10 : Int32)), (.int c)]))
          by_cases z10 : c = (10 : Int32)
          · refine Go.st (fun _ => XS.icmpNo W0.here W0.ex rfl (hb hby d40_61) rfl (teq (z10 : c = (10 : Int32))).2) ?_
            refine Go.st (fun _ => XS.aloadN W0.here W0.ex rfl (hb hby d40_64) rfl rfl) ?_
            show Go _ _ _ _ (T0.setTop (mkF m_ 65 #[.val (.ref e), .val (.int (Int32.ofNat bs.length)), .val (.int c), .val (.int c)] [(.ref e)]))
            refine Go.st (fun _ => XS.iloadN W0.here W0.ex rfl (hb hby d40_65) rfl) ?_
            refine Go.st (fun _ => XS.bipush W0.here W0.ex rfl (hb hby d40_66)) ?_
            show Go _ _ _ _ (T0.setTop (mkF m_ 68 #[.val (.ref e), .val (.int (Int32.ofNat bs.length)), .val (.int c), .val (.int c)] [(.int (110 : Int32)), (.int (Int32.ofNat bs.length)), (.ref e)]))
            refine W0.callS (y := Y15) (cx.w 198 rfl) (cx.w 199 rfl) (cx.w 63 rfl) (cx.w 200 rfl) (by decide) (ct_lesc cx W0.old e bs (110 : Int32) 110 V_e g_e hl (by decide)) (allS (List.mem_of_getElem? (i := 0) rfl) all0) (by decide) (Wd := 0) (by decide) (k' := 0) (n' := 0) rfl rfl (by decide) (by decide) (by rw [hml]; rfl) (argsL := [(.ref e), (.int (Int32.ofNat bs.length)), (.int (110 : Int32))]) (rest := []) rfl (lenOf pd27 rfl) rfl (Nat.le_of_eq rfl) (hb hby d40_68) ?_
            intro v7 vm7 T7 h7 L7 W7 q7
            obtain ⟨rfl, K1, V_e⟩ := q7
            replace K0 := K0.trans K1 (allS (Or.inl (List.mem_of_getElem? (i := 0) rfl)) all0)
            show Go _ _ _ _ (T7.setTop (mkF m_ 71 #[.val (.ref e), .val (.int (Int32.ofNat bs.length)), .val (.int c), .val (.int c)] [(.int (Int32.ofNat (bs.length + 2)))]))
            have he : Ec c = [92, 110] := by rw [z10]; decide +kernel
            exact W7.retI hret (hb hby d40_71) (by decide) (by decide) fun vr_ cr_ => ⟨lnE he rfl, K0, by rw [he]; exact V_e⟩
          · refine Go.st (fun _ => XS.icmpYes W0.here W0.ex rfl (pc0 := 61) (pc' := 72) rfl (hb hby d40_61) rfl (feq (z10 : ¬ (c = (10 : Int32)))).2 (by decide) (by decide)) ?_
            refine Go.st (fun _ => XS.iloadN W0.here W0.ex rfl (hb hby d40_72) rfl) ?_
            show Go _ _ _ _ (T0.setTop (mkF m_ 73 #[.val (.ref e), .val (.int (Int32.ofNat bs.length)), .val (.int c), .val (.int c)] [(.int c)]))
            refine Go.st (fun _ => XS.bipush W0.here W0.ex rfl (hb hby d40_73)) ?_
            show Go _ _ _ _ (T0.setTop (mkF m_ 75 #[.val (.ref e), .val (.int (Int32.ofNat bs.length)), .val (.int c), .val (.int c)] [(.int (12 : Int32)), (.int c)]))
            by_cases z12 : c = (12 : Int32)
            · refine Go.st (fun _ => XS.icmpNo W0.here W0.ex rfl (hb hby d40_75) rfl (teq (z12 : c = (12 : Int32))).2) ?_
              refine Go.st (fun _ => XS.aloadN W0.here W0.ex rfl (hb hby d40_78) rfl rfl) ?_
              show Go _ _ _ _ (T0.setTop (mkF m_ 79 #[.val (.ref e), .val (.int (Int32.ofNat bs.length)), .val (.int c), .val (.int c)] [(.ref e)]))
              refine Go.st (fun _ => XS.iloadN W0.here W0.ex rfl (hb hby d40_79) rfl) ?_
              refine Go.st (fun _ => XS.bipush W0.here W0.ex rfl (hb hby d40_80)) ?_
              show Go _ _ _ _ (T0.setTop (mkF m_ 82 #[.val (.ref e), .val (.int (Int32.ofNat bs.length)), .val (.int c), .val (.int c)] [(.int (102 : Int32)), (.int (Int32.ofNat bs.length)), (.ref e)]))
              refine W0.callS (y := Y15) (cx.w 198 rfl) (cx.w 199 rfl) (cx.w 63 rfl) (cx.w 200 rfl) (by decide) (ct_lesc cx W0.old e bs (102 : Int32) 102 V_e g_e hl (by decide)) (allS (List.mem_of_getElem? (i := 0) rfl) all0) (by decide) (Wd := 0) (by decide) (k' := 0) (n' := 0) rfl rfl (by decide) (by decide) (by rw [hml]; rfl) (argsL := [(.ref e), (.int (Int32.ofNat bs.length)), (.int (102 : Int32))]) (rest := []) rfl (lenOf pd27 rfl) rfl (Nat.le_of_eq rfl) (hb hby d40_82) ?_
              intro v8 vm8 T8 h8 L8 W8 q8
              obtain ⟨rfl, K1, V_e⟩ := q8
              replace K0 := K0.trans K1 (allS (Or.inl (List.mem_of_getElem? (i := 0) rfl)) all0)
              show Go _ _ _ _ (T8.setTop (mkF m_ 85 #[.val (.ref e), .val (.int (Int32.ofNat bs.length)), .val (.int c), .val (.int c)] [(.int (Int32.ofNat (bs.length + 2)))]))
              have he : Ec c = [92, 102] := by rw [z12]; decide +kernel
              exact W8.retI hret (hb hby d40_85) (by decide) (by decide) fun vr_ cr_ => ⟨lnE he rfl, K0, by rw [he]; exact V_e⟩
            · refine Go.st (fun _ => XS.icmpYes W0.here W0.ex rfl (pc0 := 75) (pc' := 86) rfl (hb hby d40_75) rfl (feq (z12 : ¬ (c = (12 : Int32)))).2 (by decide) (by decide)) ?_
              refine Go.st (fun _ => XS.iloadN W0.here W0.ex rfl (hb hby d40_86) rfl) ?_
              show Go _ _ _ _ (T0.setTop (mkF m_ 87 #[.val (.ref e), .val (.int (Int32.ofNat bs.length)), .val (.int c), .val (.int c)] [(.int c)]))
              refine Go.st (fun _ => XS.bipush W0.here W0.ex rfl (hb hby d40_87)) ?_
              show Go _ _ _ _ (T0.setTop (mkF m_ 89 #[.val (.ref e), .val (.int (Int32.ofNat bs.length)), .val (.int c), .val (.int c)] [(.int (13 : Int32)), (.int c)]))
              by_cases z13 : c = (13 : Int32)
              · refine Go.st (fun _ => XS.icmpNo W0.here W0.ex rfl (hb hby d40_89) rfl (teq (z13 : c = (13 : Int32))).2) ?_
                refine Go.st (fun _ => XS.aloadN W0.here W0.ex rfl (hb hby d40_92) rfl rfl) ?_
                show Go _ _ _ _ (T0.setTop (mkF m_ 93 #[.val (.ref e), .val (.int (Int32.ofNat bs.length)), .val (.int c), .val (.int c)] [(.ref e)]))
                refine Go.st (fun _ => XS.iloadN W0.here W0.ex rfl (hb hby d40_93) rfl) ?_
                refine Go.st (fun _ => XS.bipush W0.here W0.ex rfl (hb hby d40_94)) ?_
                show Go _ _ _ _ (T0.setTop (mkF m_ 96 #[.val (.ref e), .val (.int (Int32.ofNat bs.length)), .val (.int c), .val (.int c)] [(.int (114 : Int32)), (.int (Int32.ofNat bs.length)), (.ref e)]))
                refine W0.callS (y := Y15) (cx.w 198 rfl) (cx.w 199 rfl) (cx.w 63 rfl) (cx.w 200 rfl) (by decide) (ct_lesc cx W0.old e bs (114 : Int32) 114 V_e g_e hl (by decide)) (allS (List.mem_of_getElem? (i := 0) rfl) all0) (by decide) (Wd := 0) (by decide) (k' := 0) (n' := 0) rfl rfl (by decide) (by decide) (by rw [hml]; rfl) (argsL := [(.ref e), (.int (Int32.ofNat bs.length)), (.int (114 : Int32))]) (rest := []) rfl (lenOf pd27 rfl) rfl (Nat.le_of_eq rfl) (hb hby d40_96) ?_
                intro v9 vm9 T9 h9 L9 W9 q9
                obtain ⟨rfl, K1, V_e⟩ := q9
                replace K0 := K0.trans K1 (allS (Or.inl (List.mem_of_getElem? (i := 0) rfl)) all0)
                show Go _ _ _ _ (T9.setTop (mkF m_ 99 #[.val (.ref e), .val (.int (Int32.ofNat bs.length)), .val (.int c), .val (.int c)] [(.int (Int32.ofNat (bs.length + 2)))]))
                have he : Ec c = [92, 114] := by rw [z13]; decide +kernel
                exact W9.retI hret (hb hby d40_99) (by decide) (by decide) fun vr_ cr_ => ⟨lnE he rfl, K0, by rw [he]; exact V_e⟩
              · refine Go.st (fun _ => XS.icmpYes W0.here W0.ex rfl (pc0 := 89) (pc' := 100) rfl (hb hby d40_89) rfl (feq (z13 : ¬ (c = (13 : Int32)))).2 (by decide) (by decide)) ?_
                refine Go.st (fun _ => XS.iloadN W0.here W0.ex rfl (hb hby d40_100) rfl) ?_
                show Go _ _ _ _ (T0.setTop (mkF m_ 101 #[.val (.ref e), .val (.int (Int32.ofNat bs.length)), .val (.int c), .val (.int c)] [(.int c)]))
                refine Go.st (fun _ => XS.bipush W0.here W0.ex rfl (hb hby d40_101)) ?_
                show Go _ _ _ _ (T0.setTop (mkF m_ 103 #[.val (.ref e), .val (.int (Int32.ofNat bs.length)), .val (.int c), .val (.int c)] [(.int (32 : Int32)), (.int c)]))
                by_cases z32 : c < (32 : Int32)
                · refine Go.st (fun _ => XS.icmpYes W0.here W0.ex rfl (pc0 := 103) (pc' := 118) rfl (hb hby d40_103) rfl (tlt (z32 : c < (32 : Int32))).1 (by decide) (by decide)) ?_
                  show Go _ _ _ _ (T0.setTop (mkF m_ 118 #[.val (.ref e), .val (.int (Int32.ofNat bs.length)), .val (.int c), .val (.int c)] []))
                  exact enc_u cx e bs c h ((W0.more (by decide) (by decide)).sub (allS (List.mem_of_getElem? (i := 0) rfl) all0)) hby hml hret hnm V_e g_e hl (Ec_u ⟨z34, z92, z8, z9, z10, z12, z13⟩ (Or.inl z32)) K0
                · refine Go.st (fun _ => XS.icmpNo W0.here W0.ex rfl (hb hby d40_103) rfl (flt (z32 : ¬ (c < (32 : Int32)))).1) ?_
                  refine Go.st (fun _ => XS.iloadN W0.here W0.ex rfl (hb hby d40_106) rfl) ?_
                  show Go _ _ _ _ (T0.setTop (mkF m_ 107 #[.val (.ref e), .val (.int (Int32.ofNat bs.length)), .val (.int c), .val (.int c)] [(.int c)]))
                  refine Go.st (fun _ => W0.X.ldcInt W0.ex W0.ho (mvT W0.hZ (cx.w 189 rfl)) (g := (mkF m_ 107 #[.val (.ref e), .val (.int (Int32.ofNat bs.length)), .val (.int c), .val (.int c)] [(.int c)])) rfl (hb hby d40_107) _) ?_
                  show Go _ _ _ _ (T0.setTop (mkF m_ 109 #[.val (.ref e), .val (.int (Int32.ofNat bs.length)), .val (.int c), .val (.int c)] [(.int (55296 : Int32)), (.int c)]))
                  by_cases z55 : c < (55296 : Int32)
                  · refine Go.st (fun _ => XS.icmpYes W0.here W0.ex rfl (pc0 := 109) (pc' := 191) rfl (hb hby d40_109) rfl (tlt (z55 : c < (55296 : Int32))).1 (by decide) (by decide)) ?_
                    show Go _ _ _ _ (T0.setTop (mkF m_ 191 #[.val (.ref e), .val (.int (Int32.ofNat bs.length)), .val (.int c), .val (.int c)] []))
                    exact enc_r cx e bs c h ((W0.more (by decide) (by decide)).sub (allS (List.mem_of_getElem? (i := 0) rfl) all0)) hby hml hret hnm V_e g_e hl ⟨z34, z92, z8, z9, z10, z12, z13⟩ (fun q => q.elim z32 fun r => r.1 z55) K0
                  · refine Go.st (fun _ => XS.icmpNo W0.here W0.ex rfl (hb hby d40_109) rfl (flt (z55 : ¬ (c < (55296 : Int32)))).1) ?_
                    refine Go.st (fun _ => XS.iloadN W0.here W0.ex rfl (hb hby d40_112) rfl) ?_
                    show Go _ _ _ _ (T0.setTop (mkF m_ 113 #[.val (.ref e), .val (.int (Int32.ofNat bs.length)), .val (.int c), .val (.int c)] [(.int c)]))
                    refine Go.st (fun _ => W0.X.ldcInt W0.ex W0.ho (mvT W0.hZ (cx.w 191 rfl)) (g := (mkF m_ 113 #[.val (.ref e), .val (.int (Int32.ofNat bs.length)), .val (.int c), .val (.int c)] [(.int c)])) rfl (hb hby d40_113) _) ?_
                    show Go _ _ _ _ (T0.setTop (mkF m_ 115 #[.val (.ref e), .val (.int (Int32.ofNat bs.length)), .val (.int c), .val (.int c)] [(.int (57343 : Int32)), (.int c)]))
                    by_cases z57 : (57343 : Int32) < c
                    · refine Go.st (fun _ => XS.icmpYes W0.here W0.ex rfl (pc0 := 115) (pc' := 191) rfl (hb hby d40_115) rfl (tlt (z57 : (57343 : Int32) < c)).2.2.1 (by decide) (by decide)) ?_
                      show Go _ _ _ _ (T0.setTop (mkF m_ 191 #[.val (.ref e), .val (.int (Int32.ofNat bs.length)), .val (.int c), .val (.int c)] []))
                      exact enc_r cx e bs c h ((W0.more (by decide) (by decide)).sub (allS (List.mem_of_getElem? (i := 0) rfl) all0)) hby hml hret hnm V_e g_e hl ⟨z34, z92, z8, z9, z10, z12, z13⟩ (fun q => q.elim z32 fun r => r.2 z57) K0
                    · refine Go.st (fun _ => XS.icmpNo W0.here W0.ex rfl (hb hby d40_115) rfl (flt (z57 : ¬ ((57343 : Int32) < c))).2.2.1) ?_
                      show Go _ _ _ _ (T0.setTop (mkF m_ 118 #[.val (.ref e), .val (.int (Int32.ofNat bs.length)), .val (.int c), .val (.int c)] []))
                      exact enc_u cx e bs c h ((W0.more (by decide) (by decide)).sub (allS (List.mem_of_getElem? (i := 0) rfl) all0)) hby hml hret hnm V_e g_e hl (Ec_u ⟨z34, z92, z8, z9, z10, z12, z13⟩ (Or.inr ⟨z55, z57⟩)) K0
theorem law_z {l : Launch} {Z a0 n0 g1 gf hxa khx} (cx : Ctx Z a0 n0 g1 gf hxa khx) {p_ : Program} {e_ : Env} {s_ : State} {m_ : MethodId} {ar_ : Array Value} {bl_ : List Frame} {mt_ : Method} {c_ : Code} {vm0 : Vm} {T0 : State} {h : Heap} {L0 : List Loc} (c0 c1 fl x y em wn : Int32) (ca q e j b : Addr) (bs : List Int32) (f : Int32) {kb ke : ClassId} (W0 : Wk p_ l e_ room_1 s_ m_ ar_ bl_ mt_ c_ Z a0 consts_1 n0 "com/example/dijtabla/dijtabla/JsonTextBytesPinLaw" vm0 T0 h L0 13 4219 []) (hby : c_.code = code) (hml : c_.maxLocals = 15) (hret : mt_.sig.returnType = (some .boolean)) (hnm : mt_.name = "law") (J : JT Z h j b kb bs f) (V_e : Arv Z h e ke .byte 32 (bs.map Value.int) (.int 0)) (hbl : bs.length ≤ 24) (hd : bs = [] ∨ ∃ r, bs = 91 :: r) :
    Go p_ e_ bl_ (Pst Z consts_1 n0 s_ room_1.cells room_1.slots (fun v _ _ => v = some (.int 1))) (T0.setTop (mkF m_ 236 #[.val (.int c0), .val (.int c1), .val (.int fl), .val (.int x), .val (.int y), .val (.int em), .val (.int wn), .val (.ref ca), .val (.ref q), .val (.ref e), .val (.int (Int32.ofNat bs.length)), .val (.ref j), .unset, .unset, .unset] [])) := by
  have E_j := J.E
  refine Go.st (fun _ => XS.aload W0.here W0.ex rfl (hb hby at_236) rfl rfl) ?_
  show Go _ _ _ _ (T0.setTop (mkF m_ 238 #[.val (.int c0), .val (.int c1), .val (.int fl), .val (.int x), .val (.int y), .val (.int em), .val (.int wn), .val (.ref ca), .val (.ref q), .val (.ref e), .val (.int (Int32.ofNat bs.length)), .val (.ref j), .unset, .unset, .unset] [(.ref j)]))
  refine W0.callV (y := Y1) (z := Y1) (cx.w 42 rfl) (cx.w 43 rfl) (cx.w 45 rfl) (cx.w 44 rfl) (cx.w 33 rfl) (cx.w 46 rfl) (W0.nf (cx.w 45 rfl)) (by decide) E_j (ct_bytes cx W0.old j b bs f J hbl) all0 (by decide) (Wd := 0) (by decide) (k' := 14) (n' := 4243) rfl rfl (by decide) (by decide) (by rw [hml]; rfl) (a := j) (argsL := []) (rest := []) rfl (lenOf pd30 rfl) rfl (Nat.le_of_eq rfl) (hb hby at_238) ?_
  intro v1 vm1 T1 h1 L1 W1 q1
  obtain ⟨r, kr, rfl, hz_r, g_r, K1, V_r, sf_r⟩ := q1
  have ne_j_r : j ≠ r := Nat.ne_of_lt (Nat.lt_of_lt_of_le J.lt hz_r)
  have ne_b_r : b ≠ r := Nat.ne_of_lt (Nat.lt_of_lt_of_le J.ltt hz_r)
  have ne_e_r : e ≠ r := Nat.ne_of_lt (Nat.lt_of_lt_of_le V_e.lt hz_r)
  replace J := J.keep K1 nin0 nin0
  replace E_j := E_j.keep K1
  replace V_e := V_e.keep K1 nin0
  show Go _ _ _ _ (T1.setTop (mkF m_ 241 #[.val (.int c0), .val (.int c1), .val (.int fl), .val (.int x), .val (.int y), .val (.int em), .val (.int wn), .val (.ref ca), .val (.ref q), .val (.ref e), .val (.int (Int32.ofNat bs.length)), .val (.ref j), .unset, .unset, .unset] [(.ref r)]))
  have Wb2 := W1.cons sf_r V_r.lt
  refine Go.st (fun _ => XS.astore Wb2.here Wb2.ex rfl (hb hby at_241) rfl rfl (l' := #[.val (.int c0), .val (.int c1), .val (.int fl), .val (.int x), .val (.int y), .val (.int em), .val (.int wn), .val (.ref ca), .val (.ref q), .val (.ref e), .val (.int (Int32.ofNat bs.length)), .val (.ref j), .val (.ref r), .unset, .unset]) rfl) ?_
  refine Go.st (fun _ => XS.aload Wb2.here Wb2.ex rfl (hb hby at_243) rfl rfl) ?_
  show Go _ _ _ _ (T1.setTop (mkF m_ 245 #[.val (.int c0), .val (.int c1), .val (.int fl), .val (.int x), .val (.int y), .val (.int em), .val (.int wn), .val (.ref ca), .val (.ref q), .val (.ref e), .val (.int (Int32.ofNat bs.length)), .val (.ref j), .val (.ref r), .unset, .unset] [(.ref r)]))
  refine Wb2.alen V_r (hb hby at_245) ?_
  refine Go.st (fun _ => XS.iload Wb2.here Wb2.ex rfl (hb hby at_246) rfl) ?_
  refine Go.st (fun _ => XS.icmpYes Wb2.here Wb2.ex rfl (pc0 := 248) (pc' := 253) rfl (hb hby at_248) rfl (teq (rfl : (Int32.ofNat bs.length) = (Int32.ofNat bs.length))).1 (by decide) (by decide)) ?_
  show Go _ _ _ _ (T1.setTop (mkF m_ 253 #[.val (.int c0), .val (.int c1), .val (.int fl), .val (.int x), .val (.int y), .val (.int em), .val (.int wn), .val (.ref ca), .val (.ref q), .val (.ref e), .val (.int (Int32.ofNat bs.length)), .val (.ref j), .val (.ref r), .unset, .unset] []))
  refine Go.st (fun _ => XS.aload Wb2.here Wb2.ex rfl (hb hby at_253) rfl rfl) ?_
  refine Go.st (fun _ => XS.aload Wb2.here Wb2.ex rfl (hb hby at_255) rfl rfl) ?_
  refine Go.st (fun _ => XS.iconst Wb2.here Wb2.ex rfl (hb hby at_257)) ?_
  show Go _ _ _ _ (T1.setTop (mkF m_ 258 #[.val (.int c0), .val (.int c1), .val (.int fl), .val (.int x), .val (.int y), .val (.int em), .val (.int wn), .val (.ref ca), .val (.ref q), .val (.ref e), .val (.int (Int32.ofNat bs.length)), .val (.ref j), .val (.ref r), .unset, .unset] [(.int (0 : Int32)), (.ref e), (.ref r)]))
  refine Go.st (fun _ => XS.iload Wb2.here Wb2.ex rfl (hb hby at_258) rfl) ?_
  show Go _ _ _ _ (T1.setTop (mkF m_ 260 #[.val (.int c0), .val (.int c1), .val (.int fl), .val (.int x), .val (.int y), .val (.int em), .val (.int wn), .val (.ref ca), .val (.ref q), .val (.ref e), .val (.int (Int32.ofNat bs.length)), .val (.ref j), .val (.ref r), .unset, .unset] [(.int (Int32.ofNat bs.length)), (.int (0 : Int32)), (.ref e), (.ref r)]))
  refine Wb2.callS (y := Y17) (cx.w 61 rfl) (cx.w 62 rfl) (cx.w 63 rfl) (cx.w 64 rfl) (by decide) (ct_same cx Wb2.old r e bs (0 : Int32) V_r V_e (by decide)) all0 (by decide) (Wd := 0) (by decide) (k' := 14) (n' := 4243) rfl rfl (by decide) (by decide) (by rw [hml]; rfl) (argsL := [(.ref r), (.ref e), (.int (0 : Int32)), (.int (Int32.ofNat bs.length))]) (rest := []) rfl (lenOf pd31 rfl) rfl (Nat.le_of_eq rfl) (hb hby at_260) ?_
  intro v3 vm3 T3 h3 L3 W3 q3
  obtain ⟨rfl, eh_⟩ := q3
  subst h3
  refine Go.st (fun _ => XS.ifNo W3.here W3.ex rfl (hb hby at_263) rfl ((if0 _ _).trans (feq ((by decide) : ¬ ((1 : Int32) = (0 : Int32)))).1)) ?_
  refine Go.st (fun _ => XS.aload W3.here W3.ex rfl (hb hby at_266) rfl rfl) ?_
  refine Go.st (fun _ => XS.aload W3.here W3.ex rfl (hb hby at_268) rfl rfl) ?_
  show Go _ _ _ _ (T3.setTop (mkF m_ 270 #[.val (.int c0), .val (.int c1), .val (.int fl), .val (.int x), .val (.int y), .val (.int em), .val (.int wn), .val (.ref ca), .val (.ref q), .val (.ref e), .val (.int (Int32.ofNat bs.length)), .val (.ref j), .val (.ref r), .unset, .unset] [(.ref e), (.ref r)]))
  refine Go.st (fun _ => XS.iconst W3.here W3.ex rfl (hb hby at_270)) ?_
  refine Go.st (fun _ => XS.iload W3.here W3.ex rfl (hb hby at_271) rfl) ?_
  show Go _ _ _ _ (T3.setTop (mkF m_ 273 #[.val (.int c0), .val (.int c1), .val (.int fl), .val (.int x), .val (.int y), .val (.int em), .val (.int wn), .val (.ref ca), .val (.ref q), .val (.ref e), .val (.int (Int32.ofNat bs.length)), .val (.ref j), .val (.ref r), .unset, .unset] [(.int (Int32.ofNat bs.length)), (.int (1 : Int32)), (.ref e), (.ref r)]))
  refine W3.callS (y := Y17) (cx.w 61 rfl) (cx.w 62 rfl) (cx.w 63 rfl) (cx.w 64 rfl) (by decide) (ct_same cx W3.old r e bs (1 : Int32) V_r V_e (by decide)) all0 (by decide) (Wd := 0) (by decide) (k' := 14) (n' := 4243) rfl rfl (by decide) (by decide) (by rw [hml]; rfl) (argsL := [(.ref r), (.ref e), (.int (1 : Int32)), (.int (Int32.ofNat bs.length))]) (rest := []) rfl (lenOf pd31 rfl) rfl (Nat.le_of_eq rfl) (hb hby at_273) ?_
  intro v4 vm4 T4 h4 L4 W4 q4
  obtain ⟨rfl, eh_⟩ := q4
  subst h4
  refine Go.st (fun _ => XS.ifNo W4.here W4.ex rfl (hb hby at_276) rfl ((if0 _ _).trans (feq ((by decide) : ¬ ((1 : Int32) = (0 : Int32)))).1)) ?_
  refine Go.st (fun _ => XS.aload W4.here W4.ex rfl (hb hby at_279) rfl rfl) ?_
  refine Go.st (fun _ => XS.aload W4.here W4.ex rfl (hb hby at_281) rfl rfl) ?_
  show Go _ _ _ _ (T4.setTop (mkF m_ 283 #[.val (.int c0), .val (.int c1), .val (.int fl), .val (.int x), .val (.int y), .val (.int em), .val (.int wn), .val (.ref ca), .val (.ref q), .val (.ref e), .val (.int (Int32.ofNat bs.length)), .val (.ref j), .val (.ref r), .unset, .unset] [(.ref e), (.ref r)]))
  refine Go.st (fun _ => XS.iconst W4.here W4.ex rfl (hb hby at_283)) ?_
  refine Go.st (fun _ => XS.iload W4.here W4.ex rfl (hb hby at_284) rfl) ?_
  show Go _ _ _ _ (T4.setTop (mkF m_ 286 #[.val (.int c0), .val (.int c1), .val (.int fl), .val (.int x), .val (.int y), .val (.int em), .val (.int wn), .val (.ref ca), .val (.ref q), .val (.ref e), .val (.int (Int32.ofNat bs.length)), .val (.ref j), .val (.ref r), .unset, .unset] [(.int (Int32.ofNat bs.length)), (.int (2 : Int32)), (.ref e), (.ref r)]))
  refine W4.callS (y := Y17) (cx.w 61 rfl) (cx.w 62 rfl) (cx.w 63 rfl) (cx.w 64 rfl) (by decide) (ct_same cx W4.old r e bs (2 : Int32) V_r V_e (by decide)) all0 (by decide) (Wd := 0) (by decide) (k' := 14) (n' := 4243) rfl rfl (by decide) (by decide) (by rw [hml]; rfl) (argsL := [(.ref r), (.ref e), (.int (2 : Int32)), (.int (Int32.ofNat bs.length))]) (rest := []) rfl (lenOf pd31 rfl) rfl (Nat.le_of_eq rfl) (hb hby at_286) ?_
  intro v5 vm5 T5 h5 L5 W5 q5
  obtain ⟨rfl, eh_⟩ := q5
  subst h5
  refine Go.st (fun _ => XS.ifNo W5.here W5.ex rfl (hb hby at_289) rfl ((if0 _ _).trans (feq ((by decide) : ¬ ((1 : Int32) = (0 : Int32)))).1)) ?_
  refine Go.st (fun _ => XS.aload W5.here W5.ex rfl (hb hby at_292) rfl rfl) ?_
  refine Go.st (fun _ => XS.aload W5.here W5.ex rfl (hb hby at_294) rfl rfl) ?_
  show Go _ _ _ _ (T5.setTop (mkF m_ 296 #[.val (.int c0), .val (.int c1), .val (.int fl), .val (.int x), .val (.int y), .val (.int em), .val (.int wn), .val (.ref ca), .val (.ref q), .val (.ref e), .val (.int (Int32.ofNat bs.length)), .val (.ref j), .val (.ref r), .unset, .unset] [(.ref e), (.ref r)]))
  refine Go.st (fun _ => XS.iconst W5.here W5.ex rfl (hb hby at_296)) ?_
  refine Go.st (fun _ => XS.iload W5.here W5.ex rfl (hb hby at_297) rfl) ?_
  show Go _ _ _ _ (T5.setTop (mkF m_ 299 #[.val (.int c0), .val (.int c1), .val (.int fl), .val (.int x), .val (.int y), .val (.int em), .val (.int wn), .val (.ref ca), .val (.ref q), .val (.ref e), .val (.int (Int32.ofNat bs.length)), .val (.ref j), .val (.ref r), .unset, .unset] [(.int (Int32.ofNat bs.length)), (.int (3 : Int32)), (.ref e), (.ref r)]))
  refine W5.callS (y := Y17) (cx.w 61 rfl) (cx.w 62 rfl) (cx.w 63 rfl) (cx.w 64 rfl) (by decide) (ct_same cx W5.old r e bs (3 : Int32) V_r V_e (by decide)) all0 (by decide) (Wd := 0) (by decide) (k' := 14) (n' := 4243) rfl rfl (by decide) (by decide) (by rw [hml]; rfl) (argsL := [(.ref r), (.ref e), (.int (3 : Int32)), (.int (Int32.ofNat bs.length))]) (rest := []) rfl (lenOf pd31 rfl) rfl (Nat.le_of_eq rfl) (hb hby at_299) ?_
  intro v6 vm6 T6 h6 L6 W6 q6
  obtain ⟨rfl, eh_⟩ := q6
  subst h6
  refine Go.st (fun _ => XS.ifNo W6.here W6.ex rfl (hb hby at_302) rfl ((if0 _ _).trans (feq ((by decide) : ¬ ((1 : Int32) = (0 : Int32)))).1)) ?_
  refine Go.st (fun _ => XS.aload W6.here W6.ex rfl (hb hby at_305) rfl rfl) ?_
  refine Go.st (fun _ => XS.aload W6.here W6.ex rfl (hb hby at_307) rfl rfl) ?_
  show Go _ _ _ _ (T6.setTop (mkF m_ 309 #[.val (.int c0), .val (.int c1), .val (.int fl), .val (.int x), .val (.int y), .val (.int em), .val (.int wn), .val (.ref ca), .val (.ref q), .val (.ref e), .val (.int (Int32.ofNat bs.length)), .val (.ref j), .val (.ref r), .unset, .unset] [(.ref e), (.ref r)]))
  refine Go.st (fun _ => XS.iconst W6.here W6.ex rfl (hb hby at_309)) ?_
  refine Go.st (fun _ => XS.iload W6.here W6.ex rfl (hb hby at_310) rfl) ?_
  show Go _ _ _ _ (T6.setTop (mkF m_ 312 #[.val (.int c0), .val (.int c1), .val (.int fl), .val (.int x), .val (.int y), .val (.int em), .val (.int wn), .val (.ref ca), .val (.ref q), .val (.ref e), .val (.int (Int32.ofNat bs.length)), .val (.ref j), .val (.ref r), .unset, .unset] [(.int (Int32.ofNat bs.length)), (.int (4 : Int32)), (.ref e), (.ref r)]))
  refine W6.callS (y := Y17) (cx.w 61 rfl) (cx.w 62 rfl) (cx.w 63 rfl) (cx.w 64 rfl) (by decide) (ct_same cx W6.old r e bs (4 : Int32) V_r V_e (by decide)) all0 (by decide) (Wd := 0) (by decide) (k' := 14) (n' := 4243) rfl rfl (by decide) (by decide) (by rw [hml]; rfl) (argsL := [(.ref r), (.ref e), (.int (4 : Int32)), (.int (Int32.ofNat bs.length))]) (rest := []) rfl (lenOf pd31 rfl) rfl (Nat.le_of_eq rfl) (hb hby at_312) ?_
  intro v7 vm7 T7 h7 L7 W7 q7
  obtain ⟨rfl, eh_⟩ := q7
  subst h7
  refine Go.st (fun _ => XS.ifNo W7.here W7.ex rfl (hb hby at_315) rfl ((if0 _ _).trans (feq ((by decide) : ¬ ((1 : Int32) = (0 : Int32)))).1)) ?_
  refine Go.st (fun _ => XS.aload W7.here W7.ex rfl (hb hby at_318) rfl rfl) ?_
  refine Go.st (fun _ => XS.aload W7.here W7.ex rfl (hb hby at_320) rfl rfl) ?_
  show Go _ _ _ _ (T7.setTop (mkF m_ 322 #[.val (.int c0), .val (.int c1), .val (.int fl), .val (.int x), .val (.int y), .val (.int em), .val (.int wn), .val (.ref ca), .val (.ref q), .val (.ref e), .val (.int (Int32.ofNat bs.length)), .val (.ref j), .val (.ref r), .unset, .unset] [(.ref e), (.ref r)]))
  refine Go.st (fun _ => XS.iconst W7.here W7.ex rfl (hb hby at_322)) ?_
  refine Go.st (fun _ => XS.iload W7.here W7.ex rfl (hb hby at_323) rfl) ?_
  show Go _ _ _ _ (T7.setTop (mkF m_ 325 #[.val (.int c0), .val (.int c1), .val (.int fl), .val (.int x), .val (.int y), .val (.int em), .val (.int wn), .val (.ref ca), .val (.ref q), .val (.ref e), .val (.int (Int32.ofNat bs.length)), .val (.ref j), .val (.ref r), .unset, .unset] [(.int (Int32.ofNat bs.length)), (.int (5 : Int32)), (.ref e), (.ref r)]))
  refine W7.callS (y := Y17) (cx.w 61 rfl) (cx.w 62 rfl) (cx.w 63 rfl) (cx.w 64 rfl) (by decide) (ct_same cx W7.old r e bs (5 : Int32) V_r V_e (by decide)) all0 (by decide) (Wd := 0) (by decide) (k' := 14) (n' := 4243) rfl rfl (by decide) (by decide) (by rw [hml]; rfl) (argsL := [(.ref r), (.ref e), (.int (5 : Int32)), (.int (Int32.ofNat bs.length))]) (rest := []) rfl (lenOf pd31 rfl) rfl (Nat.le_of_eq rfl) (hb hby at_325) ?_
  intro v8 vm8 T8 h8 L8 W8 q8
  obtain ⟨rfl, eh_⟩ := q8
  subst h8
  refine Go.st (fun _ => XS.ifNo W8.here W8.ex rfl (hb hby at_328) rfl ((if0 _ _).trans (feq ((by decide) : ¬ ((1 : Int32) = (0 : Int32)))).1)) ?_
  refine Go.st (fun _ => XS.aload W8.here W8.ex rfl (hb hby at_331) rfl rfl) ?_
  refine Go.st (fun _ => XS.aload W8.here W8.ex rfl (hb hby at_333) rfl rfl) ?_
  show Go _ _ _ _ (T8.setTop (mkF m_ 335 #[.val (.int c0), .val (.int c1), .val (.int fl), .val (.int x), .val (.int y), .val (.int em), .val (.int wn), .val (.ref ca), .val (.ref q), .val (.ref e), .val (.int (Int32.ofNat bs.length)), .val (.ref j), .val (.ref r), .unset, .unset] [(.ref e), (.ref r)]))
  refine Go.st (fun _ => XS.bipush W8.here W8.ex rfl (hb hby at_335)) ?_
  refine Go.st (fun _ => XS.iload W8.here W8.ex rfl (hb hby at_337) rfl) ?_
  show Go _ _ _ _ (T8.setTop (mkF m_ 339 #[.val (.int c0), .val (.int c1), .val (.int fl), .val (.int x), .val (.int y), .val (.int em), .val (.int wn), .val (.ref ca), .val (.ref q), .val (.ref e), .val (.int (Int32.ofNat bs.length)), .val (.ref j), .val (.ref r), .unset, .unset] [(.int (Int32.ofNat bs.length)), (.int (6 : Int32)), (.ref e), (.ref r)]))
  refine W8.callS (y := Y17) (cx.w 61 rfl) (cx.w 62 rfl) (cx.w 63 rfl) (cx.w 64 rfl) (by decide) (ct_same cx W8.old r e bs (6 : Int32) V_r V_e (by decide)) all0 (by decide) (Wd := 0) (by decide) (k' := 14) (n' := 4243) rfl rfl (by decide) (by decide) (by rw [hml]; rfl) (argsL := [(.ref r), (.ref e), (.int (6 : Int32)), (.int (Int32.ofNat bs.length))]) (rest := []) rfl (lenOf pd31 rfl) rfl (Nat.le_of_eq rfl) (hb hby at_339) ?_
  intro v9 vm9 T9 h9 L9 W9 q9
  obtain ⟨rfl, eh_⟩ := q9
  subst h9
  refine Go.st (fun _ => XS.ifNo W9.here W9.ex rfl (hb hby at_342) rfl ((if0 _ _).trans (feq ((by decide) : ¬ ((1 : Int32) = (0 : Int32)))).1)) ?_
  refine Go.st (fun _ => XS.aload W9.here W9.ex rfl (hb hby at_345) rfl rfl) ?_
  refine Go.st (fun _ => XS.aload W9.here W9.ex rfl (hb hby at_347) rfl rfl) ?_
  show Go _ _ _ _ (T9.setTop (mkF m_ 349 #[.val (.int c0), .val (.int c1), .val (.int fl), .val (.int x), .val (.int y), .val (.int em), .val (.int wn), .val (.ref ca), .val (.ref q), .val (.ref e), .val (.int (Int32.ofNat bs.length)), .val (.ref j), .val (.ref r), .unset, .unset] [(.ref e), (.ref r)]))
  refine Go.st (fun _ => XS.bipush W9.here W9.ex rfl (hb hby at_349)) ?_
  refine Go.st (fun _ => XS.iload W9.here W9.ex rfl (hb hby at_351) rfl) ?_
  show Go _ _ _ _ (T9.setTop (mkF m_ 353 #[.val (.int c0), .val (.int c1), .val (.int fl), .val (.int x), .val (.int y), .val (.int em), .val (.int wn), .val (.ref ca), .val (.ref q), .val (.ref e), .val (.int (Int32.ofNat bs.length)), .val (.ref j), .val (.ref r), .unset, .unset] [(.int (Int32.ofNat bs.length)), (.int (7 : Int32)), (.ref e), (.ref r)]))
  refine W9.callS (y := Y17) (cx.w 61 rfl) (cx.w 62 rfl) (cx.w 63 rfl) (cx.w 64 rfl) (by decide) (ct_same cx W9.old r e bs (7 : Int32) V_r V_e (by decide)) all0 (by decide) (Wd := 0) (by decide) (k' := 14) (n' := 4243) rfl rfl (by decide) (by decide) (by rw [hml]; rfl) (argsL := [(.ref r), (.ref e), (.int (7 : Int32)), (.int (Int32.ofNat bs.length))]) (rest := []) rfl (lenOf pd31 rfl) rfl (Nat.le_of_eq rfl) (hb hby at_353) ?_
  intro v10 vm10 T10 h10 L10 W10 q10
  obtain ⟨rfl, eh_⟩ := q10
  subst h10
  refine Go.st (fun _ => XS.ifNo W10.here W10.ex rfl (hb hby at_356) rfl ((if0 _ _).trans (feq ((by decide) : ¬ ((1 : Int32) = (0 : Int32)))).1)) ?_
  refine Go.st (fun _ => XS.aload W10.here W10.ex rfl (hb hby at_359) rfl rfl) ?_
  refine Go.st (fun _ => XS.aload W10.here W10.ex rfl (hb hby at_361) rfl rfl) ?_
  show Go _ _ _ _ (T10.setTop (mkF m_ 363 #[.val (.int c0), .val (.int c1), .val (.int fl), .val (.int x), .val (.int y), .val (.int em), .val (.int wn), .val (.ref ca), .val (.ref q), .val (.ref e), .val (.int (Int32.ofNat bs.length)), .val (.ref j), .val (.ref r), .unset, .unset] [(.ref e), (.ref r)]))
  refine Go.st (fun _ => XS.bipush W10.here W10.ex rfl (hb hby at_363)) ?_
  refine Go.st (fun _ => XS.iload W10.here W10.ex rfl (hb hby at_365) rfl) ?_
  show Go _ _ _ _ (T10.setTop (mkF m_ 367 #[.val (.int c0), .val (.int c1), .val (.int fl), .val (.int x), .val (.int y), .val (.int em), .val (.int wn), .val (.ref ca), .val (.ref q), .val (.ref e), .val (.int (Int32.ofNat bs.length)), .val (.ref j), .val (.ref r), .unset, .unset] [(.int (Int32.ofNat bs.length)), (.int (8 : Int32)), (.ref e), (.ref r)]))
  refine W10.callS (y := Y17) (cx.w 61 rfl) (cx.w 62 rfl) (cx.w 63 rfl) (cx.w 64 rfl) (by decide) (ct_same cx W10.old r e bs (8 : Int32) V_r V_e (by decide)) all0 (by decide) (Wd := 0) (by decide) (k' := 14) (n' := 4243) rfl rfl (by decide) (by decide) (by rw [hml]; rfl) (argsL := [(.ref r), (.ref e), (.int (8 : Int32)), (.int (Int32.ofNat bs.length))]) (rest := []) rfl (lenOf pd31 rfl) rfl (Nat.le_of_eq rfl) (hb hby at_367) ?_
  intro v11 vm11 T11 h11 L11 W11 q11
  obtain ⟨rfl, eh_⟩ := q11
  subst h11
  refine Go.st (fun _ => XS.ifNo W11.here W11.ex rfl (hb hby at_370) rfl ((if0 _ _).trans (feq ((by decide) : ¬ ((1 : Int32) = (0 : Int32)))).1)) ?_
  refine Go.st (fun _ => XS.aload W11.here W11.ex rfl (hb hby at_373) rfl rfl) ?_
  refine Go.st (fun _ => XS.aload W11.here W11.ex rfl (hb hby at_375) rfl rfl) ?_
  show Go _ _ _ _ (T11.setTop (mkF m_ 377 #[.val (.int c0), .val (.int c1), .val (.int fl), .val (.int x), .val (.int y), .val (.int em), .val (.int wn), .val (.ref ca), .val (.ref q), .val (.ref e), .val (.int (Int32.ofNat bs.length)), .val (.ref j), .val (.ref r), .unset, .unset] [(.ref e), (.ref r)]))
  refine Go.st (fun _ => XS.bipush W11.here W11.ex rfl (hb hby at_377)) ?_
  refine Go.st (fun _ => XS.iload W11.here W11.ex rfl (hb hby at_379) rfl) ?_
  show Go _ _ _ _ (T11.setTop (mkF m_ 381 #[.val (.int c0), .val (.int c1), .val (.int fl), .val (.int x), .val (.int y), .val (.int em), .val (.int wn), .val (.ref ca), .val (.ref q), .val (.ref e), .val (.int (Int32.ofNat bs.length)), .val (.ref j), .val (.ref r), .unset, .unset] [(.int (Int32.ofNat bs.length)), (.int (9 : Int32)), (.ref e), (.ref r)]))
  refine W11.callS (y := Y17) (cx.w 61 rfl) (cx.w 62 rfl) (cx.w 63 rfl) (cx.w 64 rfl) (by decide) (ct_same cx W11.old r e bs (9 : Int32) V_r V_e (by decide)) all0 (by decide) (Wd := 0) (by decide) (k' := 14) (n' := 4243) rfl rfl (by decide) (by decide) (by rw [hml]; rfl) (argsL := [(.ref r), (.ref e), (.int (9 : Int32)), (.int (Int32.ofNat bs.length))]) (rest := []) rfl (lenOf pd31 rfl) rfl (Nat.le_of_eq rfl) (hb hby at_381) ?_
  intro v12 vm12 T12 h12 L12 W12 q12
  obtain ⟨rfl, eh_⟩ := q12
  subst h12
  refine Go.st (fun _ => XS.ifNo W12.here W12.ex rfl (hb hby at_384) rfl ((if0 _ _).trans (feq ((by decide) : ¬ ((1 : Int32) = (0 : Int32)))).1)) ?_
  refine Go.st (fun _ => XS.aload W12.here W12.ex rfl (hb hby at_387) rfl rfl) ?_
  refine Go.st (fun _ => XS.aload W12.here W12.ex rfl (hb hby at_389) rfl rfl) ?_
  show Go _ _ _ _ (T12.setTop (mkF m_ 391 #[.val (.int c0), .val (.int c1), .val (.int fl), .val (.int x), .val (.int y), .val (.int em), .val (.int wn), .val (.ref ca), .val (.ref q), .val (.ref e), .val (.int (Int32.ofNat bs.length)), .val (.ref j), .val (.ref r), .unset, .unset] [(.ref e), (.ref r)]))
  refine Go.st (fun _ => XS.bipush W12.here W12.ex rfl (hb hby at_391)) ?_
  refine Go.st (fun _ => XS.iload W12.here W12.ex rfl (hb hby at_393) rfl) ?_
  show Go _ _ _ _ (T12.setTop (mkF m_ 395 #[.val (.int c0), .val (.int c1), .val (.int fl), .val (.int x), .val (.int y), .val (.int em), .val (.int wn), .val (.ref ca), .val (.ref q), .val (.ref e), .val (.int (Int32.ofNat bs.length)), .val (.ref j), .val (.ref r), .unset, .unset] [(.int (Int32.ofNat bs.length)), (.int (10 : Int32)), (.ref e), (.ref r)]))
  refine W12.callS (y := Y17) (cx.w 61 rfl) (cx.w 62 rfl) (cx.w 63 rfl) (cx.w 64 rfl) (by decide) (ct_same cx W12.old r e bs (10 : Int32) V_r V_e (by decide)) all0 (by decide) (Wd := 0) (by decide) (k' := 14) (n' := 4243) rfl rfl (by decide) (by decide) (by rw [hml]; rfl) (argsL := [(.ref r), (.ref e), (.int (10 : Int32)), (.int (Int32.ofNat bs.length))]) (rest := []) rfl (lenOf pd31 rfl) rfl (Nat.le_of_eq rfl) (hb hby at_395) ?_
  intro v13 vm13 T13 h13 L13 W13 q13
  obtain ⟨rfl, eh_⟩ := q13
  subst h13
  refine Go.st (fun _ => XS.ifNo W13.here W13.ex rfl (hb hby at_398) rfl ((if0 _ _).trans (feq ((by decide) : ¬ ((1 : Int32) = (0 : Int32)))).1)) ?_
  refine Go.st (fun _ => XS.aload W13.here W13.ex rfl (hb hby at_401) rfl rfl) ?_
  refine Go.st (fun _ => XS.aload W13.here W13.ex rfl (hb hby at_403) rfl rfl) ?_
  show Go _ _ _ _ (T13.setTop (mkF m_ 405 #[.val (.int c0), .val (.int c1), .val (.int fl), .val (.int x), .val (.int y), .val (.int em), .val (.int wn), .val (.ref ca), .val (.ref q), .val (.ref e), .val (.int (Int32.ofNat bs.length)), .val (.ref j), .val (.ref r), .unset, .unset] [(.ref e), (.ref r)]))
  refine Go.st (fun _ => XS.bipush W13.here W13.ex rfl (hb hby at_405)) ?_
  refine Go.st (fun _ => XS.iload W13.here W13.ex rfl (hb hby at_407) rfl) ?_
  show Go _ _ _ _ (T13.setTop (mkF m_ 409 #[.val (.int c0), .val (.int c1), .val (.int fl), .val (.int x), .val (.int y), .val (.int em), .val (.int wn), .val (.ref ca), .val (.ref q), .val (.ref e), .val (.int (Int32.ofNat bs.length)), .val (.ref j), .val (.ref r), .unset, .unset] [(.int (Int32.ofNat bs.length)), (.int (11 : Int32)), (.ref e), (.ref r)]))
  refine W13.callS (y := Y17) (cx.w 61 rfl) (cx.w 62 rfl) (cx.w 63 rfl) (cx.w 64 rfl) (by decide) (ct_same cx W13.old r e bs (11 : Int32) V_r V_e (by decide)) all0 (by decide) (Wd := 0) (by decide) (k' := 14) (n' := 4243) rfl rfl (by decide) (by decide) (by rw [hml]; rfl) (argsL := [(.ref r), (.ref e), (.int (11 : Int32)), (.int (Int32.ofNat bs.length))]) (rest := []) rfl (lenOf pd31 rfl) rfl (Nat.le_of_eq rfl) (hb hby at_409) ?_
  intro v14 vm14 T14 h14 L14 W14 q14
  obtain ⟨rfl, eh_⟩ := q14
  subst h14
  refine Go.st (fun _ => XS.ifNo W14.here W14.ex rfl (hb hby at_412) rfl ((if0 _ _).trans (feq ((by decide) : ¬ ((1 : Int32) = (0 : Int32)))).1)) ?_
  refine Go.st (fun _ => XS.aload W14.here W14.ex rfl (hb hby at_415) rfl rfl) ?_
  refine Go.st (fun _ => XS.aload W14.here W14.ex rfl (hb hby at_417) rfl rfl) ?_
  show Go _ _ _ _ (T14.setTop (mkF m_ 419 #[.val (.int c0), .val (.int c1), .val (.int fl), .val (.int x), .val (.int y), .val (.int em), .val (.int wn), .val (.ref ca), .val (.ref q), .val (.ref e), .val (.int (Int32.ofNat bs.length)), .val (.ref j), .val (.ref r), .unset, .unset] [(.ref e), (.ref r)]))
  refine Go.st (fun _ => XS.bipush W14.here W14.ex rfl (hb hby at_419)) ?_
  refine Go.st (fun _ => XS.iload W14.here W14.ex rfl (hb hby at_421) rfl) ?_
  show Go _ _ _ _ (T14.setTop (mkF m_ 423 #[.val (.int c0), .val (.int c1), .val (.int fl), .val (.int x), .val (.int y), .val (.int em), .val (.int wn), .val (.ref ca), .val (.ref q), .val (.ref e), .val (.int (Int32.ofNat bs.length)), .val (.ref j), .val (.ref r), .unset, .unset] [(.int (Int32.ofNat bs.length)), (.int (12 : Int32)), (.ref e), (.ref r)]))
  refine W14.callS (y := Y17) (cx.w 61 rfl) (cx.w 62 rfl) (cx.w 63 rfl) (cx.w 64 rfl) (by decide) (ct_same cx W14.old r e bs (12 : Int32) V_r V_e (by decide)) all0 (by decide) (Wd := 0) (by decide) (k' := 14) (n' := 4243) rfl rfl (by decide) (by decide) (by rw [hml]; rfl) (argsL := [(.ref r), (.ref e), (.int (12 : Int32)), (.int (Int32.ofNat bs.length))]) (rest := []) rfl (lenOf pd31 rfl) rfl (Nat.le_of_eq rfl) (hb hby at_423) ?_
  intro v15 vm15 T15 h15 L15 W15 q15
  obtain ⟨rfl, eh_⟩ := q15
  subst h15
  refine Go.st (fun _ => XS.ifNo W15.here W15.ex rfl (hb hby at_426) rfl ((if0 _ _).trans (feq ((by decide) : ¬ ((1 : Int32) = (0 : Int32)))).1)) ?_
  refine Go.st (fun _ => XS.aload W15.here W15.ex rfl (hb hby at_429) rfl rfl) ?_
  refine Go.st (fun _ => XS.aload W15.here W15.ex rfl (hb hby at_431) rfl rfl) ?_
  show Go _ _ _ _ (T15.setTop (mkF m_ 433 #[.val (.int c0), .val (.int c1), .val (.int fl), .val (.int x), .val (.int y), .val (.int em), .val (.int wn), .val (.ref ca), .val (.ref q), .val (.ref e), .val (.int (Int32.ofNat bs.length)), .val (.ref j), .val (.ref r), .unset, .unset] [(.ref e), (.ref r)]))
  refine Go.st (fun _ => XS.bipush W15.here W15.ex rfl (hb hby at_433)) ?_
  refine Go.st (fun _ => XS.iload W15.here W15.ex rfl (hb hby at_435) rfl) ?_
  show Go _ _ _ _ (T15.setTop (mkF m_ 437 #[.val (.int c0), .val (.int c1), .val (.int fl), .val (.int x), .val (.int y), .val (.int em), .val (.int wn), .val (.ref ca), .val (.ref q), .val (.ref e), .val (.int (Int32.ofNat bs.length)), .val (.ref j), .val (.ref r), .unset, .unset] [(.int (Int32.ofNat bs.length)), (.int (13 : Int32)), (.ref e), (.ref r)]))
  refine W15.callS (y := Y17) (cx.w 61 rfl) (cx.w 62 rfl) (cx.w 63 rfl) (cx.w 64 rfl) (by decide) (ct_same cx W15.old r e bs (13 : Int32) V_r V_e (by decide)) all0 (by decide) (Wd := 0) (by decide) (k' := 14) (n' := 4243) rfl rfl (by decide) (by decide) (by rw [hml]; rfl) (argsL := [(.ref r), (.ref e), (.int (13 : Int32)), (.int (Int32.ofNat bs.length))]) (rest := []) rfl (lenOf pd31 rfl) rfl (Nat.le_of_eq rfl) (hb hby at_437) ?_
  intro v16 vm16 T16 h16 L16 W16 q16
  obtain ⟨rfl, eh_⟩ := q16
  subst h16
  refine Go.st (fun _ => XS.ifNo W16.here W16.ex rfl (hb hby at_440) rfl ((if0 _ _).trans (feq ((by decide) : ¬ ((1 : Int32) = (0 : Int32)))).1)) ?_
  refine Go.st (fun _ => XS.aload W16.here W16.ex rfl (hb hby at_443) rfl rfl) ?_
  refine Go.st (fun _ => XS.aload W16.here W16.ex rfl (hb hby at_445) rfl rfl) ?_
  show Go _ _ _ _ (T16.setTop (mkF m_ 447 #[.val (.int c0), .val (.int c1), .val (.int fl), .val (.int x), .val (.int y), .val (.int em), .val (.int wn), .val (.ref ca), .val (.ref q), .val (.ref e), .val (.int (Int32.ofNat bs.length)), .val (.ref j), .val (.ref r), .unset, .unset] [(.ref e), (.ref r)]))
  refine Go.st (fun _ => XS.bipush W16.here W16.ex rfl (hb hby at_447)) ?_
  refine Go.st (fun _ => XS.iload W16.here W16.ex rfl (hb hby at_449) rfl) ?_
  show Go _ _ _ _ (T16.setTop (mkF m_ 451 #[.val (.int c0), .val (.int c1), .val (.int fl), .val (.int x), .val (.int y), .val (.int em), .val (.int wn), .val (.ref ca), .val (.ref q), .val (.ref e), .val (.int (Int32.ofNat bs.length)), .val (.ref j), .val (.ref r), .unset, .unset] [(.int (Int32.ofNat bs.length)), (.int (14 : Int32)), (.ref e), (.ref r)]))
  refine W16.callS (y := Y17) (cx.w 61 rfl) (cx.w 62 rfl) (cx.w 63 rfl) (cx.w 64 rfl) (by decide) (ct_same cx W16.old r e bs (14 : Int32) V_r V_e (by decide)) all0 (by decide) (Wd := 0) (by decide) (k' := 14) (n' := 4243) rfl rfl (by decide) (by decide) (by rw [hml]; rfl) (argsL := [(.ref r), (.ref e), (.int (14 : Int32)), (.int (Int32.ofNat bs.length))]) (rest := []) rfl (lenOf pd31 rfl) rfl (Nat.le_of_eq rfl) (hb hby at_451) ?_
  intro v17 vm17 T17 h17 L17 W17 q17
  obtain ⟨rfl, eh_⟩ := q17
  subst h17
  refine Go.st (fun _ => XS.ifNo W17.here W17.ex rfl (hb hby at_454) rfl ((if0 _ _).trans (feq ((by decide) : ¬ ((1 : Int32) = (0 : Int32)))).1)) ?_
  refine Go.st (fun _ => XS.aload W17.here W17.ex rfl (hb hby at_457) rfl rfl) ?_
  refine Go.st (fun _ => XS.aload W17.here W17.ex rfl (hb hby at_459) rfl rfl) ?_
  show Go _ _ _ _ (T17.setTop (mkF m_ 461 #[.val (.int c0), .val (.int c1), .val (.int fl), .val (.int x), .val (.int y), .val (.int em), .val (.int wn), .val (.ref ca), .val (.ref q), .val (.ref e), .val (.int (Int32.ofNat bs.length)), .val (.ref j), .val (.ref r), .unset, .unset] [(.ref e), (.ref r)]))
  refine Go.st (fun _ => XS.bipush W17.here W17.ex rfl (hb hby at_461)) ?_
  refine Go.st (fun _ => XS.iload W17.here W17.ex rfl (hb hby at_463) rfl) ?_
  show Go _ _ _ _ (T17.setTop (mkF m_ 465 #[.val (.int c0), .val (.int c1), .val (.int fl), .val (.int x), .val (.int y), .val (.int em), .val (.int wn), .val (.ref ca), .val (.ref q), .val (.ref e), .val (.int (Int32.ofNat bs.length)), .val (.ref j), .val (.ref r), .unset, .unset] [(.int (Int32.ofNat bs.length)), (.int (15 : Int32)), (.ref e), (.ref r)]))
  refine W17.callS (y := Y17) (cx.w 61 rfl) (cx.w 62 rfl) (cx.w 63 rfl) (cx.w 64 rfl) (by decide) (ct_same cx W17.old r e bs (15 : Int32) V_r V_e (by decide)) all0 (by decide) (Wd := 0) (by decide) (k' := 14) (n' := 4243) rfl rfl (by decide) (by decide) (by rw [hml]; rfl) (argsL := [(.ref r), (.ref e), (.int (15 : Int32)), (.int (Int32.ofNat bs.length))]) (rest := []) rfl (lenOf pd31 rfl) rfl (Nat.le_of_eq rfl) (hb hby at_465) ?_
  intro v18 vm18 T18 h18 L18 W18 q18
  obtain ⟨rfl, eh_⟩ := q18
  subst h18
  refine Go.st (fun _ => XS.ifNo W18.here W18.ex rfl (hb hby at_468) rfl ((if0 _ _).trans (feq ((by decide) : ¬ ((1 : Int32) = (0 : Int32)))).1)) ?_
  refine Go.st (fun _ => XS.aload W18.here W18.ex rfl (hb hby at_471) rfl rfl) ?_
  refine Go.st (fun _ => XS.aload W18.here W18.ex rfl (hb hby at_473) rfl rfl) ?_
  show Go _ _ _ _ (T18.setTop (mkF m_ 475 #[.val (.int c0), .val (.int c1), .val (.int fl), .val (.int x), .val (.int y), .val (.int em), .val (.int wn), .val (.ref ca), .val (.ref q), .val (.ref e), .val (.int (Int32.ofNat bs.length)), .val (.ref j), .val (.ref r), .unset, .unset] [(.ref e), (.ref r)]))
  refine Go.st (fun _ => XS.bipush W18.here W18.ex rfl (hb hby at_475)) ?_
  refine Go.st (fun _ => XS.iload W18.here W18.ex rfl (hb hby at_477) rfl) ?_
  show Go _ _ _ _ (T18.setTop (mkF m_ 479 #[.val (.int c0), .val (.int c1), .val (.int fl), .val (.int x), .val (.int y), .val (.int em), .val (.int wn), .val (.ref ca), .val (.ref q), .val (.ref e), .val (.int (Int32.ofNat bs.length)), .val (.ref j), .val (.ref r), .unset, .unset] [(.int (Int32.ofNat bs.length)), (.int (16 : Int32)), (.ref e), (.ref r)]))
  refine W18.callS (y := Y17) (cx.w 61 rfl) (cx.w 62 rfl) (cx.w 63 rfl) (cx.w 64 rfl) (by decide) (ct_same cx W18.old r e bs (16 : Int32) V_r V_e (by decide)) all0 (by decide) (Wd := 0) (by decide) (k' := 14) (n' := 4243) rfl rfl (by decide) (by decide) (by rw [hml]; rfl) (argsL := [(.ref r), (.ref e), (.int (16 : Int32)), (.int (Int32.ofNat bs.length))]) (rest := []) rfl (lenOf pd31 rfl) rfl (Nat.le_of_eq rfl) (hb hby at_479) ?_
  intro v19 vm19 T19 h19 L19 W19 q19
  obtain ⟨rfl, eh_⟩ := q19
  subst h19
  refine Go.st (fun _ => XS.ifNo W19.here W19.ex rfl (hb hby at_482) rfl ((if0 _ _).trans (feq ((by decide) : ¬ ((1 : Int32) = (0 : Int32)))).1)) ?_
  refine Go.st (fun _ => XS.aload W19.here W19.ex rfl (hb hby at_485) rfl rfl) ?_
  refine Go.st (fun _ => XS.aload W19.here W19.ex rfl (hb hby at_487) rfl rfl) ?_
  show Go _ _ _ _ (T19.setTop (mkF m_ 489 #[.val (.int c0), .val (.int c1), .val (.int fl), .val (.int x), .val (.int y), .val (.int em), .val (.int wn), .val (.ref ca), .val (.ref q), .val (.ref e), .val (.int (Int32.ofNat bs.length)), .val (.ref j), .val (.ref r), .unset, .unset] [(.ref e), (.ref r)]))
  refine Go.st (fun _ => XS.bipush W19.here W19.ex rfl (hb hby at_489)) ?_
  refine Go.st (fun _ => XS.iload W19.here W19.ex rfl (hb hby at_491) rfl) ?_
  show Go _ _ _ _ (T19.setTop (mkF m_ 493 #[.val (.int c0), .val (.int c1), .val (.int fl), .val (.int x), .val (.int y), .val (.int em), .val (.int wn), .val (.ref ca), .val (.ref q), .val (.ref e), .val (.int (Int32.ofNat bs.length)), .val (.ref j), .val (.ref r), .unset, .unset] [(.int (Int32.ofNat bs.length)), (.int (17 : Int32)), (.ref e), (.ref r)]))
  refine W19.callS (y := Y17) (cx.w 61 rfl) (cx.w 62 rfl) (cx.w 63 rfl) (cx.w 64 rfl) (by decide) (ct_same cx W19.old r e bs (17 : Int32) V_r V_e (by decide)) all0 (by decide) (Wd := 0) (by decide) (k' := 14) (n' := 4243) rfl rfl (by decide) (by decide) (by rw [hml]; rfl) (argsL := [(.ref r), (.ref e), (.int (17 : Int32)), (.int (Int32.ofNat bs.length))]) (rest := []) rfl (lenOf pd31 rfl) rfl (Nat.le_of_eq rfl) (hb hby at_493) ?_
  intro v20 vm20 T20 h20 L20 W20 q20
  obtain ⟨rfl, eh_⟩ := q20
  subst h20
  refine Go.st (fun _ => XS.ifNo W20.here W20.ex rfl (hb hby at_496) rfl ((if0 _ _).trans (feq ((by decide) : ¬ ((1 : Int32) = (0 : Int32)))).1)) ?_
  refine Go.st (fun _ => XS.aload W20.here W20.ex rfl (hb hby at_499) rfl rfl) ?_
  refine Go.st (fun _ => XS.aload W20.here W20.ex rfl (hb hby at_501) rfl rfl) ?_
  show Go _ _ _ _ (T20.setTop (mkF m_ 503 #[.val (.int c0), .val (.int c1), .val (.int fl), .val (.int x), .val (.int y), .val (.int em), .val (.int wn), .val (.ref ca), .val (.ref q), .val (.ref e), .val (.int (Int32.ofNat bs.length)), .val (.ref j), .val (.ref r), .unset, .unset] [(.ref e), (.ref r)]))
  refine Go.st (fun _ => XS.bipush W20.here W20.ex rfl (hb hby at_503)) ?_
  refine Go.st (fun _ => XS.iload W20.here W20.ex rfl (hb hby at_505) rfl) ?_
  show Go _ _ _ _ (T20.setTop (mkF m_ 507 #[.val (.int c0), .val (.int c1), .val (.int fl), .val (.int x), .val (.int y), .val (.int em), .val (.int wn), .val (.ref ca), .val (.ref q), .val (.ref e), .val (.int (Int32.ofNat bs.length)), .val (.ref j), .val (.ref r), .unset, .unset] [(.int (Int32.ofNat bs.length)), (.int (18 : Int32)), (.ref e), (.ref r)]))
  refine W20.callS (y := Y17) (cx.w 61 rfl) (cx.w 62 rfl) (cx.w 63 rfl) (cx.w 64 rfl) (by decide) (ct_same cx W20.old r e bs (18 : Int32) V_r V_e (by decide)) all0 (by decide) (Wd := 0) (by decide) (k' := 14) (n' := 4243) rfl rfl (by decide) (by decide) (by rw [hml]; rfl) (argsL := [(.ref r), (.ref e), (.int (18 : Int32)), (.int (Int32.ofNat bs.length))]) (rest := []) rfl (lenOf pd31 rfl) rfl (Nat.le_of_eq rfl) (hb hby at_507) ?_
  intro v21 vm21 T21 h21 L21 W21 q21
  obtain ⟨rfl, eh_⟩ := q21
  subst h21
  refine Go.st (fun _ => XS.ifNo W21.here W21.ex rfl (hb hby at_510) rfl ((if0 _ _).trans (feq ((by decide) : ¬ ((1 : Int32) = (0 : Int32)))).1)) ?_
  refine Go.st (fun _ => XS.aload W21.here W21.ex rfl (hb hby at_513) rfl rfl) ?_
  refine Go.st (fun _ => XS.aload W21.here W21.ex rfl (hb hby at_515) rfl rfl) ?_
  show Go _ _ _ _ (T21.setTop (mkF m_ 517 #[.val (.int c0), .val (.int c1), .val (.int fl), .val (.int x), .val (.int y), .val (.int em), .val (.int wn), .val (.ref ca), .val (.ref q), .val (.ref e), .val (.int (Int32.ofNat bs.length)), .val (.ref j), .val (.ref r), .unset, .unset] [(.ref e), (.ref r)]))
  refine Go.st (fun _ => XS.bipush W21.here W21.ex rfl (hb hby at_517)) ?_
  refine Go.st (fun _ => XS.iload W21.here W21.ex rfl (hb hby at_519) rfl) ?_
  show Go _ _ _ _ (T21.setTop (mkF m_ 521 #[.val (.int c0), .val (.int c1), .val (.int fl), .val (.int x), .val (.int y), .val (.int em), .val (.int wn), .val (.ref ca), .val (.ref q), .val (.ref e), .val (.int (Int32.ofNat bs.length)), .val (.ref j), .val (.ref r), .unset, .unset] [(.int (Int32.ofNat bs.length)), (.int (19 : Int32)), (.ref e), (.ref r)]))
  refine W21.callS (y := Y17) (cx.w 61 rfl) (cx.w 62 rfl) (cx.w 63 rfl) (cx.w 64 rfl) (by decide) (ct_same cx W21.old r e bs (19 : Int32) V_r V_e (by decide)) all0 (by decide) (Wd := 0) (by decide) (k' := 14) (n' := 4243) rfl rfl (by decide) (by decide) (by rw [hml]; rfl) (argsL := [(.ref r), (.ref e), (.int (19 : Int32)), (.int (Int32.ofNat bs.length))]) (rest := []) rfl (lenOf pd31 rfl) rfl (Nat.le_of_eq rfl) (hb hby at_521) ?_
  intro v22 vm22 T22 h22 L22 W22 q22
  obtain ⟨rfl, eh_⟩ := q22
  subst h22
  refine Go.st (fun _ => XS.ifNo W22.here W22.ex rfl (hb hby at_524) rfl ((if0 _ _).trans (feq ((by decide) : ¬ ((1 : Int32) = (0 : Int32)))).1)) ?_
  refine Go.st (fun _ => XS.aload W22.here W22.ex rfl (hb hby at_527) rfl rfl) ?_
  refine Go.st (fun _ => XS.aload W22.here W22.ex rfl (hb hby at_529) rfl rfl) ?_
  show Go _ _ _ _ (T22.setTop (mkF m_ 531 #[.val (.int c0), .val (.int c1), .val (.int fl), .val (.int x), .val (.int y), .val (.int em), .val (.int wn), .val (.ref ca), .val (.ref q), .val (.ref e), .val (.int (Int32.ofNat bs.length)), .val (.ref j), .val (.ref r), .unset, .unset] [(.ref e), (.ref r)]))
  refine Go.st (fun _ => XS.bipush W22.here W22.ex rfl (hb hby at_531)) ?_
  refine Go.st (fun _ => XS.iload W22.here W22.ex rfl (hb hby at_533) rfl) ?_
  show Go _ _ _ _ (T22.setTop (mkF m_ 535 #[.val (.int c0), .val (.int c1), .val (.int fl), .val (.int x), .val (.int y), .val (.int em), .val (.int wn), .val (.ref ca), .val (.ref q), .val (.ref e), .val (.int (Int32.ofNat bs.length)), .val (.ref j), .val (.ref r), .unset, .unset] [(.int (Int32.ofNat bs.length)), (.int (20 : Int32)), (.ref e), (.ref r)]))
  refine W22.callS (y := Y17) (cx.w 61 rfl) (cx.w 62 rfl) (cx.w 63 rfl) (cx.w 64 rfl) (by decide) (ct_same cx W22.old r e bs (20 : Int32) V_r V_e (by decide)) all0 (by decide) (Wd := 0) (by decide) (k' := 14) (n' := 4243) rfl rfl (by decide) (by decide) (by rw [hml]; rfl) (argsL := [(.ref r), (.ref e), (.int (20 : Int32)), (.int (Int32.ofNat bs.length))]) (rest := []) rfl (lenOf pd31 rfl) rfl (Nat.le_of_eq rfl) (hb hby at_535) ?_
  intro v23 vm23 T23 h23 L23 W23 q23
  obtain ⟨rfl, eh_⟩ := q23
  subst h23
  refine Go.st (fun _ => XS.ifNo W23.here W23.ex rfl (hb hby at_538) rfl ((if0 _ _).trans (feq ((by decide) : ¬ ((1 : Int32) = (0 : Int32)))).1)) ?_
  refine Go.st (fun _ => XS.aload W23.here W23.ex rfl (hb hby at_541) rfl rfl) ?_
  refine Go.st (fun _ => XS.aload W23.here W23.ex rfl (hb hby at_543) rfl rfl) ?_
  show Go _ _ _ _ (T23.setTop (mkF m_ 545 #[.val (.int c0), .val (.int c1), .val (.int fl), .val (.int x), .val (.int y), .val (.int em), .val (.int wn), .val (.ref ca), .val (.ref q), .val (.ref e), .val (.int (Int32.ofNat bs.length)), .val (.ref j), .val (.ref r), .unset, .unset] [(.ref e), (.ref r)]))
  refine Go.st (fun _ => XS.bipush W23.here W23.ex rfl (hb hby at_545)) ?_
  refine Go.st (fun _ => XS.iload W23.here W23.ex rfl (hb hby at_547) rfl) ?_
  show Go _ _ _ _ (T23.setTop (mkF m_ 549 #[.val (.int c0), .val (.int c1), .val (.int fl), .val (.int x), .val (.int y), .val (.int em), .val (.int wn), .val (.ref ca), .val (.ref q), .val (.ref e), .val (.int (Int32.ofNat bs.length)), .val (.ref j), .val (.ref r), .unset, .unset] [(.int (Int32.ofNat bs.length)), (.int (21 : Int32)), (.ref e), (.ref r)]))
  refine W23.callS (y := Y17) (cx.w 61 rfl) (cx.w 62 rfl) (cx.w 63 rfl) (cx.w 64 rfl) (by decide) (ct_same cx W23.old r e bs (21 : Int32) V_r V_e (by decide)) all0 (by decide) (Wd := 0) (by decide) (k' := 14) (n' := 4243) rfl rfl (by decide) (by decide) (by rw [hml]; rfl) (argsL := [(.ref r), (.ref e), (.int (21 : Int32)), (.int (Int32.ofNat bs.length))]) (rest := []) rfl (lenOf pd31 rfl) rfl (Nat.le_of_eq rfl) (hb hby at_549) ?_
  intro v24 vm24 T24 h24 L24 W24 q24
  obtain ⟨rfl, eh_⟩ := q24
  subst h24
  refine Go.st (fun _ => XS.ifNo W24.here W24.ex rfl (hb hby at_552) rfl ((if0 _ _).trans (feq ((by decide) : ¬ ((1 : Int32) = (0 : Int32)))).1)) ?_
  refine Go.st (fun _ => XS.aload W24.here W24.ex rfl (hb hby at_555) rfl rfl) ?_
  refine Go.st (fun _ => XS.aload W24.here W24.ex rfl (hb hby at_557) rfl rfl) ?_
  show Go _ _ _ _ (T24.setTop (mkF m_ 559 #[.val (.int c0), .val (.int c1), .val (.int fl), .val (.int x), .val (.int y), .val (.int em), .val (.int wn), .val (.ref ca), .val (.ref q), .val (.ref e), .val (.int (Int32.ofNat bs.length)), .val (.ref j), .val (.ref r), .unset, .unset] [(.ref e), (.ref r)]))
  refine Go.st (fun _ => XS.bipush W24.here W24.ex rfl (hb hby at_559)) ?_
  refine Go.st (fun _ => XS.iload W24.here W24.ex rfl (hb hby at_561) rfl) ?_
  show Go _ _ _ _ (T24.setTop (mkF m_ 563 #[.val (.int c0), .val (.int c1), .val (.int fl), .val (.int x), .val (.int y), .val (.int em), .val (.int wn), .val (.ref ca), .val (.ref q), .val (.ref e), .val (.int (Int32.ofNat bs.length)), .val (.ref j), .val (.ref r), .unset, .unset] [(.int (Int32.ofNat bs.length)), (.int (22 : Int32)), (.ref e), (.ref r)]))
  refine W24.callS (y := Y17) (cx.w 61 rfl) (cx.w 62 rfl) (cx.w 63 rfl) (cx.w 64 rfl) (by decide) (ct_same cx W24.old r e bs (22 : Int32) V_r V_e (by decide)) all0 (by decide) (Wd := 0) (by decide) (k' := 14) (n' := 4243) rfl rfl (by decide) (by decide) (by rw [hml]; rfl) (argsL := [(.ref r), (.ref e), (.int (22 : Int32)), (.int (Int32.ofNat bs.length))]) (rest := []) rfl (lenOf pd31 rfl) rfl (Nat.le_of_eq rfl) (hb hby at_563) ?_
  intro v25 vm25 T25 h25 L25 W25 q25
  obtain ⟨rfl, eh_⟩ := q25
  subst h25
  refine Go.st (fun _ => XS.ifNo W25.here W25.ex rfl (hb hby at_566) rfl ((if0 _ _).trans (feq ((by decide) : ¬ ((1 : Int32) = (0 : Int32)))).1)) ?_
  refine Go.st (fun _ => XS.aload W25.here W25.ex rfl (hb hby at_569) rfl rfl) ?_
  refine Go.st (fun _ => XS.aload W25.here W25.ex rfl (hb hby at_571) rfl rfl) ?_
  show Go _ _ _ _ (T25.setTop (mkF m_ 573 #[.val (.int c0), .val (.int c1), .val (.int fl), .val (.int x), .val (.int y), .val (.int em), .val (.int wn), .val (.ref ca), .val (.ref q), .val (.ref e), .val (.int (Int32.ofNat bs.length)), .val (.ref j), .val (.ref r), .unset, .unset] [(.ref e), (.ref r)]))
  refine Go.st (fun _ => XS.bipush W25.here W25.ex rfl (hb hby at_573)) ?_
  refine Go.st (fun _ => XS.iload W25.here W25.ex rfl (hb hby at_575) rfl) ?_
  show Go _ _ _ _ (T25.setTop (mkF m_ 577 #[.val (.int c0), .val (.int c1), .val (.int fl), .val (.int x), .val (.int y), .val (.int em), .val (.int wn), .val (.ref ca), .val (.ref q), .val (.ref e), .val (.int (Int32.ofNat bs.length)), .val (.ref j), .val (.ref r), .unset, .unset] [(.int (Int32.ofNat bs.length)), (.int (23 : Int32)), (.ref e), (.ref r)]))
  refine W25.callS (y := Y17) (cx.w 61 rfl) (cx.w 62 rfl) (cx.w 63 rfl) (cx.w 64 rfl) (by decide) (ct_same cx W25.old r e bs (23 : Int32) V_r V_e (by decide)) all0 (by decide) (Wd := 0) (by decide) (k' := 14) (n' := 4243) rfl rfl (by decide) (by decide) (by rw [hml]; rfl) (argsL := [(.ref r), (.ref e), (.int (23 : Int32)), (.int (Int32.ofNat bs.length))]) (rest := []) rfl (lenOf pd31 rfl) rfl (Nat.le_of_eq rfl) (hb hby at_577) ?_
  intro v26 vm26 T26 h26 L26 W26 q26
  obtain ⟨rfl, eh_⟩ := q26
  subst h26
  refine Go.st (fun _ => XS.ifNo W26.here W26.ex rfl (hb hby at_580) rfl ((if0 _ _).trans (feq ((by decide) : ¬ ((1 : Int32) = (0 : Int32)))).1)) ?_
  refine Go.st (fun _ => XS.iconst W26.here W26.ex rfl (hb hby at_583)) ?_
  refine Go.st (fun _ => XS.goto W26.here W26.ex rfl (pc0 := 584) (pc' := 588) rfl (hb hby at_584) (by decide) (by decide)) ?_
  show Go _ _ _ _ (T26.setTop (mkF m_ 588 #[.val (.int c0), .val (.int c1), .val (.int fl), .val (.int x), .val (.int y), .val (.int em), .val (.int wn), .val (.ref ca), .val (.ref q), .val (.ref e), .val (.int (Int32.ofNat bs.length)), .val (.ref j), .val (.ref r), .unset, .unset] [(.int (1 : Int32))]))
  refine Go.st (fun _ => XS.istore W26.here W26.ex rfl (hb hby at_588) rfl (l' := #[.val (.int c0), .val (.int c1), .val (.int fl), .val (.int x), .val (.int y), .val (.int em), .val (.int wn), .val (.ref ca), .val (.ref q), .val (.ref e), .val (.int (Int32.ofNat bs.length)), .val (.ref j), .val (.ref r), .val (.int (1 : Int32)), .unset]) rfl) ?_
  refine Go.st (fun _ => XS.iload W26.here W26.ex rfl (hb hby at_590) rfl) ?_
  refine Go.st (fun _ => XS.ifYes W26.here W26.ex rfl (pc0 := 592) (pc' := 597) rfl (hb hby at_592) rfl ((if0 _ _).trans (feq ((by decide) : ¬ ((1 : Int32) = (0 : Int32)))).2) (by decide) (by decide)) ?_
  show Go _ _ _ _ (T26.setTop (mkF m_ 597 #[.val (.int c0), .val (.int c1), .val (.int fl), .val (.int x), .val (.int y), .val (.int em), .val (.int wn), .val (.ref ca), .val (.ref q), .val (.ref e), .val (.int (Int32.ofNat bs.length)), .val (.ref j), .val (.ref r), .val (.int (1 : Int32)), .unset] []))
  refine Go.st (fun _ => XS.iload W26.here W26.ex rfl (hb hby at_597) rfl) ?_
  show Go _ _ _ _ (T26.setTop (mkF m_ 599 #[.val (.int c0), .val (.int c1), .val (.int fl), .val (.int x), .val (.int y), .val (.int em), .val (.int wn), .val (.ref ca), .val (.ref q), .val (.ref e), .val (.int (Int32.ofNat bs.length)), .val (.ref j), .val (.ref r), .val (.int (1 : Int32)), .unset] [(.int (Int32.ofNat bs.length))]))
  by_cases hpos : (0 : Int32) < (Int32.ofNat bs.length)
  · refine Go.st (fun _ => XS.ifNo W26.here W26.ex rfl (hb hby at_599) rfl ((if0 _ _).trans (tlt (hpos : (0 : Int32) < (Int32.ofNat bs.length))).2.2.2)) ?_
    show Go _ _ _ _ (T26.setTop (mkF m_ 602 #[.val (.int c0), .val (.int c1), .val (.int fl), .val (.int x), .val (.int y), .val (.int em), .val (.int wn), .val (.ref ca), .val (.ref q), .val (.ref e), .val (.int (Int32.ofNat bs.length)), .val (.ref j), .val (.ref r), .val (.int (1 : Int32)), .unset] []))
    have h91 := head91 hd hpos
    refine Go.st (fun _ => XS.aload W26.here W26.ex rfl (hb hby at_602) rfl rfl) ?_
    refine Go.st (fun _ => XS.iconst W26.here W26.ex rfl (hb hby at_604)) ?_
    show Go _ _ _ _ (T26.setTop (mkF m_ 605 #[.val (.int c0), .val (.int c1), .val (.int fl), .val (.int x), .val (.int y), .val (.int em), .val (.int wn), .val (.ref ca), .val (.ref q), .val (.ref e), .val (.int (Int32.ofNat bs.length)), .val (.ref j), .val (.ref r), .val (.int (1 : Int32)), .unset] [(.int (0 : Int32)), (.ref r)]))
    refine Go.st (fun _ => XS.iconst W26.here W26.ex rfl (hb hby at_605)) ?_
    show Go _ _ _ _ (T26.setTop (mkF m_ 606 #[.val (.int c0), .val (.int c1), .val (.int fl), .val (.int x), .val (.int y), .val (.int em), .val (.int wn), .val (.ref ca), .val (.ref q), .val (.ref e), .val (.int (Int32.ofNat bs.length)), .val (.ref j), .val (.ref r), .val (.int (1 : Int32)), .unset] [(.int (0 : Int32)), (.int (0 : Int32)), (.ref r)]))
    refine W26.stB V_r (j := (0 : Int32)) (x := (0 : Int32)) ⟨by decide, hpos⟩ 0 rfl h91.2 (List.mem_of_getElem? (i := 0) rfl) g_r (hb hby at_606) ?_
    intro T27 h27 L27 W27 w27 V_new
    replace J := J.wr w27 ne_j_r ne_b_r
    replace E_j := E_j.wr w27
    replace V_e := V_e.other w27 ne_e_r
    refine Go.st (fun _ => XS.aload W27.here W27.ex rfl (hb hby at_607) rfl rfl) ?_
    show Go _ _ _ _ (T27.setTop (mkF m_ 609 #[.val (.int c0), .val (.int c1), .val (.int fl), .val (.int x), .val (.int y), .val (.int em), .val (.int wn), .val (.ref ca), .val (.ref q), .val (.ref e), .val (.int (Int32.ofNat bs.length)), .val (.ref j), .val (.ref r), .val (.int (1 : Int32)), .unset] [(.ref j)]))
    refine W27.callV (y := Y1) (z := Y1) (cx.w 42 rfl) (cx.w 43 rfl) (cx.w 45 rfl) (cx.w 44 rfl) (cx.w 33 rfl) (cx.w 46 rfl) (W27.nf (cx.w 45 rfl)) (by decide) E_j (ct_bytes cx W27.old j b bs f J hbl) all0 (by decide) (Wd := 0) (by decide) (k' := 15) (n' := 4267) rfl rfl (by decide) (by decide) (by rw [hml]; rfl) (a := j) (argsL := []) (rest := []) rfl (lenOf pd30 rfl) rfl (Nat.le_of_eq rfl) (hb hby at_609) ?_
    intro v28 vm28 T28 h28 L28 W28 q28
    obtain ⟨r2, kr2, rfl, hz_r2, g_r2, K2, V_r2, sf_r2⟩ := q28
    replace J := J.keep K2 nin0 nin0
    replace E_j := E_j.keep K2
    replace V_e := V_e.keep K2 nin0
    refine Go.st (fun _ => XS.astore W28.here W28.ex rfl (hb hby at_612) rfl rfl (l' := #[.val (.int c0), .val (.int c1), .val (.int fl), .val (.int x), .val (.int y), .val (.int em), .val (.int wn), .val (.ref ca), .val (.ref q), .val (.ref e), .val (.int (Int32.ofNat bs.length)), .val (.ref j), .val (.ref r), .val (.int (1 : Int32)), .val (.ref r2)]) rfl) ?_
    refine Go.st (fun _ => XS.aload W28.here W28.ex rfl (hb hby at_614) rfl rfl) ?_
    show Go _ _ _ _ (T28.setTop (mkF m_ 616 #[.val (.int c0), .val (.int c1), .val (.int fl), .val (.int x), .val (.int y), .val (.int em), .val (.int wn), .val (.ref ca), .val (.ref q), .val (.ref e), .val (.int (Int32.ofNat bs.length)), .val (.ref j), .val (.ref r), .val (.int (1 : Int32)), .val (.ref r2)] [(.ref r2)]))
    refine W28.alen V_r2 (hb hby at_616) ?_
    refine Go.st (fun _ => XS.iload W28.here W28.ex rfl (hb hby at_617) rfl) ?_
    refine Go.st (fun _ => XS.icmpNo W28.here W28.ex rfl (hb hby at_619) rfl (teq (rfl : (Int32.ofNat bs.length) = (Int32.ofNat bs.length))).2) ?_
    show Go _ _ _ _ (T28.setTop (mkF m_ 622 #[.val (.int c0), .val (.int c1), .val (.int fl), .val (.int x), .val (.int y), .val (.int em), .val (.int wn), .val (.ref ca), .val (.ref q), .val (.ref e), .val (.int (Int32.ofNat bs.length)), .val (.ref j), .val (.ref r), .val (.int (1 : Int32)), .val (.ref r2)] []))
    refine Go.st (fun _ => XS.aload W28.here W28.ex rfl (hb hby at_622) rfl rfl) ?_
    refine Go.st (fun _ => XS.iconst W28.here W28.ex rfl (hb hby at_624)) ?_
    show Go _ _ _ _ (T28.setTop (mkF m_ 625 #[.val (.int c0), .val (.int c1), .val (.int fl), .val (.int x), .val (.int y), .val (.int em), .val (.int wn), .val (.ref ca), .val (.ref q), .val (.ref e), .val (.int (Int32.ofNat bs.length)), .val (.ref j), .val (.ref r), .val (.int (1 : Int32)), .val (.ref r2)] [(.int (0 : Int32)), (.ref r2)]))
    refine W28.ldB V_r2 (j := (0 : Int32)) (v := .int (bs.getD (0 : Int32).toNatClampNeg 0)) ⟨by decide, hpos⟩ (map_getD _ _) (hb hby at_625) ?_
    refine Go.st (fun _ => XS.bipush W28.here W28.ex rfl (hb hby at_626)) ?_
    refine Go.st (fun _ => XS.icmpYes W28.here W28.ex rfl (pc0 := 628) (pc' := 633) rfl (hb hby at_628) rfl (teq (h91.1 : (bs.getD (0 : Int32).toNatClampNeg 0) = (91 : Int32))).1 (by decide) (by decide)) ?_
    show Go _ _ _ _ (T28.setTop (mkF m_ 633 #[.val (.int c0), .val (.int c1), .val (.int fl), .val (.int x), .val (.int y), .val (.int em), .val (.int wn), .val (.ref ca), .val (.ref q), .val (.ref e), .val (.int (Int32.ofNat bs.length)), .val (.ref j), .val (.ref r), .val (.int (1 : Int32)), .val (.ref r2)] []))
    refine Go.st (fun _ => XS.iconst W28.here W28.ex rfl (hb hby at_633)) ?_
    show Go _ _ _ _ (T28.setTop (mkF m_ 634 #[.val (.int c0), .val (.int c1), .val (.int fl), .val (.int x), .val (.int y), .val (.int em), .val (.int wn), .val (.ref ca), .val (.ref q), .val (.ref e), .val (.int (Int32.ofNat bs.length)), .val (.ref j), .val (.ref r), .val (.int (1 : Int32)), .val (.ref r2)] [(.int (1 : Int32))]))
    exact W28.retN hret (by simp) (hb hby at_634) (by decide) (by decide) fun vr_ cr_ => rfl
  · refine Go.st (fun _ => XS.ifYes W26.here W26.ex rfl (pc0 := 599) (pc' := 633) rfl (hb hby at_599) rfl ((if0 _ _).trans (flt (hpos : ¬ ((0 : Int32) < (Int32.ofNat bs.length)))).2.2.2) (by decide) (by decide)) ?_
    refine Go.st (fun _ => XS.iconst W26.here W26.ex rfl (hb hby at_633)) ?_
    show Go _ _ _ _ (T26.setTop (mkF m_ 634 #[.val (.int c0), .val (.int c1), .val (.int fl), .val (.int x), .val (.int y), .val (.int em), .val (.int wn), .val (.ref ca), .val (.ref q), .val (.ref e), .val (.int (Int32.ofNat bs.length)), .val (.ref j), .val (.ref r), .val (.int (1 : Int32)), .unset] [(.int (1 : Int32))]))
    exact W26.retN hret (by simp) (hb hby at_634) (by decide) (by decide) fun vr_ cr_ => rfl
theorem law_s {l : Launch} {Z a0 n0 g1 gf hxa khx} (cx : Ctx Z a0 n0 g1 gf hxa khx) {p_ : Program} {e_ : Env} {s_ : State} {m_ : MethodId} {ar_ : Array Value} {bl_ : List Frame} {mt_ : Method} {c_ : Code} {vm0 : Vm} {T0 : State} {h : Heap} {L0 : List Loc} (c0 c1 fl x y em wn : Int32) (ca q t e j b : Addr) {kb ke : ClassId} (W0 : Wk p_ l e_ room_1 s_ m_ ar_ bl_ mt_ c_ Z a0 consts_1 n0 "com/example/dijtabla/dijtabla/JsonTextBytesPinLaw" vm0 T0 h L0 7 4143 [e, j, b]) (hby : c_.code = code) (hml : c_.maxLocals = 15) (hret : mt_.sig.returnType = (some .boolean)) (hnm : mt_.name = "law") (J : JT Z h j b kb [] 1) (S_q : Str2 Z h q t x y) (V_e : Arv Z h e ke .byte 32 ((([] : List Int32)).map Value.int) (.int 0)) (g_j : n0 ≤ j) (g_b : n0 ≤ b) (g_e : n0 ≤ e) (ne_j_b : j ≠ b) (ne_e_b : e ≠ b) (ne_t_b : t ≠ b) (ne_q_b : q ≠ b) (ne_t_e : t ≠ e) (ne_q_e : q ≠ e) (hX : R16 x) (hY : R16 y) :
    Go p_ e_ bl_ (Pst Z consts_1 n0 s_ room_1.cells room_1.slots (fun v _ _ => v = some (.int 1))) (T0.setTop (mkF m_ 84 #[.val (.int c0), .val (.int c1), .val (.int fl), .val (.int x), .val (.int y), .val (.int em), .val (.int wn), .val (.ref ca), .val (.ref q), .val (.ref e), .val (.int (0 : Int32)), .val (.ref j), .unset, .unset, .unset] [])) := by
  have E_j := J.E
  have ne_q_j : q ≠ j := (Ne.symm (Ne.symm (S_q.neC E_j (by decide))))
  have ne_t_j : t ≠ j := (Ne.symm (Ne.symm (S_q.neT E_j (cx.w 32 rfl))))
  have ne_e_j : e ≠ j := (Ne.symm (Exa.neArv E_j V_e (cx.w 32 rfl)))
  refine Go.st (fun _ => XS.iload W0.here W0.ex rfl (hb hby at_84) rfl) ?_
  show Go _ _ _ _ (T0.setTop (mkF m_ 86 #[.val (.int c0), .val (.int c1), .val (.int fl), .val (.int x), .val (.int y), .val (.int em), .val (.int wn), .val (.ref ca), .val (.ref q), .val (.ref e), .val (.int (0 : Int32)), .val (.ref j), .unset, .unset, .unset] [(.int em)]))
  by_cases zem : em = (0 : Int32)
  · refine Go.st (fun _ => XS.ifNo W0.here W0.ex rfl (hb hby at_86) rfl ((if0 _ _).trans (teq (zem : em = (0 : Int32))).2)) ?_
    refine Go.st (fun _ => XS.aload W0.here W0.ex rfl (hb hby at_89) rfl rfl) ?_
    show Go _ _ _ _ (T0.setTop (mkF m_ 91 #[.val (.int c0), .val (.int c1), .val (.int fl), .val (.int x), .val (.int y), .val (.int em), .val (.int wn), .val (.ref ca), .val (.ref q), .val (.ref e), .val (.int (0 : Int32)), .val (.ref j), .unset, .unset, .unset] [(.ref j)]))
    refine W0.callV (y := Y11) (z := Y11) (cx.w 84 rfl) (cx.w 85 rfl) (cx.w 87 rfl) (cx.w 86 rfl) (cx.w 33 rfl) (cx.w 88 rfl) (W0.nf (cx.w 87 rfl)) (by decide) E_j (ct_start cx W0.old j b [] J g_j g_b (by decide)) (allS (List.mem_of_getElem? (i := 1) rfl) (allS (List.mem_of_getElem? (i := 2) rfl) all0)) (by decide) (Wd := 0) (by decide) (k' := 7) (n' := 4143) rfl rfl (by decide) (by decide) (by rw [hml]; rfl) (a := j) (argsL := []) (rest := []) rfl (lenOf pd29 rfl) rfl (Nat.le_of_eq rfl) (hb hby at_91) ?_
    intro v1 vm1 T1 h1 L1 W1 q1
    obtain ⟨rfl, Ka, J1⟩ := q1
    replace E_j := E_j.keep Ka
    replace S_q := S_q.keep Ka (ninS ne_q_j (ninS ne_q_b nin0)) (ninS ne_t_j (ninS ne_t_b nin0))
    replace V_e := V_e.keep Ka (ninS ne_e_j (ninS ne_e_b nin0))
    refine Go.st (fun _ => XS.pop W1.here W1.ex rfl (hb hby at_94) rfl rfl) ?_
    refine Go.st (fun _ => XS.aload W1.here W1.ex rfl (hb hby at_95) rfl rfl) ?_
    refine Go.st (fun _ => XS.aload W1.here W1.ex rfl (hb hby at_97) rfl rfl) ?_
    show Go _ _ _ _ (T1.setTop (mkF m_ 99 #[.val (.int c0), .val (.int c1), .val (.int fl), .val (.int x), .val (.int y), .val (.int em), .val (.int wn), .val (.ref ca), .val (.ref q), .val (.ref e), .val (.int (0 : Int32)), .val (.ref j), .unset, .unset, .unset] [(.ref q), (.ref j)]))
    refine W1.callV (y := Y12) (z := Y12) (cx.w 105 rfl) (cx.w 106 rfl) (cx.w 108 rfl) (cx.w 107 rfl) (cx.w 33 rfl) (cx.w 109 rfl) (W1.nf (cx.w 108 rfl)) (by decide) E_j (ct_str cx W1.old j b ([] ++ [(91 : Int32)]) q t x y J1 g_j g_b (by decide) (by decide) S_q ne_t_b ne_q_b hX hY) (allS (List.mem_of_getElem? (i := 1) rfl) (allS (List.mem_of_getElem? (i := 2) rfl) all0)) (by decide) (Wd := 0) (by decide) (k' := 11) (n' := 4199) rfl rfl (by decide) (by decide) (by rw [hml]; rfl) (a := j) (argsL := [(.ref q)]) (rest := []) rfl (lenOf pd20 rfl) rfl (Nat.le_of_eq rfl) (hb hby at_99) ?_
    intro v2 vm2 T2 h2 L2 W2 q2
    obtain ⟨rfl, Kb, J2⟩ := q2
    replace E_j := E_j.keep Kb
    replace S_q := S_q.keep Kb (ninS ne_q_j (ninS ne_q_b nin0)) (ninS ne_t_j (ninS ne_t_b nin0))
    replace V_e := V_e.keep Kb (ninS ne_e_j (ninS ne_e_b nin0))
    refine Go.st (fun _ => XS.pop W2.here W2.ex rfl (hb hby at_102) rfl rfl) ?_
    refine Go.st (fun _ => XS.iload W2.here W2.ex rfl (hb hby at_103) rfl) ?_
    show Go _ _ _ _ (T2.setTop (mkF m_ 105 #[.val (.int c0), .val (.int c1), .val (.int fl), .val (.int x), .val (.int y), .val (.int em), .val (.int wn), .val (.ref ca), .val (.ref q), .val (.ref e), .val (.int (0 : Int32)), .val (.ref j), .unset, .unset, .unset] [(.int wn)]))
    have hB : ([] ++ [(91 : Int32)] ++ [34] ++ Ec x ++ Ec y ++ [34]).length ≤ 15 := by have e1 := Ec_len x; have e2 := Ec_len y; simp only [List.length_append, List.length_cons, List.length_nil]; omega
    have hE1 : ([(91 : Int32), (34 : Int32)] ++ Ec x).length ≤ 8 := by have e1 := Ec_len x; have e2 := Ec_len y; simp only [List.length_append, List.length_cons, List.length_nil]; omega
    have hE2 : ([(91 : Int32), (34 : Int32)] ++ Ec x ++ Ec y).length ≤ 14 := by have e1 := Ec_len x; have e2 := Ec_len y; simp only [List.length_append, List.length_cons, List.length_nil]; omega
    by_cases zwn : wn = (0 : Int32)
    · refine Go.st (fun _ => XS.ifYes W2.here W2.ex rfl (pc0 := 105) (pc' := 114) rfl (hb hby at_105) rfl ((if0 _ _).trans (teq (zwn : wn = (0 : Int32))).1) (by decide) (by decide)) ?_
      refine Go.st (fun _ => XS.aload W2.here W2.ex rfl (hb hby at_114) rfl rfl) ?_
      show Go _ _ _ _ (T2.setTop (mkF m_ 116 #[.val (.int c0), .val (.int c1), .val (.int fl), .val (.int x), .val (.int y), .val (.int em), .val (.int wn), .val (.ref ca), .val (.ref q), .val (.ref e), .val (.int (0 : Int32)), .val (.ref j), .unset, .unset, .unset] [(.ref j)]))
      refine W2.callV (y := Y3) (z := Y3) (cx.w 177 rfl) (cx.w 178 rfl) (cx.w 180 rfl) (cx.w 179 rfl) (cx.w 33 rfl) (cx.w 181 rfl) (W2.nf (cx.w 180 rfl)) (by decide) E_j (ct_end cx W2.old j b ([] ++ [(91 : Int32)] ++ [34] ++ Ec x ++ Ec y ++ [34]) J2 g_j g_b (by omega)) (allS (List.mem_of_getElem? (i := 1) rfl) (allS (List.mem_of_getElem? (i := 2) rfl) all0)) (by decide) (Wd := 0) (by decide) (k' := 11) (n' := 4199) rfl rfl (by decide) (by decide) (by rw [hml]; rfl) (a := j) (argsL := []) (rest := []) rfl (lenOf pd29 rfl) rfl (Nat.le_of_eq rfl) (hb hby at_116) ?_
      intro v3 vm3 T3 h3 L3 W3 q3
      obtain ⟨rfl, Kd, J4⟩ := q3
      replace E_j := E_j.keep Kd
      replace S_q := S_q.keep Kd (ninS ne_q_j (ninS ne_q_b nin0)) (ninS ne_t_j (ninS ne_t_b nin0))
      replace V_e := V_e.keep Kd (ninS ne_e_j (ninS ne_e_b nin0))
      refine Go.st (fun _ => XS.pop W3.here W3.ex rfl (hb hby at_119) rfl rfl) ?_
      refine Go.st (fun _ => XS.aload W3.here W3.ex rfl (hb hby at_120) rfl rfl) ?_
      refine Go.st (fun _ => XS.iload W3.here W3.ex rfl (hb hby at_122) rfl) ?_
      show Go _ _ _ _ (T3.setTop (mkF m_ 124 #[.val (.int c0), .val (.int c1), .val (.int fl), .val (.int x), .val (.int y), .val (.int em), .val (.int wn), .val (.ref ca), .val (.ref q), .val (.ref e), .val (.int (0 : Int32)), .val (.ref j), .unset, .unset, .unset] [(.int (0 : Int32)), (.ref e)]))
      refine Go.st (fun _ => XS.iinc W3.here W3.ex rfl (hb hby at_124) rfl (l' := #[.val (.int c0), .val (.int c1), .val (.int fl), .val (.int x), .val (.int y), .val (.int em), .val (.int wn), .val (.ref ca), .val (.ref q), .val (.ref e), .val (.int (1 : Int32)), .val (.ref j), .unset, .unset, .unset]) rfl) ?_
      refine Go.st (fun _ => XS.bipush W3.here W3.ex rfl (hb hby at_127)) ?_
      show Go _ _ _ _ (T3.setTop (mkF m_ 129 #[.val (.int c0), .val (.int c1), .val (.int fl), .val (.int x), .val (.int y), .val (.int em), .val (.int wn), .val (.ref ca), .val (.ref q), .val (.ref e), .val (.int (1 : Int32)), .val (.ref j), .unset, .unset, .unset] [(.int (91 : Int32)), (.int (0 : Int32)), (.ref e)]))
      refine W3.stA V_e (x := (91 : Int32)) (n1 := 0) rfl (rmE0 (by decide)) (List.mem_of_getElem? (i := 0) rfl) g_e (hb hby at_129) ?_
      intro T4 h4 L4 sl4 vv4 W4 w4 V_new
      replace E_j := E_j.wr w4
      replace S_q := S_q.wr w4 ne_q_e ne_t_e
      replace J4 := J4.wr w4 (Ne.symm ne_e_j) (Ne.symm ne_e_b)
      replace V_e : Arv Z h4 e ke .byte (32 : Int32) (([(91 : Int32)]).map Value.int) (.int 0) := V_new
      clear V_new
      refine Go.st (fun _ => XS.aload W4.here W4.ex rfl (hb hby at_130) rfl rfl) ?_
      refine Go.st (fun _ => XS.iload W4.here W4.ex rfl (hb hby at_132) rfl) ?_
      refine Go.st (fun _ => XS.iinc W4.here W4.ex rfl (hb hby at_134) rfl (l' := #[.val (.int c0), .val (.int c1), .val (.int fl), .val (.int x), .val (.int y), .val (.int em), .val (.int wn), .val (.ref ca), .val (.ref q), .val (.ref e), .val (.int (2 : Int32)), .val (.ref j), .unset, .unset, .unset]) rfl) ?_
      show Go _ _ _ _ (T4.setTop (mkF m_ 137 #[.val (.int c0), .val (.int c1), .val (.int fl), .val (.int x), .val (.int y), .val (.int em), .val (.int wn), .val (.ref ca), .val (.ref q), .val (.ref e), .val (.int (2 : Int32)), .val (.ref j), .unset, .unset, .unset] [(.int (1 : Int32)), (.ref e)]))
      refine Go.st (fun _ => XS.bipush W4.here W4.ex rfl (hb hby at_137)) ?_
      show Go _ _ _ _ (T4.setTop (mkF m_ 139 #[.val (.int c0), .val (.int c1), .val (.int fl), .val (.int x), .val (.int y), .val (.int em), .val (.int wn), .val (.ref ca), .val (.ref q), .val (.ref e), .val (.int (2 : Int32)), .val (.ref j), .unset, .unset, .unset] [(.int (34 : Int32)), (.int (1 : Int32)), (.ref e)]))
      refine W4.stA V_e (x := (34 : Int32)) (n1 := 1) rfl (rmE0 (by decide)) (List.mem_of_getElem? (i := 0) rfl) g_e (hb hby at_139) ?_
      intro T5 h5 L5 sl5 vv5 W5 w5 V_new
      replace E_j := E_j.wr w5
      replace S_q := S_q.wr w5 ne_q_e ne_t_e
      replace J4 := J4.wr w5 (Ne.symm ne_e_j) (Ne.symm ne_e_b)
      replace V_e : Arv Z h5 e ke .byte (32 : Int32) (([(91 : Int32), (34 : Int32)]).map Value.int) (.int 0) := V_new
      clear V_new
      refine Go.st (fun _ => XS.aload W5.here W5.ex rfl (hb hby at_140) rfl rfl) ?_
      refine Go.st (fun _ => XS.iload W5.here W5.ex rfl (hb hby at_142) rfl) ?_
      refine Go.st (fun _ => XS.iloadN W5.here W5.ex rfl (hb hby at_144) rfl) ?_
      show Go _ _ _ _ (T5.setTop (mkF m_ 145 #[.val (.int c0), .val (.int c1), .val (.int fl), .val (.int x), .val (.int y), .val (.int em), .val (.int wn), .val (.ref ca), .val (.ref q), .val (.ref e), .val (.int (2 : Int32)), .val (.ref j), .unset, .unset, .unset] [(.int x), (.int (2 : Int32)), (.ref e)]))
      refine W5.callS (y := Y14) (cx.w 186 rfl) (cx.w 187 rfl) (cx.w 63 rfl) (cx.w 188 rfl) (by decide) (ct_enc cx W5.old e [(91 : Int32), (34 : Int32)] x V_e g_e (by decide)) (allS (List.mem_of_getElem? (i := 0) rfl) all0) (by decide) (Wd := 0) (by decide) (k' := 11) (n' := 4199) rfl rfl (by decide) (by decide) (by rw [hml]; rfl) (argsL := [(.ref e), (.int (2 : Int32)), (.int x)]) (rest := []) rfl (lenOf pd27 rfl) rfl (Nat.le_of_eq rfl) (hb hby at_145) ?_
      intro v6 vm6 T6 h6 L6 W6 q6
      obtain ⟨rfl, Ke, V_e⟩ := q6
      replace E_j := E_j.keep Ke
      replace S_q := S_q.keep Ke (ninS ne_q_e nin0) (ninS ne_t_e nin0)
      replace J4 := J4.keep Ke (ninS (Ne.symm ne_e_j) nin0) (ninS (Ne.symm ne_e_b) nin0)
      refine Go.st (fun _ => XS.istore W6.here W6.ex rfl (hb hby at_148) rfl (l' := #[.val (.int c0), .val (.int c1), .val (.int fl), .val (.int x), .val (.int y), .val (.int em), .val (.int wn), .val (.ref ca), .val (.ref q), .val (.ref e), .val (.int (Int32.ofNat ([(91 : Int32), (34 : Int32)] ++ Ec x).length)), .val (.ref j), .unset, .unset, .unset]) rfl) ?_
      refine Go.st (fun _ => XS.aload W6.here W6.ex rfl (hb hby at_150) rfl rfl) ?_
      refine Go.st (fun _ => XS.iload W6.here W6.ex rfl (hb hby at_152) rfl) ?_
      show Go _ _ _ _ (T6.setTop (mkF m_ 154 #[.val (.int c0), .val (.int c1), .val (.int fl), .val (.int x), .val (.int y), .val (.int em), .val (.int wn), .val (.ref ca), .val (.ref q), .val (.ref e), .val (.int (Int32.ofNat ([(91 : Int32), (34 : Int32)] ++ Ec x).length)), .val (.ref j), .unset, .unset, .unset] [(.int (Int32.ofNat ([(91 : Int32), (34 : Int32)] ++ Ec x).length)), (.ref e)]))
      refine Go.st (fun _ => XS.iload W6.here W6.ex rfl (hb hby at_154) rfl) ?_
      show Go _ _ _ _ (T6.setTop (mkF m_ 156 #[.val (.int c0), .val (.int c1), .val (.int fl), .val (.int x), .val (.int y), .val (.int em), .val (.int wn), .val (.ref ca), .val (.ref q), .val (.ref e), .val (.int (Int32.ofNat ([(91 : Int32), (34 : Int32)] ++ Ec x).length)), .val (.ref j), .unset, .unset, .unset] [(.int y), (.int (Int32.ofNat ([(91 : Int32), (34 : Int32)] ++ Ec x).length)), (.ref e)]))
      refine W6.callS (y := Y14) (cx.w 186 rfl) (cx.w 187 rfl) (cx.w 63 rfl) (cx.w 188 rfl) (by decide) (ct_enc cx W6.old e ([(91 : Int32), (34 : Int32)] ++ Ec x) y V_e g_e (by omega)) (allS (List.mem_of_getElem? (i := 0) rfl) all0) (by decide) (Wd := 0) (by decide) (k' := 11) (n' := 4199) rfl rfl (by decide) (by decide) (by rw [hml]; rfl) (argsL := [(.ref e), (.int (Int32.ofNat ([(91 : Int32), (34 : Int32)] ++ Ec x).length)), (.int y)]) (rest := []) rfl (lenOf pd27 rfl) rfl (Nat.le_of_eq rfl) (hb hby at_156) ?_
      intro v7 vm7 T7 h7 L7 W7 q7
      obtain ⟨rfl, Kf, V_e⟩ := q7
      replace E_j := E_j.keep Kf
      replace S_q := S_q.keep Kf (ninS ne_q_e nin0) (ninS ne_t_e nin0)
      replace J4 := J4.keep Kf (ninS (Ne.symm ne_e_j) nin0) (ninS (Ne.symm ne_e_b) nin0)
      refine Go.st (fun _ => XS.istore W7.here W7.ex rfl (hb hby at_159) rfl (l' := #[.val (.int c0), .val (.int c1), .val (.int fl), .val (.int x), .val (.int y), .val (.int em), .val (.int wn), .val (.ref ca), .val (.ref q), .val (.ref e), .val (.int (Int32.ofNat ([(91 : Int32), (34 : Int32)] ++ Ec x ++ Ec y).length)), .val (.ref j), .unset, .unset, .unset]) rfl) ?_
      refine Go.st (fun _ => XS.aload W7.here W7.ex rfl (hb hby at_161) rfl rfl) ?_
      refine Go.st (fun _ => XS.iload W7.here W7.ex rfl (hb hby at_163) rfl) ?_
      show Go _ _ _ _ (T7.setTop (mkF m_ 165 #[.val (.int c0), .val (.int c1), .val (.int fl), .val (.int x), .val (.int y), .val (.int em), .val (.int wn), .val (.ref ca), .val (.ref q), .val (.ref e), .val (.int (Int32.ofNat ([(91 : Int32), (34 : Int32)] ++ Ec x ++ Ec y).length)), .val (.ref j), .unset, .unset, .unset] [(.int (Int32.ofNat ([(91 : Int32), (34 : Int32)] ++ Ec x ++ Ec y).length)), (.ref e)]))
      refine Go.st (fun _ => XS.iinc W7.here W7.ex rfl (hb hby at_165) rfl (l' := #[.val (.int c0), .val (.int c1), .val (.int fl), .val (.int x), .val (.int y), .val (.int em), .val (.int wn), .val (.ref ca), .val (.ref q), .val (.ref e), .val (.int ((Int32.ofNat ([(91 : Int32), (34 : Int32)] ++ Ec x ++ Ec y).length) + (1 : Int32))), .val (.ref j), .unset, .unset, .unset]) rfl) ?_
      show Go _ _ _ _ (T7.setTop (mkF m_ 168 #[.val (.int c0), .val (.int c1), .val (.int fl), .val (.int x), .val (.int y), .val (.int em), .val (.int wn), .val (.ref ca), .val (.ref q), .val (.ref e), .val (.int ((Int32.ofNat ([(91 : Int32), (34 : Int32)] ++ Ec x ++ Ec y).length) + (1 : Int32))), .val (.ref j), .unset, .unset, .unset] [(.int (Int32.ofNat ([(91 : Int32), (34 : Int32)] ++ Ec x ++ Ec y).length)), (.ref e)]))
      rw [show ((Int32.ofNat ([(91 : Int32), (34 : Int32)] ++ Ec x ++ Ec y).length) + (1 : Int32)) = (Int32.ofNat (([(91 : Int32), (34 : Int32)] ++ Ec x ++ Ec y).length + 1)) from ofn_add _ 1]
      refine Go.st (fun _ => XS.bipush W7.here W7.ex rfl (hb hby at_168)) ?_
      show Go _ _ _ _ (T7.setTop (mkF m_ 170 #[.val (.int c0), .val (.int c1), .val (.int fl), .val (.int x), .val (.int y), .val (.int em), .val (.int wn), .val (.ref ca), .val (.ref q), .val (.ref e), .val (.int (Int32.ofNat (([(91 : Int32), (34 : Int32)] ++ Ec x ++ Ec y).length + 1))), .val (.ref j), .unset, .unset, .unset] [(.int (34 : Int32)), (.int (Int32.ofNat ([(91 : Int32), (34 : Int32)] ++ Ec x ++ Ec y).length)), (.ref e)]))
      refine W7.stA V_e (x := (34 : Int32)) (n1 := ([(91 : Int32), (34 : Int32)] ++ Ec x ++ Ec y).length) rfl (rmE0 (by omega)) (List.mem_of_getElem? (i := 0) rfl) g_e (hb hby at_170) ?_
      intro T8 h8 L8 sl8 vv8 W8 w8 V_new
      replace E_j := E_j.wr w8
      replace S_q := S_q.wr w8 ne_q_e ne_t_e
      replace J4 := J4.wr w8 (Ne.symm ne_e_j) (Ne.symm ne_e_b)
      replace V_e : Arv Z h8 e ke .byte (32 : Int32) ((([(91 : Int32), (34 : Int32)] ++ Ec x ++ Ec y) ++ [(34 : Int32)]).map Value.int) (.int 0) := V_new
      clear V_new
      refine Go.st (fun _ => XS.iload W8.here W8.ex rfl (hb hby at_171) rfl) ?_
      refine Go.st (fun _ => XS.ifYes W8.here W8.ex rfl (pc0 := 173) (pc' := 226) rfl (hb hby at_173) rfl ((if0 _ _).trans (teq (zwn : wn = (0 : Int32))).1) (by decide) (by decide)) ?_
      refine Go.st (fun _ => XS.aload W8.here W8.ex rfl (hb hby at_226) rfl rfl) ?_
      show Go _ _ _ _ (T8.setTop (mkF m_ 228 #[.val (.int c0), .val (.int c1), .val (.int fl), .val (.int x), .val (.int y), .val (.int em), .val (.int wn), .val (.ref ca), .val (.ref q), .val (.ref e), .val (.int (Int32.ofNat (([(91 : Int32), (34 : Int32)] ++ Ec x ++ Ec y).length + 1))), .val (.ref j), .unset, .unset, .unset] [(.ref e)]))
      refine Go.st (fun _ => XS.iload W8.here W8.ex rfl (hb hby at_228) rfl) ?_
      refine Go.st (fun _ => XS.iinc W8.here W8.ex rfl (hb hby at_230) rfl (l' := #[.val (.int c0), .val (.int c1), .val (.int fl), .val (.int x), .val (.int y), .val (.int em), .val (.int wn), .val (.ref ca), .val (.ref q), .val (.ref e), .val (.int ((Int32.ofNat (([(91 : Int32), (34 : Int32)] ++ Ec x ++ Ec y).length + 1)) + (1 : Int32))), .val (.ref j), .unset, .unset, .unset]) rfl) ?_
      show Go _ _ _ _ (T8.setTop (mkF m_ 233 #[.val (.int c0), .val (.int c1), .val (.int fl), .val (.int x), .val (.int y), .val (.int em), .val (.int wn), .val (.ref ca), .val (.ref q), .val (.ref e), .val (.int ((Int32.ofNat (([(91 : Int32), (34 : Int32)] ++ Ec x ++ Ec y).length + 1)) + (1 : Int32))), .val (.ref j), .unset, .unset, .unset] [(.int (Int32.ofNat (([(91 : Int32), (34 : Int32)] ++ Ec x ++ Ec y).length + 1))), (.ref e)]))
      rw [show ((Int32.ofNat (([(91 : Int32), (34 : Int32)] ++ Ec x ++ Ec y).length + 1)) + (1 : Int32)) = (Int32.ofNat (([(91 : Int32), (34 : Int32)] ++ Ec x ++ Ec y).length + 2)) from ofn_add _ 1]
      refine Go.st (fun _ => XS.bipush W8.here W8.ex rfl (hb hby at_233)) ?_
      show Go _ _ _ _ (T8.setTop (mkF m_ 235 #[.val (.int c0), .val (.int c1), .val (.int fl), .val (.int x), .val (.int y), .val (.int em), .val (.int wn), .val (.ref ca), .val (.ref q), .val (.ref e), .val (.int (Int32.ofNat (([(91 : Int32), (34 : Int32)] ++ Ec x ++ Ec y).length + 2))), .val (.ref j), .unset, .unset, .unset] [(.int (93 : Int32)), (.int (Int32.ofNat (([(91 : Int32), (34 : Int32)] ++ Ec x ++ Ec y).length + 1))), (.ref e)]))
      refine W8.stA V_e (x := (93 : Int32)) (n1 := (([(91 : Int32), (34 : Int32)] ++ Ec x ++ Ec y).length + 1)) (ln rfl) (rmE (k := 1) rfl (by omega)) (List.mem_of_getElem? (i := 0) rfl) g_e (hb hby at_235) ?_
      intro T9 h9 L9 sl9 vv9 W9 w9 V_new
      replace E_j := E_j.wr w9
      replace S_q := S_q.wr w9 ne_q_e ne_t_e
      replace J4 := J4.wr w9 (Ne.symm ne_e_j) (Ne.symm ne_e_b)
      replace V_e : Arv Z h9 e ke .byte (32 : Int32) ((([(91 : Int32), (34 : Int32)] ++ Ec x ++ Ec y) ++ [(34 : Int32), (93 : Int32)]).map Value.int) (.int 0) := by rw [List.append_assoc] at V_new; exact V_new
      clear V_new
      show Go _ _ _ _ (T9.setTop (mkF m_ 236 #[.val (.int c0), .val (.int c1), .val (.int fl), .val (.int x), .val (.int y), .val (.int em), .val (.int wn), .val (.ref ca), .val (.ref q), .val (.ref e), .val (.int (Int32.ofNat (([(91 : Int32), (34 : Int32)] ++ Ec x ++ Ec y).length + 2))), .val (.ref j), .unset, .unset, .unset] []))
      rw [show (Int32.ofNat (([(91 : Int32), (34 : Int32)] ++ Ec x ++ Ec y).length + 2)) = (Int32.ofNat (([(91 : Int32), (34 : Int32)] ++ Ec x ++ Ec y) ++ [(34 : Int32), (93 : Int32)]).length) from lnI rfl]
      show Go _ _ _ _ (T9.setTop (mkF m_ 236 #[.val (.int c0), .val (.int c1), .val (.int fl), .val (.int x), .val (.int y), .val (.int em), .val (.int wn), .val (.ref ca), .val (.ref q), .val (.ref e), .val (.int (Int32.ofNat (([(91 : Int32), (34 : Int32)] ++ Ec x ++ Ec y) ++ [(34 : Int32), (93 : Int32)]).length)), .val (.ref j), .unset, .unset, .unset] []))
      have hq : ([] ++ [(91 : Int32)] ++ [34] ++ Ec x ++ Ec y ++ [34]) ++ [(93 : Int32)] = (([(91 : Int32), (34 : Int32)] ++ Ec x ++ Ec y) ++ [(34 : Int32), (93 : Int32)]) := by simp [List.append_assoc]
      exact law_z cx c0 c1 fl x y em wn ca q e j b (([(91 : Int32), (34 : Int32)] ++ Ec x ++ Ec y) ++ [(34 : Int32), (93 : Int32)]) 0 (W9.meet (by decide) (by decide)) hby hml hret hnm (J4.of hq) V_e (hlA (k := 2) rfl (by omega)) (Or.inr ⟨34 :: (Ec x ++ (Ec y ++ [(34 : Int32), (93 : Int32)])), by simp [List.append_assoc]⟩)
    · refine Go.st (fun _ => XS.ifNo W2.here W2.ex rfl (hb hby at_105) rfl ((if0 _ _).trans (feq (zwn : ¬ (wn = (0 : Int32)))).1)) ?_
      refine Go.st (fun _ => XS.aload W2.here W2.ex rfl (hb hby at_108) rfl rfl) ?_
      show Go _ _ _ _ (T2.setTop (mkF m_ 110 #[.val (.int c0), .val (.int c1), .val (.int fl), .val (.int x), .val (.int y), .val (.int em), .val (.int wn), .val (.ref ca), .val (.ref q), .val (.ref e), .val (.int (0 : Int32)), .val (.ref j), .unset, .unset, .unset] [(.ref j)]))
      refine W2.callV (y := Y6) (z := Y6) (cx.w 160 rfl) (cx.w 161 rfl) (cx.w 163 rfl) (cx.w 162 rfl) (cx.w 33 rfl) (cx.w 164 rfl) (W2.nf (cx.w 163 rfl)) (by decide) E_j (ct_null cx W2.old j b ([] ++ [(91 : Int32)] ++ [34] ++ Ec x ++ Ec y ++ [34]) J2 g_j g_b (by omega)) (allS (List.mem_of_getElem? (i := 1) rfl) (allS (List.mem_of_getElem? (i := 2) rfl) all0)) (by decide) (Wd := 0) (by decide) (k' := 13) (n' := 4219) rfl rfl (by decide) (by decide) (by rw [hml]; rfl) (a := j) (argsL := []) (rest := []) rfl (lenOf pd29 rfl) rfl (Nat.le_of_eq rfl) (hb hby at_110) ?_
      intro v10 vm10 T10 h10 L10 W10 q10
      obtain ⟨rfl, Kc, J3⟩ := q10
      replace E_j := E_j.keep Kc
      replace S_q := S_q.keep Kc (ninS ne_q_j (ninS ne_q_b nin0)) (ninS ne_t_j (ninS ne_t_b nin0))
      replace V_e := V_e.keep Kc (ninS ne_e_j (ninS ne_e_b nin0))
      refine Go.st (fun _ => XS.pop W10.here W10.ex rfl (hb hby at_113) rfl rfl) ?_
      refine Go.st (fun _ => XS.aload W10.here W10.ex rfl (hb hby at_114) rfl rfl) ?_
      show Go _ _ _ _ (T10.setTop (mkF m_ 116 #[.val (.int c0), .val (.int c1), .val (.int fl), .val (.int x), .val (.int y), .val (.int em), .val (.int wn), .val (.ref ca), .val (.ref q), .val (.ref e), .val (.int (0 : Int32)), .val (.ref j), .unset, .unset, .unset] [(.ref j)]))
      refine W10.callV (y := Y3) (z := Y3) (cx.w 177 rfl) (cx.w 178 rfl) (cx.w 180 rfl) (cx.w 179 rfl) (cx.w 33 rfl) (cx.w 181 rfl) (W10.nf (cx.w 180 rfl)) (by decide) E_j (ct_end cx W10.old j b (([] ++ [(91 : Int32)] ++ [34] ++ Ec x ++ Ec y ++ [34]) ++ [(44 : Int32), (110 : Int32), (117 : Int32), (108 : Int32), (108 : Int32)]) J3 g_j g_b (hlA (k := 5) rfl (by omega))) (allS (List.mem_of_getElem? (i := 1) rfl) (allS (List.mem_of_getElem? (i := 2) rfl) all0)) (by decide) (Wd := 0) (by decide) (k' := 13) (n' := 4219) rfl rfl (by decide) (by decide) (by rw [hml]; rfl) (a := j) (argsL := []) (rest := []) rfl (lenOf pd29 rfl) rfl (Nat.le_of_eq rfl) (hb hby at_116) ?_
      intro v11 vm11 T11 h11 L11 W11 q11
      obtain ⟨rfl, Kd, J4⟩ := q11
      replace E_j := E_j.keep Kd
      replace S_q := S_q.keep Kd (ninS ne_q_j (ninS ne_q_b nin0)) (ninS ne_t_j (ninS ne_t_b nin0))
      replace V_e := V_e.keep Kd (ninS ne_e_j (ninS ne_e_b nin0))
      refine Go.st (fun _ => XS.pop W11.here W11.ex rfl (hb hby at_119) rfl rfl) ?_
      refine Go.st (fun _ => XS.aload W11.here W11.ex rfl (hb hby at_120) rfl rfl) ?_
      refine Go.st (fun _ => XS.iload W11.here W11.ex rfl (hb hby at_122) rfl) ?_
      show Go _ _ _ _ (T11.setTop (mkF m_ 124 #[.val (.int c0), .val (.int c1), .val (.int fl), .val (.int x), .val (.int y), .val (.int em), .val (.int wn), .val (.ref ca), .val (.ref q), .val (.ref e), .val (.int (0 : Int32)), .val (.ref j), .unset, .unset, .unset] [(.int (0 : Int32)), (.ref e)]))
      refine Go.st (fun _ => XS.iinc W11.here W11.ex rfl (hb hby at_124) rfl (l' := #[.val (.int c0), .val (.int c1), .val (.int fl), .val (.int x), .val (.int y), .val (.int em), .val (.int wn), .val (.ref ca), .val (.ref q), .val (.ref e), .val (.int (1 : Int32)), .val (.ref j), .unset, .unset, .unset]) rfl) ?_
      refine Go.st (fun _ => XS.bipush W11.here W11.ex rfl (hb hby at_127)) ?_
      show Go _ _ _ _ (T11.setTop (mkF m_ 129 #[.val (.int c0), .val (.int c1), .val (.int fl), .val (.int x), .val (.int y), .val (.int em), .val (.int wn), .val (.ref ca), .val (.ref q), .val (.ref e), .val (.int (1 : Int32)), .val (.ref j), .unset, .unset, .unset] [(.int (91 : Int32)), (.int (0 : Int32)), (.ref e)]))
      refine W11.stA V_e (x := (91 : Int32)) (n1 := 0) rfl (rmE0 (by decide)) (List.mem_of_getElem? (i := 0) rfl) g_e (hb hby at_129) ?_
      intro T12 h12 L12 sl12 vv12 W12 w12 V_new
      replace E_j := E_j.wr w12
      replace S_q := S_q.wr w12 ne_q_e ne_t_e
      replace J4 := J4.wr w12 (Ne.symm ne_e_j) (Ne.symm ne_e_b)
      replace V_e : Arv Z h12 e ke .byte (32 : Int32) (([(91 : Int32)]).map Value.int) (.int 0) := V_new
      clear V_new
      refine Go.st (fun _ => XS.aload W12.here W12.ex rfl (hb hby at_130) rfl rfl) ?_
      refine Go.st (fun _ => XS.iload W12.here W12.ex rfl (hb hby at_132) rfl) ?_
      refine Go.st (fun _ => XS.iinc W12.here W12.ex rfl (hb hby at_134) rfl (l' := #[.val (.int c0), .val (.int c1), .val (.int fl), .val (.int x), .val (.int y), .val (.int em), .val (.int wn), .val (.ref ca), .val (.ref q), .val (.ref e), .val (.int (2 : Int32)), .val (.ref j), .unset, .unset, .unset]) rfl) ?_
      show Go _ _ _ _ (T12.setTop (mkF m_ 137 #[.val (.int c0), .val (.int c1), .val (.int fl), .val (.int x), .val (.int y), .val (.int em), .val (.int wn), .val (.ref ca), .val (.ref q), .val (.ref e), .val (.int (2 : Int32)), .val (.ref j), .unset, .unset, .unset] [(.int (1 : Int32)), (.ref e)]))
      refine Go.st (fun _ => XS.bipush W12.here W12.ex rfl (hb hby at_137)) ?_
      show Go _ _ _ _ (T12.setTop (mkF m_ 139 #[.val (.int c0), .val (.int c1), .val (.int fl), .val (.int x), .val (.int y), .val (.int em), .val (.int wn), .val (.ref ca), .val (.ref q), .val (.ref e), .val (.int (2 : Int32)), .val (.ref j), .unset, .unset, .unset] [(.int (34 : Int32)), (.int (1 : Int32)), (.ref e)]))
      refine W12.stA V_e (x := (34 : Int32)) (n1 := 1) rfl (rmE0 (by decide)) (List.mem_of_getElem? (i := 0) rfl) g_e (hb hby at_139) ?_
      intro T13 h13 L13 sl13 vv13 W13 w13 V_new
      replace E_j := E_j.wr w13
      replace S_q := S_q.wr w13 ne_q_e ne_t_e
      replace J4 := J4.wr w13 (Ne.symm ne_e_j) (Ne.symm ne_e_b)
      replace V_e : Arv Z h13 e ke .byte (32 : Int32) (([(91 : Int32), (34 : Int32)]).map Value.int) (.int 0) := V_new
      clear V_new
      refine Go.st (fun _ => XS.aload W13.here W13.ex rfl (hb hby at_140) rfl rfl) ?_
      refine Go.st (fun _ => XS.iload W13.here W13.ex rfl (hb hby at_142) rfl) ?_
      refine Go.st (fun _ => XS.iloadN W13.here W13.ex rfl (hb hby at_144) rfl) ?_
      show Go _ _ _ _ (T13.setTop (mkF m_ 145 #[.val (.int c0), .val (.int c1), .val (.int fl), .val (.int x), .val (.int y), .val (.int em), .val (.int wn), .val (.ref ca), .val (.ref q), .val (.ref e), .val (.int (2 : Int32)), .val (.ref j), .unset, .unset, .unset] [(.int x), (.int (2 : Int32)), (.ref e)]))
      refine W13.callS (y := Y14) (cx.w 186 rfl) (cx.w 187 rfl) (cx.w 63 rfl) (cx.w 188 rfl) (by decide) (ct_enc cx W13.old e [(91 : Int32), (34 : Int32)] x V_e g_e (by decide)) (allS (List.mem_of_getElem? (i := 0) rfl) all0) (by decide) (Wd := 0) (by decide) (k' := 13) (n' := 4219) rfl rfl (by decide) (by decide) (by rw [hml]; rfl) (argsL := [(.ref e), (.int (2 : Int32)), (.int x)]) (rest := []) rfl (lenOf pd27 rfl) rfl (Nat.le_of_eq rfl) (hb hby at_145) ?_
      intro v14 vm14 T14 h14 L14 W14 q14
      obtain ⟨rfl, Ke, V_e⟩ := q14
      replace E_j := E_j.keep Ke
      replace S_q := S_q.keep Ke (ninS ne_q_e nin0) (ninS ne_t_e nin0)
      replace J4 := J4.keep Ke (ninS (Ne.symm ne_e_j) nin0) (ninS (Ne.symm ne_e_b) nin0)
      refine Go.st (fun _ => XS.istore W14.here W14.ex rfl (hb hby at_148) rfl (l' := #[.val (.int c0), .val (.int c1), .val (.int fl), .val (.int x), .val (.int y), .val (.int em), .val (.int wn), .val (.ref ca), .val (.ref q), .val (.ref e), .val (.int (Int32.ofNat ([(91 : Int32), (34 : Int32)] ++ Ec x).length)), .val (.ref j), .unset, .unset, .unset]) rfl) ?_
      refine Go.st (fun _ => XS.aload W14.here W14.ex rfl (hb hby at_150) rfl rfl) ?_
      refine Go.st (fun _ => XS.iload W14.here W14.ex rfl (hb hby at_152) rfl) ?_
      show Go _ _ _ _ (T14.setTop (mkF m_ 154 #[.val (.int c0), .val (.int c1), .val (.int fl), .val (.int x), .val (.int y), .val (.int em), .val (.int wn), .val (.ref ca), .val (.ref q), .val (.ref e), .val (.int (Int32.ofNat ([(91 : Int32), (34 : Int32)] ++ Ec x).length)), .val (.ref j), .unset, .unset, .unset] [(.int (Int32.ofNat ([(91 : Int32), (34 : Int32)] ++ Ec x).length)), (.ref e)]))
      refine Go.st (fun _ => XS.iload W14.here W14.ex rfl (hb hby at_154) rfl) ?_
      show Go _ _ _ _ (T14.setTop (mkF m_ 156 #[.val (.int c0), .val (.int c1), .val (.int fl), .val (.int x), .val (.int y), .val (.int em), .val (.int wn), .val (.ref ca), .val (.ref q), .val (.ref e), .val (.int (Int32.ofNat ([(91 : Int32), (34 : Int32)] ++ Ec x).length)), .val (.ref j), .unset, .unset, .unset] [(.int y), (.int (Int32.ofNat ([(91 : Int32), (34 : Int32)] ++ Ec x).length)), (.ref e)]))
      refine W14.callS (y := Y14) (cx.w 186 rfl) (cx.w 187 rfl) (cx.w 63 rfl) (cx.w 188 rfl) (by decide) (ct_enc cx W14.old e ([(91 : Int32), (34 : Int32)] ++ Ec x) y V_e g_e (by omega)) (allS (List.mem_of_getElem? (i := 0) rfl) all0) (by decide) (Wd := 0) (by decide) (k' := 13) (n' := 4219) rfl rfl (by decide) (by decide) (by rw [hml]; rfl) (argsL := [(.ref e), (.int (Int32.ofNat ([(91 : Int32), (34 : Int32)] ++ Ec x).length)), (.int y)]) (rest := []) rfl (lenOf pd27 rfl) rfl (Nat.le_of_eq rfl) (hb hby at_156) ?_
      intro v15 vm15 T15 h15 L15 W15 q15
      obtain ⟨rfl, Kf, V_e⟩ := q15
      replace E_j := E_j.keep Kf
      replace S_q := S_q.keep Kf (ninS ne_q_e nin0) (ninS ne_t_e nin0)
      replace J4 := J4.keep Kf (ninS (Ne.symm ne_e_j) nin0) (ninS (Ne.symm ne_e_b) nin0)
      refine Go.st (fun _ => XS.istore W15.here W15.ex rfl (hb hby at_159) rfl (l' := #[.val (.int c0), .val (.int c1), .val (.int fl), .val (.int x), .val (.int y), .val (.int em), .val (.int wn), .val (.ref ca), .val (.ref q), .val (.ref e), .val (.int (Int32.ofNat ([(91 : Int32), (34 : Int32)] ++ Ec x ++ Ec y).length)), .val (.ref j), .unset, .unset, .unset]) rfl) ?_
      refine Go.st (fun _ => XS.aload W15.here W15.ex rfl (hb hby at_161) rfl rfl) ?_
      refine Go.st (fun _ => XS.iload W15.here W15.ex rfl (hb hby at_163) rfl) ?_
      show Go _ _ _ _ (T15.setTop (mkF m_ 165 #[.val (.int c0), .val (.int c1), .val (.int fl), .val (.int x), .val (.int y), .val (.int em), .val (.int wn), .val (.ref ca), .val (.ref q), .val (.ref e), .val (.int (Int32.ofNat ([(91 : Int32), (34 : Int32)] ++ Ec x ++ Ec y).length)), .val (.ref j), .unset, .unset, .unset] [(.int (Int32.ofNat ([(91 : Int32), (34 : Int32)] ++ Ec x ++ Ec y).length)), (.ref e)]))
      refine Go.st (fun _ => XS.iinc W15.here W15.ex rfl (hb hby at_165) rfl (l' := #[.val (.int c0), .val (.int c1), .val (.int fl), .val (.int x), .val (.int y), .val (.int em), .val (.int wn), .val (.ref ca), .val (.ref q), .val (.ref e), .val (.int ((Int32.ofNat ([(91 : Int32), (34 : Int32)] ++ Ec x ++ Ec y).length) + (1 : Int32))), .val (.ref j), .unset, .unset, .unset]) rfl) ?_
      show Go _ _ _ _ (T15.setTop (mkF m_ 168 #[.val (.int c0), .val (.int c1), .val (.int fl), .val (.int x), .val (.int y), .val (.int em), .val (.int wn), .val (.ref ca), .val (.ref q), .val (.ref e), .val (.int ((Int32.ofNat ([(91 : Int32), (34 : Int32)] ++ Ec x ++ Ec y).length) + (1 : Int32))), .val (.ref j), .unset, .unset, .unset] [(.int (Int32.ofNat ([(91 : Int32), (34 : Int32)] ++ Ec x ++ Ec y).length)), (.ref e)]))
      rw [show ((Int32.ofNat ([(91 : Int32), (34 : Int32)] ++ Ec x ++ Ec y).length) + (1 : Int32)) = (Int32.ofNat (([(91 : Int32), (34 : Int32)] ++ Ec x ++ Ec y).length + 1)) from ofn_add _ 1]
      refine Go.st (fun _ => XS.bipush W15.here W15.ex rfl (hb hby at_168)) ?_
      show Go _ _ _ _ (T15.setTop (mkF m_ 170 #[.val (.int c0), .val (.int c1), .val (.int fl), .val (.int x), .val (.int y), .val (.int em), .val (.int wn), .val (.ref ca), .val (.ref q), .val (.ref e), .val (.int (Int32.ofNat (([(91 : Int32), (34 : Int32)] ++ Ec x ++ Ec y).length + 1))), .val (.ref j), .unset, .unset, .unset] [(.int (34 : Int32)), (.int (Int32.ofNat ([(91 : Int32), (34 : Int32)] ++ Ec x ++ Ec y).length)), (.ref e)]))
      refine W15.stA V_e (x := (34 : Int32)) (n1 := ([(91 : Int32), (34 : Int32)] ++ Ec x ++ Ec y).length) rfl (rmE0 (by omega)) (List.mem_of_getElem? (i := 0) rfl) g_e (hb hby at_170) ?_
      intro T16 h16 L16 sl16 vv16 W16 w16 V_new
      replace E_j := E_j.wr w16
      replace S_q := S_q.wr w16 ne_q_e ne_t_e
      replace J4 := J4.wr w16 (Ne.symm ne_e_j) (Ne.symm ne_e_b)
      replace V_e : Arv Z h16 e ke .byte (32 : Int32) ((([(91 : Int32), (34 : Int32)] ++ Ec x ++ Ec y) ++ [(34 : Int32)]).map Value.int) (.int 0) := V_new
      clear V_new
      refine Go.st (fun _ => XS.iload W16.here W16.ex rfl (hb hby at_171) rfl) ?_
      refine Go.st (fun _ => XS.ifNo W16.here W16.ex rfl (hb hby at_173) rfl ((if0 _ _).trans (feq (zwn : ¬ (wn = (0 : Int32)))).1)) ?_
      refine Go.st (fun _ => XS.aload W16.here W16.ex rfl (hb hby at_176) rfl rfl) ?_
      show Go _ _ _ _ (T16.setTop (mkF m_ 178 #[.val (.int c0), .val (.int c1), .val (.int fl), .val (.int x), .val (.int y), .val (.int em), .val (.int wn), .val (.ref ca), .val (.ref q), .val (.ref e), .val (.int (Int32.ofNat (([(91 : Int32), (34 : Int32)] ++ Ec x ++ Ec y).length + 1))), .val (.ref j), .unset, .unset, .unset] [(.ref e)]))
      refine Go.st (fun _ => XS.iload W16.here W16.ex rfl (hb hby at_178) rfl) ?_
      refine Go.st (fun _ => XS.iinc W16.here W16.ex rfl (hb hby at_180) rfl (l' := #[.val (.int c0), .val (.int c1), .val (.int fl), .val (.int x), .val (.int y), .val (.int em), .val (.int wn), .val (.ref ca), .val (.ref q), .val (.ref e), .val (.int ((Int32.ofNat (([(91 : Int32), (34 : Int32)] ++ Ec x ++ Ec y).length + 1)) + (1 : Int32))), .val (.ref j), .unset, .unset, .unset]) rfl) ?_
      show Go _ _ _ _ (T16.setTop (mkF m_ 183 #[.val (.int c0), .val (.int c1), .val (.int fl), .val (.int x), .val (.int y), .val (.int em), .val (.int wn), .val (.ref ca), .val (.ref q), .val (.ref e), .val (.int ((Int32.ofNat (([(91 : Int32), (34 : Int32)] ++ Ec x ++ Ec y).length + 1)) + (1 : Int32))), .val (.ref j), .unset, .unset, .unset] [(.int (Int32.ofNat (([(91 : Int32), (34 : Int32)] ++ Ec x ++ Ec y).length + 1))), (.ref e)]))
      rw [show ((Int32.ofNat (([(91 : Int32), (34 : Int32)] ++ Ec x ++ Ec y).length + 1)) + (1 : Int32)) = (Int32.ofNat (([(91 : Int32), (34 : Int32)] ++ Ec x ++ Ec y).length + 2)) from ofn_add _ 1]
      refine Go.st (fun _ => XS.bipush W16.here W16.ex rfl (hb hby at_183)) ?_
      show Go _ _ _ _ (T16.setTop (mkF m_ 185 #[.val (.int c0), .val (.int c1), .val (.int fl), .val (.int x), .val (.int y), .val (.int em), .val (.int wn), .val (.ref ca), .val (.ref q), .val (.ref e), .val (.int (Int32.ofNat (([(91 : Int32), (34 : Int32)] ++ Ec x ++ Ec y).length + 2))), .val (.ref j), .unset, .unset, .unset] [(.int (44 : Int32)), (.int (Int32.ofNat (([(91 : Int32), (34 : Int32)] ++ Ec x ++ Ec y).length + 1))), (.ref e)]))
      refine W16.stA V_e (x := (44 : Int32)) (n1 := (([(91 : Int32), (34 : Int32)] ++ Ec x ++ Ec y).length + 1)) (ln rfl) (rmE (k := 1) rfl (by omega)) (List.mem_of_getElem? (i := 0) rfl) g_e (hb hby at_185) ?_
      intro T17 h17 L17 sl17 vv17 W17 w17 V_new
      replace E_j := E_j.wr w17
      replace S_q := S_q.wr w17 ne_q_e ne_t_e
      replace J4 := J4.wr w17 (Ne.symm ne_e_j) (Ne.symm ne_e_b)
      replace V_e : Arv Z h17 e ke .byte (32 : Int32) ((([(91 : Int32), (34 : Int32)] ++ Ec x ++ Ec y) ++ [(34 : Int32), (44 : Int32)]).map Value.int) (.int 0) := by rw [List.append_assoc] at V_new; exact V_new
      clear V_new
      refine Go.st (fun _ => XS.aload W17.here W17.ex rfl (hb hby at_186) rfl rfl) ?_
      refine Go.st (fun _ => XS.iload W17.here W17.ex rfl (hb hby at_188) rfl) ?_
      refine Go.st (fun _ => XS.iinc W17.here W17.ex rfl (hb hby at_190) rfl (l' := #[.val (.int c0), .val (.int c1), .val (.int fl), .val (.int x), .val (.int y), .val (.int em), .val (.int wn), .val (.ref ca), .val (.ref q), .val (.ref e), .val (.int ((Int32.ofNat (([(91 : Int32), (34 : Int32)] ++ Ec x ++ Ec y).length + 2)) + (1 : Int32))), .val (.ref j), .unset, .unset, .unset]) rfl) ?_
      show Go _ _ _ _ (T17.setTop (mkF m_ 193 #[.val (.int c0), .val (.int c1), .val (.int fl), .val (.int x), .val (.int y), .val (.int em), .val (.int wn), .val (.ref ca), .val (.ref q), .val (.ref e), .val (.int ((Int32.ofNat (([(91 : Int32), (34 : Int32)] ++ Ec x ++ Ec y).length + 2)) + (1 : Int32))), .val (.ref j), .unset, .unset, .unset] [(.int (Int32.ofNat (([(91 : Int32), (34 : Int32)] ++ Ec x ++ Ec y).length + 2))), (.ref e)]))
      rw [show ((Int32.ofNat (([(91 : Int32), (34 : Int32)] ++ Ec x ++ Ec y).length + 2)) + (1 : Int32)) = (Int32.ofNat (([(91 : Int32), (34 : Int32)] ++ Ec x ++ Ec y).length + 3)) from ofn_add _ 1]
      refine Go.st (fun _ => XS.bipush W17.here W17.ex rfl (hb hby at_193)) ?_
      show Go _ _ _ _ (T17.setTop (mkF m_ 195 #[.val (.int c0), .val (.int c1), .val (.int fl), .val (.int x), .val (.int y), .val (.int em), .val (.int wn), .val (.ref ca), .val (.ref q), .val (.ref e), .val (.int (Int32.ofNat (([(91 : Int32), (34 : Int32)] ++ Ec x ++ Ec y).length + 3))), .val (.ref j), .unset, .unset, .unset] [(.int (110 : Int32)), (.int (Int32.ofNat (([(91 : Int32), (34 : Int32)] ++ Ec x ++ Ec y).length + 2))), (.ref e)]))
      refine W17.stA V_e (x := (110 : Int32)) (n1 := (([(91 : Int32), (34 : Int32)] ++ Ec x ++ Ec y).length + 2)) (ln rfl) (rmE (k := 2) rfl (by omega)) (List.mem_of_getElem? (i := 0) rfl) g_e (hb hby at_195) ?_
      intro T18 h18 L18 sl18 vv18 W18 w18 V_new
      replace E_j := E_j.wr w18
      replace S_q := S_q.wr w18 ne_q_e ne_t_e
      replace J4 := J4.wr w18 (Ne.symm ne_e_j) (Ne.symm ne_e_b)
      replace V_e : Arv Z h18 e ke .byte (32 : Int32) ((([(91 : Int32), (34 : Int32)] ++ Ec x ++ Ec y) ++ [(34 : Int32), (44 : Int32), (110 : Int32)]).map Value.int) (.int 0) := by rw [List.append_assoc] at V_new; exact V_new
      clear V_new
      refine Go.st (fun _ => XS.aload W18.here W18.ex rfl (hb hby at_196) rfl rfl) ?_
      refine Go.st (fun _ => XS.iload W18.here W18.ex rfl (hb hby at_198) rfl) ?_
      refine Go.st (fun _ => XS.iinc W18.here W18.ex rfl (hb hby at_200) rfl (l' := #[.val (.int c0), .val (.int c1), .val (.int fl), .val (.int x), .val (.int y), .val (.int em), .val (.int wn), .val (.ref ca), .val (.ref q), .val (.ref e), .val (.int ((Int32.ofNat (([(91 : Int32), (34 : Int32)] ++ Ec x ++ Ec y).length + 3)) + (1 : Int32))), .val (.ref j), .unset, .unset, .unset]) rfl) ?_
      show Go _ _ _ _ (T18.setTop (mkF m_ 203 #[.val (.int c0), .val (.int c1), .val (.int fl), .val (.int x), .val (.int y), .val (.int em), .val (.int wn), .val (.ref ca), .val (.ref q), .val (.ref e), .val (.int ((Int32.ofNat (([(91 : Int32), (34 : Int32)] ++ Ec x ++ Ec y).length + 3)) + (1 : Int32))), .val (.ref j), .unset, .unset, .unset] [(.int (Int32.ofNat (([(91 : Int32), (34 : Int32)] ++ Ec x ++ Ec y).length + 3))), (.ref e)]))
      rw [show ((Int32.ofNat (([(91 : Int32), (34 : Int32)] ++ Ec x ++ Ec y).length + 3)) + (1 : Int32)) = (Int32.ofNat (([(91 : Int32), (34 : Int32)] ++ Ec x ++ Ec y).length + 4)) from ofn_add _ 1]
      refine Go.st (fun _ => XS.bipush W18.here W18.ex rfl (hb hby at_203)) ?_
      show Go _ _ _ _ (T18.setTop (mkF m_ 205 #[.val (.int c0), .val (.int c1), .val (.int fl), .val (.int x), .val (.int y), .val (.int em), .val (.int wn), .val (.ref ca), .val (.ref q), .val (.ref e), .val (.int (Int32.ofNat (([(91 : Int32), (34 : Int32)] ++ Ec x ++ Ec y).length + 4))), .val (.ref j), .unset, .unset, .unset] [(.int (117 : Int32)), (.int (Int32.ofNat (([(91 : Int32), (34 : Int32)] ++ Ec x ++ Ec y).length + 3))), (.ref e)]))
      refine W18.stA V_e (x := (117 : Int32)) (n1 := (([(91 : Int32), (34 : Int32)] ++ Ec x ++ Ec y).length + 3)) (ln rfl) (rmE (k := 3) rfl (by omega)) (List.mem_of_getElem? (i := 0) rfl) g_e (hb hby at_205) ?_
      intro T19 h19 L19 sl19 vv19 W19 w19 V_new
      replace E_j := E_j.wr w19
      replace S_q := S_q.wr w19 ne_q_e ne_t_e
      replace J4 := J4.wr w19 (Ne.symm ne_e_j) (Ne.symm ne_e_b)
      replace V_e : Arv Z h19 e ke .byte (32 : Int32) ((([(91 : Int32), (34 : Int32)] ++ Ec x ++ Ec y) ++ [(34 : Int32), (44 : Int32), (110 : Int32), (117 : Int32)]).map Value.int) (.int 0) := by rw [List.append_assoc] at V_new; exact V_new
      clear V_new
      refine Go.st (fun _ => XS.aload W19.here W19.ex rfl (hb hby at_206) rfl rfl) ?_
      refine Go.st (fun _ => XS.iload W19.here W19.ex rfl (hb hby at_208) rfl) ?_
      refine Go.st (fun _ => XS.iinc W19.here W19.ex rfl (hb hby at_210) rfl (l' := #[.val (.int c0), .val (.int c1), .val (.int fl), .val (.int x), .val (.int y), .val (.int em), .val (.int wn), .val (.ref ca), .val (.ref q), .val (.ref e), .val (.int ((Int32.ofNat (([(91 : Int32), (34 : Int32)] ++ Ec x ++ Ec y).length + 4)) + (1 : Int32))), .val (.ref j), .unset, .unset, .unset]) rfl) ?_
      show Go _ _ _ _ (T19.setTop (mkF m_ 213 #[.val (.int c0), .val (.int c1), .val (.int fl), .val (.int x), .val (.int y), .val (.int em), .val (.int wn), .val (.ref ca), .val (.ref q), .val (.ref e), .val (.int ((Int32.ofNat (([(91 : Int32), (34 : Int32)] ++ Ec x ++ Ec y).length + 4)) + (1 : Int32))), .val (.ref j), .unset, .unset, .unset] [(.int (Int32.ofNat (([(91 : Int32), (34 : Int32)] ++ Ec x ++ Ec y).length + 4))), (.ref e)]))
      rw [show ((Int32.ofNat (([(91 : Int32), (34 : Int32)] ++ Ec x ++ Ec y).length + 4)) + (1 : Int32)) = (Int32.ofNat (([(91 : Int32), (34 : Int32)] ++ Ec x ++ Ec y).length + 5)) from ofn_add _ 1]
      refine Go.st (fun _ => XS.bipush W19.here W19.ex rfl (hb hby at_213)) ?_
      show Go _ _ _ _ (T19.setTop (mkF m_ 215 #[.val (.int c0), .val (.int c1), .val (.int fl), .val (.int x), .val (.int y), .val (.int em), .val (.int wn), .val (.ref ca), .val (.ref q), .val (.ref e), .val (.int (Int32.ofNat (([(91 : Int32), (34 : Int32)] ++ Ec x ++ Ec y).length + 5))), .val (.ref j), .unset, .unset, .unset] [(.int (108 : Int32)), (.int (Int32.ofNat (([(91 : Int32), (34 : Int32)] ++ Ec x ++ Ec y).length + 4))), (.ref e)]))
      refine W19.stA V_e (x := (108 : Int32)) (n1 := (([(91 : Int32), (34 : Int32)] ++ Ec x ++ Ec y).length + 4)) (ln rfl) (rmE (k := 4) rfl (by omega)) (List.mem_of_getElem? (i := 0) rfl) g_e (hb hby at_215) ?_
      intro T20 h20 L20 sl20 vv20 W20 w20 V_new
      replace E_j := E_j.wr w20
      replace S_q := S_q.wr w20 ne_q_e ne_t_e
      replace J4 := J4.wr w20 (Ne.symm ne_e_j) (Ne.symm ne_e_b)
      replace V_e : Arv Z h20 e ke .byte (32 : Int32) ((([(91 : Int32), (34 : Int32)] ++ Ec x ++ Ec y) ++ [(34 : Int32), (44 : Int32), (110 : Int32), (117 : Int32), (108 : Int32)]).map Value.int) (.int 0) := by rw [List.append_assoc] at V_new; exact V_new
      clear V_new
      refine Go.st (fun _ => XS.aload W20.here W20.ex rfl (hb hby at_216) rfl rfl) ?_
      refine Go.st (fun _ => XS.iload W20.here W20.ex rfl (hb hby at_218) rfl) ?_
      refine Go.st (fun _ => XS.iinc W20.here W20.ex rfl (hb hby at_220) rfl (l' := #[.val (.int c0), .val (.int c1), .val (.int fl), .val (.int x), .val (.int y), .val (.int em), .val (.int wn), .val (.ref ca), .val (.ref q), .val (.ref e), .val (.int ((Int32.ofNat (([(91 : Int32), (34 : Int32)] ++ Ec x ++ Ec y).length + 5)) + (1 : Int32))), .val (.ref j), .unset, .unset, .unset]) rfl) ?_
      show Go _ _ _ _ (T20.setTop (mkF m_ 223 #[.val (.int c0), .val (.int c1), .val (.int fl), .val (.int x), .val (.int y), .val (.int em), .val (.int wn), .val (.ref ca), .val (.ref q), .val (.ref e), .val (.int ((Int32.ofNat (([(91 : Int32), (34 : Int32)] ++ Ec x ++ Ec y).length + 5)) + (1 : Int32))), .val (.ref j), .unset, .unset, .unset] [(.int (Int32.ofNat (([(91 : Int32), (34 : Int32)] ++ Ec x ++ Ec y).length + 5))), (.ref e)]))
      rw [show ((Int32.ofNat (([(91 : Int32), (34 : Int32)] ++ Ec x ++ Ec y).length + 5)) + (1 : Int32)) = (Int32.ofNat (([(91 : Int32), (34 : Int32)] ++ Ec x ++ Ec y).length + 6)) from ofn_add _ 1]
      refine Go.st (fun _ => XS.bipush W20.here W20.ex rfl (hb hby at_223)) ?_
      show Go _ _ _ _ (T20.setTop (mkF m_ 225 #[.val (.int c0), .val (.int c1), .val (.int fl), .val (.int x), .val (.int y), .val (.int em), .val (.int wn), .val (.ref ca), .val (.ref q), .val (.ref e), .val (.int (Int32.ofNat (([(91 : Int32), (34 : Int32)] ++ Ec x ++ Ec y).length + 6))), .val (.ref j), .unset, .unset, .unset] [(.int (108 : Int32)), (.int (Int32.ofNat (([(91 : Int32), (34 : Int32)] ++ Ec x ++ Ec y).length + 5))), (.ref e)]))
      refine W20.stA V_e (x := (108 : Int32)) (n1 := (([(91 : Int32), (34 : Int32)] ++ Ec x ++ Ec y).length + 5)) (ln rfl) (rmE (k := 5) rfl (by omega)) (List.mem_of_getElem? (i := 0) rfl) g_e (hb hby at_225) ?_
      intro T21 h21 L21 sl21 vv21 W21 w21 V_new
      replace E_j := E_j.wr w21
      replace S_q := S_q.wr w21 ne_q_e ne_t_e
      replace J4 := J4.wr w21 (Ne.symm ne_e_j) (Ne.symm ne_e_b)
      replace V_e : Arv Z h21 e ke .byte (32 : Int32) ((([(91 : Int32), (34 : Int32)] ++ Ec x ++ Ec y) ++ [(34 : Int32), (44 : Int32), (110 : Int32), (117 : Int32), (108 : Int32), (108 : Int32)]).map Value.int) (.int 0) := by rw [List.append_assoc] at V_new; exact V_new
      clear V_new
      refine Go.st (fun _ => XS.aload W21.here W21.ex rfl (hb hby at_226) rfl rfl) ?_
      refine Go.st (fun _ => XS.iload W21.here W21.ex rfl (hb hby at_228) rfl) ?_
      refine Go.st (fun _ => XS.iinc W21.here W21.ex rfl (hb hby at_230) rfl (l' := #[.val (.int c0), .val (.int c1), .val (.int fl), .val (.int x), .val (.int y), .val (.int em), .val (.int wn), .val (.ref ca), .val (.ref q), .val (.ref e), .val (.int ((Int32.ofNat (([(91 : Int32), (34 : Int32)] ++ Ec x ++ Ec y).length + 6)) + (1 : Int32))), .val (.ref j), .unset, .unset, .unset]) rfl) ?_
      show Go _ _ _ _ (T21.setTop (mkF m_ 233 #[.val (.int c0), .val (.int c1), .val (.int fl), .val (.int x), .val (.int y), .val (.int em), .val (.int wn), .val (.ref ca), .val (.ref q), .val (.ref e), .val (.int ((Int32.ofNat (([(91 : Int32), (34 : Int32)] ++ Ec x ++ Ec y).length + 6)) + (1 : Int32))), .val (.ref j), .unset, .unset, .unset] [(.int (Int32.ofNat (([(91 : Int32), (34 : Int32)] ++ Ec x ++ Ec y).length + 6))), (.ref e)]))
      rw [show ((Int32.ofNat (([(91 : Int32), (34 : Int32)] ++ Ec x ++ Ec y).length + 6)) + (1 : Int32)) = (Int32.ofNat (([(91 : Int32), (34 : Int32)] ++ Ec x ++ Ec y).length + 7)) from ofn_add _ 1]
      refine Go.st (fun _ => XS.bipush W21.here W21.ex rfl (hb hby at_233)) ?_
      show Go _ _ _ _ (T21.setTop (mkF m_ 235 #[.val (.int c0), .val (.int c1), .val (.int fl), .val (.int x), .val (.int y), .val (.int em), .val (.int wn), .val (.ref ca), .val (.ref q), .val (.ref e), .val (.int (Int32.ofNat (([(91 : Int32), (34 : Int32)] ++ Ec x ++ Ec y).length + 7))), .val (.ref j), .unset, .unset, .unset] [(.int (93 : Int32)), (.int (Int32.ofNat (([(91 : Int32), (34 : Int32)] ++ Ec x ++ Ec y).length + 6))), (.ref e)]))
      refine W21.stA V_e (x := (93 : Int32)) (n1 := (([(91 : Int32), (34 : Int32)] ++ Ec x ++ Ec y).length + 6)) (ln rfl) (rmE (k := 6) rfl (by omega)) (List.mem_of_getElem? (i := 0) rfl) g_e (hb hby at_235) ?_
      intro T22 h22 L22 sl22 vv22 W22 w22 V_new
      replace E_j := E_j.wr w22
      replace S_q := S_q.wr w22 ne_q_e ne_t_e
      replace J4 := J4.wr w22 (Ne.symm ne_e_j) (Ne.symm ne_e_b)
      replace V_e : Arv Z h22 e ke .byte (32 : Int32) ((([(91 : Int32), (34 : Int32)] ++ Ec x ++ Ec y) ++ [(34 : Int32), (44 : Int32), (110 : Int32), (117 : Int32), (108 : Int32), (108 : Int32), (93 : Int32)]).map Value.int) (.int 0) := by rw [List.append_assoc] at V_new; exact V_new
      clear V_new
      show Go _ _ _ _ (T22.setTop (mkF m_ 236 #[.val (.int c0), .val (.int c1), .val (.int fl), .val (.int x), .val (.int y), .val (.int em), .val (.int wn), .val (.ref ca), .val (.ref q), .val (.ref e), .val (.int (Int32.ofNat (([(91 : Int32), (34 : Int32)] ++ Ec x ++ Ec y).length + 7))), .val (.ref j), .unset, .unset, .unset] []))
      rw [show (Int32.ofNat (([(91 : Int32), (34 : Int32)] ++ Ec x ++ Ec y).length + 7)) = (Int32.ofNat (([(91 : Int32), (34 : Int32)] ++ Ec x ++ Ec y) ++ [(34 : Int32), (44 : Int32), (110 : Int32), (117 : Int32), (108 : Int32), (108 : Int32), (93 : Int32)]).length) from lnI rfl]
      show Go _ _ _ _ (T22.setTop (mkF m_ 236 #[.val (.int c0), .val (.int c1), .val (.int fl), .val (.int x), .val (.int y), .val (.int em), .val (.int wn), .val (.ref ca), .val (.ref q), .val (.ref e), .val (.int (Int32.ofNat (([(91 : Int32), (34 : Int32)] ++ Ec x ++ Ec y) ++ [(34 : Int32), (44 : Int32), (110 : Int32), (117 : Int32), (108 : Int32), (108 : Int32), (93 : Int32)]).length)), .val (.ref j), .unset, .unset, .unset] []))
      have hq : (([] ++ [(91 : Int32)] ++ [34] ++ Ec x ++ Ec y ++ [34]) ++ [(44 : Int32), (110 : Int32), (117 : Int32), (108 : Int32), (108 : Int32)]) ++ [(93 : Int32)] = (([(91 : Int32), (34 : Int32)] ++ Ec x ++ Ec y) ++ [(34 : Int32), (44 : Int32), (110 : Int32), (117 : Int32), (108 : Int32), (108 : Int32), (93 : Int32)]) := by simp [List.append_assoc]
      exact law_z cx c0 c1 fl x y em wn ca q e j b (([(91 : Int32), (34 : Int32)] ++ Ec x ++ Ec y) ++ [(34 : Int32), (44 : Int32), (110 : Int32), (117 : Int32), (108 : Int32), (108 : Int32), (93 : Int32)]) 0 (W22.meet (by decide) (by decide)) hby hml hret hnm (J4.of hq) V_e (hlA (k := 7) rfl (by omega)) (Or.inr ⟨34 :: (Ec x ++ (Ec y ++ [(34 : Int32), (44 : Int32), (110 : Int32), (117 : Int32), (108 : Int32), (108 : Int32), (93 : Int32)])), by simp [List.append_assoc]⟩)
  · refine Go.st (fun _ => XS.ifYes W0.here W0.ex rfl (pc0 := 86) (pc' := 236) rfl (hb hby at_86) rfl ((if0 _ _).trans (feq (zem : ¬ (em = (0 : Int32)))).2) (by decide) (by decide)) ?_
    show Go _ _ _ _ (T0.setTop (mkF m_ 236 #[.val (.int c0), .val (.int c1), .val (.int fl), .val (.int x), .val (.int y), .val (.int em), .val (.int wn), .val (.ref ca), .val (.ref q), .val (.ref e), .val (.int (0 : Int32)), .val (.ref j), .unset, .unset, .unset] []))
    exact law_z cx c0 c1 fl x y em wn ca q e j b [] 1 (W0.meet (by decide) (by decide)) hby hml hret hnm J V_e (by decide) (Or.inl rfl)
theorem law_p {l : Launch} {Z a0 n0 g1 gf hxa khx} (cx : Ctx Z a0 n0 g1 gf hxa khx) {p_ : Program} {e_ : Env} {s_ : State} {m_ : MethodId} {ar_ : Array Value} {bl_ : List Frame} {mt_ : Method} {c_ : Code} {vm0 : Vm} {T0 : State} {h : Heap} {L0 : List Loc} (c0 c1 fl x y em wn : Int32) (W0 : Wk p_ l e_ room_1 s_ m_ ar_ bl_ mt_ c_ Z a0 consts_1 n0 "com/example/dijtabla/dijtabla/JsonTextBytesPinLaw" vm0 T0 h L0 0 0 []) (hby : c_.code = code) (hml : c_.maxLocals = 15) (hret : mt_.sig.returnType = (some .boolean)) (hnm : mt_.name = "law") (hX : R16 x) (hY : R16 y) :
    Go p_ e_ bl_ (Pst Z consts_1 n0 s_ room_1.cells room_1.slots (fun v _ _ => v = some (.int 1))) (T0.setTop (mkF m_ 39 #[.val (.int c0), .val (.int c1), .val (.int fl), .val (.int x), .val (.int y), .val (.int em), .val (.int wn), .unset, .unset, .unset, .unset, .unset, .unset, .unset, .unset] [])) := by
  refine Go.st (fun _ => XS.iconst W0.here W0.ex rfl (hb hby at_39)) ?_
  show Go _ _ _ _ (T0.setTop (mkF m_ 40 #[.val (.int c0), .val (.int c1), .val (.int fl), .val (.int x), .val (.int y), .val (.int em), .val (.int wn), .unset, .unset, .unset, .unset, .unset, .unset, .unset, .unset] [(.int (2 : Int32))]))
  refine W0.newP (ty := .char) (dv := .int 0) rfl rfl (cx.w 1 rfl) (hb hby at_40) (z := (2 : Int32)) (by decide) (cap := 2) (by decide) (by decide) (k' := 1) (n' := 2) rfl rfl (by decide) (by decide) ?_
  intro T1 h1 b1 kA_b1 hb1 g_b1 W1 E1 V_b1
  replace V_b1 : Arv Z h1 b1 kA_b1 .char (2 : Int32) [(.int 0), (.int 0)] (.int 0) := V_b1
  refine Go.st (fun _ => XS.astore W1.here W1.ex rfl (hb hby at_42) rfl rfl (l' := #[.val (.int c0), .val (.int c1), .val (.int fl), .val (.int x), .val (.int y), .val (.int em), .val (.int wn), .val (.ref b1), .unset, .unset, .unset, .unset, .unset, .unset, .unset]) rfl) ?_
  refine Go.st (fun _ => XS.aload W1.here W1.ex rfl (hb hby at_44) rfl rfl) ?_
  refine Go.st (fun _ => XS.iconst W1.here W1.ex rfl (hb hby at_46)) ?_
  show Go _ _ _ _ (T1.setTop (mkF m_ 47 #[.val (.int c0), .val (.int c1), .val (.int fl), .val (.int x), .val (.int y), .val (.int em), .val (.int wn), .val (.ref b1), .unset, .unset, .unset, .unset, .unset, .unset, .unset] [(.int (0 : Int32)), (.ref b1)]))
  refine Go.st (fun _ => XS.iloadN W1.here W1.ex rfl (hb hby at_47) rfl) ?_
  show Go _ _ _ _ (T1.setTop (mkF m_ 48 #[.val (.int c0), .val (.int c1), .val (.int fl), .val (.int x), .val (.int y), .val (.int em), .val (.int wn), .val (.ref b1), .unset, .unset, .unset, .unset, .unset, .unset, .unset] [(.int x), (.int (0 : Int32)), (.ref b1)]))
  refine W1.stC V_b1 (j := (0 : Int32)) (x := x) ⟨by decide, by decide⟩ 0 rfl (Nat.le_of_ble_eq_true rfl) (List.mem_of_getElem? (i := 0) rfl) g_b1 (hb hby at_48) ?_
  intro T2 h2 L2 W2 w2 V_new
  rw [nar_char16 hX] at V_new
  replace V_b1 : Arv Z h2 b1 kA_b1 .char (2 : Int32) [(.int x), (.int 0)] (.int 0) := V_new
  clear V_new
  refine Go.st (fun _ => XS.aload W2.here W2.ex rfl (hb hby at_49) rfl rfl) ?_
  refine Go.st (fun _ => XS.iconst W2.here W2.ex rfl (hb hby at_51)) ?_
  refine Go.st (fun _ => XS.iload W2.here W2.ex rfl (hb hby at_52) rfl) ?_
  show Go _ _ _ _ (T2.setTop (mkF m_ 54 #[.val (.int c0), .val (.int c1), .val (.int fl), .val (.int x), .val (.int y), .val (.int em), .val (.int wn), .val (.ref b1), .unset, .unset, .unset, .unset, .unset, .unset, .unset] [(.int y), (.int (1 : Int32)), (.ref b1)]))
  refine W2.stC V_b1 (j := (1 : Int32)) (x := y) ⟨by decide, by decide⟩ 1 rfl (Nat.le_of_ble_eq_true rfl) (List.mem_of_getElem? (i := 0) rfl) g_b1 (hb hby at_54) ?_
  intro T3 h3 L3 W3 w3 V_new
  rw [nar_char16 hY] at V_new
  replace V_b1 : Arv Z h3 b1 kA_b1 .char (2 : Int32) [(.int x), (.int y)] (.int 0) := V_new
  clear V_new
  show Go _ _ _ _ (T3.setTop (mkF m_ 55 #[.val (.int c0), .val (.int c1), .val (.int fl), .val (.int x), .val (.int y), .val (.int em), .val (.int wn), .val (.ref b1), .unset, .unset, .unset, .unset, .unset, .unset, .unset] []))
  refine W3.newO (cx.w 2 rfl) (cx.w 3 rfl) (cx.w 4 rfl) (hb hby at_55) (k' := 2) (n' := 6) rfl rfl (by decide) (by decide) ?_
  intro T4 h4 b4 hb4 g_b4 W4 E4 E_b4 D4
  have ne_b1_b4 : b1 ≠ b4 := Nat.ne_of_lt (Nat.lt_of_lt_of_le V_b1.lt (Nat.le_of_eq hb4.symm))
  replace V_b1 := V_b1.ext E4
  have F_coder_b4 : Fld Z h4 b4 "java/lang/String" "coder" "B" (.int (0 : Int32)) := D4 (Or.inr (cx.w 28 rfl)) (ty := .byte) (by decide)
  have F_value_b4 : Fld Z h4 b4 "java/lang/String" "value" "[B" .null := D4 (Or.inr (cx.w 30 rfl)) (ty := (.array .byte)) (by decide)
  refine Go.st (fun _ => XS.dup W4.here W4.ex rfl (hb hby at_58) rfl rfl) ?_
  refine Go.st (fun _ => XS.aload W4.here W4.ex rfl (hb hby at_59) rfl rfl) ?_
  show Go _ _ _ _ (T4.setTop (mkF m_ 61 #[.val (.int c0), .val (.int c1), .val (.int fl), .val (.int x), .val (.int y), .val (.int em), .val (.int wn), .val (.ref b1), .unset, .unset, .unset, .unset, .unset, .unset, .unset] [(.ref b1), (.ref b4), (.ref b4)]))
  refine W4.callI (y := (⟨"java/lang/String", "<init>", "([C)V"⟩ : MethodName)) rfl (cx.w 5 rfl) (cx.w 6 rfl) (cx.w 4 rfl) (cx.w 7 rfl) (by decide) (ct_i1 cx W4.old b4 b1 x y E_b4 F_value_b4 F_coder_b4 g_b4 V_b1 hX hY) (allS (List.mem_of_getElem? (i := 0) rfl) all0) (by decide) (Wd := 1) (by decide) (k' := 4) (n' := 12) rfl rfl (by decide) (by decide) (by rw [hml]; rfl) (a := b4) (argsL := [(.ref b1)]) (rest := [(.ref b4)]) rfl (lenOf pd28 rfl) rfl (Nat.le_of_eq rfl) (hb hby at_61) ?_
  intro v5 vm5 T5 h5 L5 W5 q5
  obtain ⟨rfl, t, hz_t, K1, S_q⟩ := q5
  have ne_b1_t : b1 ≠ t := Nat.ne_of_lt (Nat.lt_of_lt_of_le V_b1.lt hz_t)
  have ne_b4_t : b4 ≠ t := Nat.ne_of_lt (Nat.lt_of_lt_of_le E_b4.lt hz_t)
  replace V_b1 := V_b1.keep K1 (ninS ne_b1_b4 nin0)
  replace E_b4 := E_b4.keep K1
  refine Go.st (fun _ => XS.astore W5.here W5.ex rfl (hb hby at_64) rfl rfl (l' := #[.val (.int c0), .val (.int c1), .val (.int fl), .val (.int x), .val (.int y), .val (.int em), .val (.int wn), .val (.ref b1), .val (.ref b4), .unset, .unset, .unset, .unset, .unset, .unset]) rfl) ?_
  refine Go.st (fun _ => XS.bipush W5.here W5.ex rfl (hb hby at_66)) ?_
  show Go _ _ _ _ (T5.setTop (mkF m_ 68 #[.val (.int c0), .val (.int c1), .val (.int fl), .val (.int x), .val (.int y), .val (.int em), .val (.int wn), .val (.ref b1), .val (.ref b4), .unset, .unset, .unset, .unset, .unset, .unset] [(.int (32 : Int32))]))
  refine W5.newP (ty := .byte) (dv := .int 0) rfl rfl (cx.w 20 rfl) (hb hby at_68) (z := (32 : Int32)) (by decide) (cap := 32) (by decide) (by decide) (k' := 5) (n' := 44) rfl rfl (by decide) (by decide) ?_
  intro T6 h6 b6 kA_b6 hb6 g_b6 W6 E6 V_b6
  have ne_b1_b6 : b1 ≠ b6 := Nat.ne_of_lt (Nat.lt_of_lt_of_le V_b1.lt (Nat.le_of_eq hb6.symm))
  have ne_b4_b6 : b4 ≠ b6 := Nat.ne_of_lt (Nat.lt_of_lt_of_le E_b4.lt (Nat.le_of_eq hb6.symm))
  have ne_t_b6 : t ≠ b6 := Nat.ne_of_lt (Nat.lt_of_lt_of_le S_q.ltt (Nat.le_of_eq hb6.symm))
  replace V_b1 := V_b1.ext E6
  replace E_b4 := E_b4.ext E6
  replace S_q := S_q.ext E6
  replace V_b6 : Arv Z h6 b6 kA_b6 .byte (32 : Int32) [(.int 0), (.int 0), (.int 0), (.int 0), (.int 0), (.int 0), (.int 0), (.int 0), (.int 0), (.int 0), (.int 0), (.int 0), (.int 0), (.int 0), (.int 0), (.int 0), (.int 0), (.int 0), (.int 0), (.int 0), (.int 0), (.int 0), (.int 0), (.int 0), (.int 0), (.int 0), (.int 0), (.int 0), (.int 0), (.int 0), (.int 0), (.int 0)] (.int 0) := V_b6
  show Go _ _ _ _ (T6.setTop (mkF m_ 70 #[.val (.int c0), .val (.int c1), .val (.int fl), .val (.int x), .val (.int y), .val (.int em), .val (.int wn), .val (.ref b1), .val (.ref b4), .unset, .unset, .unset, .unset, .unset, .unset] [(.ref b6)]))
  replace V_b6 : Arv Z h6 b6 kA_b6 .byte 32 (([] : List Int32).map Value.int) (.int 0) := V_b6.pad fun i => (pad_rep [] _ 32 i).symm
  refine Go.st (fun _ => XS.astore W6.here W6.ex rfl (hb hby at_70) rfl rfl (l' := #[.val (.int c0), .val (.int c1), .val (.int fl), .val (.int x), .val (.int y), .val (.int em), .val (.int wn), .val (.ref b1), .val (.ref b4), .val (.ref b6), .unset, .unset, .unset, .unset, .unset]) rfl) ?_
  refine Go.st (fun _ => XS.iconst W6.here W6.ex rfl (hb hby at_72)) ?_
  show Go _ _ _ _ (T6.setTop (mkF m_ 73 #[.val (.int c0), .val (.int c1), .val (.int fl), .val (.int x), .val (.int y), .val (.int em), .val (.int wn), .val (.ref b1), .val (.ref b4), .val (.ref b6), .unset, .unset, .unset, .unset, .unset] [(.int (0 : Int32))]))
  refine Go.st (fun _ => XS.istore W6.here W6.ex rfl (hb hby at_73) rfl (l' := #[.val (.int c0), .val (.int c1), .val (.int fl), .val (.int x), .val (.int y), .val (.int em), .val (.int wn), .val (.ref b1), .val (.ref b4), .val (.ref b6), .val (.int (0 : Int32)), .unset, .unset, .unset, .unset]) rfl) ?_
  show Go _ _ _ _ (T6.setTop (mkF m_ 75 #[.val (.int c0), .val (.int c1), .val (.int fl), .val (.int x), .val (.int y), .val (.int em), .val (.int wn), .val (.ref b1), .val (.ref b4), .val (.ref b6), .val (.int (0 : Int32)), .unset, .unset, .unset, .unset] []))
  refine W6.newO (cx.w 31 rfl) (cx.w 32 rfl) (cx.w 33 rfl) (hb hby at_75) (k' := 6) (n' := 47) rfl rfl (by decide) (by decide) ?_
  intro T7 h7 b7 hb7 g_b7 W7 E7 E_b7 D7
  have ne_b1_b7 : b1 ≠ b7 := Nat.ne_of_lt (Nat.lt_of_lt_of_le V_b1.lt (Nat.le_of_eq hb7.symm))
  have ne_b4_b7 : b4 ≠ b7 := Nat.ne_of_lt (Nat.lt_of_lt_of_le E_b4.lt (Nat.le_of_eq hb7.symm))
  have ne_t_b7 : t ≠ b7 := Nat.ne_of_lt (Nat.lt_of_lt_of_le S_q.ltt (Nat.le_of_eq hb7.symm))
  have ne_b6_b7 : b6 ≠ b7 := Nat.ne_of_lt (Nat.lt_of_lt_of_le V_b6.lt (Nat.le_of_eq hb7.symm))
  replace V_b1 := V_b1.ext E7
  replace E_b4 := E_b4.ext E7
  replace S_q := S_q.ext E7
  replace V_b6 := V_b6.ext E7
  have F_bytes_b7 : Fld Z h7 b7 "com/example/dijtabla/dijtabla/JsonText" "bytes" "[B" .null := D7 (Or.inl (cx.w 39 rfl)) (ty := (.array .byte)) (by decide)
  have F_first_b7 : Fld Z h7 b7 "com/example/dijtabla/dijtabla/JsonText" "first" "Z" (.int (0 : Int32)) := D7 (Or.inl (cx.w 41 rfl)) (ty := .boolean) (by decide)
  have F_length_b7 : Fld Z h7 b7 "com/example/dijtabla/dijtabla/JsonText" "length" "I" (.int (0 : Int32)) := D7 (Or.inl (cx.w 48 rfl)) (ty := .int) (by decide)
  refine Go.st (fun _ => XS.dup W7.here W7.ex rfl (hb hby at_78) rfl rfl) ?_
  show Go _ _ _ _ (T7.setTop (mkF m_ 79 #[.val (.int c0), .val (.int c1), .val (.int fl), .val (.int x), .val (.int y), .val (.int em), .val (.int wn), .val (.ref b1), .val (.ref b4), .val (.ref b6), .val (.int (0 : Int32)), .unset, .unset, .unset, .unset] [(.ref b7), (.ref b7)]))
  refine W7.callI (y := (⟨"com/example/dijtabla/dijtabla/JsonText", "<init>", "()V"⟩ : MethodName)) rfl (cx.w 34 rfl) (cx.w 35 rfl) (cx.w 33 rfl) (cx.w 36 rfl) (by decide) (ct_ji cx W7.old b7 E_b7 F_bytes_b7 F_length_b7 F_first_b7 g_b7) (allS (List.mem_of_getElem? (i := 0) rfl) all0) (by decide) (Wd := 1) (by decide) (k' := 7) (n' := 4143) rfl rfl (by decide) (by decide) (by rw [hml]; rfl) (a := b7) (argsL := []) (rest := [(.ref b7)]) rfl (lenOf pd16 rfl) rfl (Nat.le_of_eq rfl) (hb hby at_79) ?_
  intro v8 vm8 T8 h8 L8 W8 q8
  obtain ⟨rfl, b, kb, hz_b, g_b, K2, J2, sf_b⟩ := q8
  have ne_b1_b : b1 ≠ b := Nat.ne_of_lt (Nat.lt_of_lt_of_le V_b1.lt hz_b)
  have ne_b4_b : b4 ≠ b := Nat.ne_of_lt (Nat.lt_of_lt_of_le E_b4.lt hz_b)
  have ne_t_b : t ≠ b := Nat.ne_of_lt (Nat.lt_of_lt_of_le S_q.ltt hz_b)
  have ne_b6_b : b6 ≠ b := Nat.ne_of_lt (Nat.lt_of_lt_of_le V_b6.lt hz_b)
  have ne_b7_b : b7 ≠ b := Nat.ne_of_lt (Nat.lt_of_lt_of_le E_b7.lt hz_b)
  replace V_b1 := V_b1.keep K2 (ninS ne_b1_b7 nin0)
  replace E_b4 := E_b4.keep K2
  replace S_q := S_q.keep K2 (ninS ne_b4_b7 nin0) (ninS ne_t_b7 nin0)
  replace V_b6 := V_b6.keep K2 (ninS ne_b6_b7 nin0)
  replace E_b7 := E_b7.keep K2
  show Go _ _ _ _ (T8.setTop (mkF m_ 82 #[.val (.int c0), .val (.int c1), .val (.int fl), .val (.int x), .val (.int y), .val (.int em), .val (.int wn), .val (.ref b1), .val (.ref b4), .val (.ref b6), .val (.int (0 : Int32)), .unset, .unset, .unset, .unset] [(.ref b7)]))
  have Wb9 := W8.cons sf_b J2.ltt
  refine Go.st (fun _ => XS.astore Wb9.here Wb9.ex rfl (hb hby at_82) rfl rfl (l' := #[.val (.int c0), .val (.int c1), .val (.int fl), .val (.int x), .val (.int y), .val (.int em), .val (.int wn), .val (.ref b1), .val (.ref b4), .val (.ref b6), .val (.int (0 : Int32)), .val (.ref b7), .unset, .unset, .unset]) rfl) ?_
  show Go _ _ _ _ (T8.setTop (mkF m_ 84 #[.val (.int c0), .val (.int c1), .val (.int fl), .val (.int x), .val (.int y), .val (.int em), .val (.int wn), .val (.ref b1), .val (.ref b4), .val (.ref b6), .val (.int (0 : Int32)), .val (.ref b7), .unset, .unset, .unset] []))
  exact law_s cx c0 c1 fl x y em wn b1 b4 t b6 b7 b ((Wb9.more (by decide) (by decide)).sub (allS (List.mem_of_getElem? (i := 2) rfl) (allS (List.mem_of_getElem? (i := 1) rfl) (allS (List.mem_of_getElem? (i := 0) rfl) all0)))) hby hml hret hnm J2 S_q V_b6 g_b7 g_b g_b6 ne_b7_b ne_b6_b ne_t_b ne_b4_b ne_t_b6 ne_b4_b6 hX hY
theorem ct_law {l : Launch} {Z a0 n0 g1 gf hxa khx} (cx : Ctx Z a0 n0 g1 gf hxa khx) {h : Heap} (O : Old Z n0 h) (c0 c1 fl : Int32)  :
    Ct l Z consts_1 n0 tables_1 x code maxLocals ret room_1 #[(.int c0), (.int c1), (.int fl)] [] h (fun v _ _ => v = some (.int 1)) := by
  refine Ct.intro (plainFor_of_name pn7) O cx.ew ?_
  intro p_ e_ s_ m_ bl_ mt_ c_ T0 W0 hby hml hret hnm
  refine Go.st (fun t_ k_ => castTop (g' := mkF m_ 0 #[.val (.int c0), .val (.int c1), .val (.int fl), .unset, .unset, .unset, .unset, .unset, .unset, .unset, .unset, .unset, .unset, .unset, .unset] []) (by first | (simp [entryFrame, mkF, argsToLocals, Value.category, maxLocals]; done) | rfl) k_) ?_
  refine Go.st (fun _ => XS.iloadN W0.here W0.ex rfl (hb hby at_0) rfl) ?_
  show Go _ _ _ _ (T0.setTop (mkF m_ 1 #[.val (.int c0), .val (.int c1), .val (.int fl), .unset, .unset, .unset, .unset, .unset, .unset, .unset, .unset, .unset, .unset, .unset, .unset] [(.int c0)]))
  refine Go.st (fun _ => W0.X.ldcInt W0.ex W0.ho (mvT W0.hZ (cx.w 0 rfl)) (g := (mkF m_ 1 #[.val (.int c0), .val (.int c1), .val (.int fl), .unset, .unset, .unset, .unset, .unset, .unset, .unset, .unset, .unset, .unset, .unset, .unset] [(.int c0)])) rfl (hb hby at_1) _) ?_
  refine Go.st (fun _ => XS.iand W0.here W0.ex rfl (hb hby at_3) rfl) ?_
  refine Go.st (fun _ => XS.i2c W0.here W0.ex rfl (hb hby at_4) rfl) ?_
  show Go _ _ _ _ (T0.setTop (mkF m_ 5 #[.val (.int c0), .val (.int c1), .val (.int fl), .unset, .unset, .unset, .unset, .unset, .unset, .unset, .unset, .unset, .unset, .unset, .unset] [(.int ((c0 &&& (65535 : Int32)).toUInt32.toUInt16.toUInt32.toInt32))]))
  have hX : R16 ((c0 &&& (65535 : Int32)).toUInt32.toUInt16.toUInt32.toInt32) := ch16 _
  generalize ((c0 &&& (65535 : Int32)).toUInt32.toUInt16.toUInt32.toInt32) = x at hX ⊢
  refine Go.st (fun _ => XS.istoreN W0.here W0.ex rfl (hb hby at_5) rfl (l' := #[.val (.int c0), .val (.int c1), .val (.int fl), .val (.int x), .unset, .unset, .unset, .unset, .unset, .unset, .unset, .unset, .unset, .unset, .unset]) rfl) ?_
  refine Go.st (fun _ => XS.iloadN W0.here W0.ex rfl (hb hby at_6) rfl) ?_
  show Go _ _ _ _ (T0.setTop (mkF m_ 7 #[.val (.int c0), .val (.int c1), .val (.int fl), .val (.int x), .unset, .unset, .unset, .unset, .unset, .unset, .unset, .unset, .unset, .unset, .unset] [(.int c1)]))
  refine Go.st (fun _ => W0.X.ldcInt W0.ex W0.ho (mvT W0.hZ (cx.w 0 rfl)) (g := (mkF m_ 7 #[.val (.int c0), .val (.int c1), .val (.int fl), .val (.int x), .unset, .unset, .unset, .unset, .unset, .unset, .unset, .unset, .unset, .unset, .unset] [(.int c1)])) rfl (hb hby at_7) _) ?_
  refine Go.st (fun _ => XS.iand W0.here W0.ex rfl (hb hby at_9) rfl) ?_
  refine Go.st (fun _ => XS.i2c W0.here W0.ex rfl (hb hby at_10) rfl) ?_
  show Go _ _ _ _ (T0.setTop (mkF m_ 11 #[.val (.int c0), .val (.int c1), .val (.int fl), .val (.int x), .unset, .unset, .unset, .unset, .unset, .unset, .unset, .unset, .unset, .unset, .unset] [(.int ((c1 &&& (65535 : Int32)).toUInt32.toUInt16.toUInt32.toInt32))]))
  have hY : R16 ((c1 &&& (65535 : Int32)).toUInt32.toUInt16.toUInt32.toInt32) := ch16 _
  generalize ((c1 &&& (65535 : Int32)).toUInt32.toUInt16.toUInt32.toInt32) = y at hY ⊢
  refine Go.st (fun _ => XS.istore W0.here W0.ex rfl (hb hby at_11) rfl (l' := #[.val (.int c0), .val (.int c1), .val (.int fl), .val (.int x), .val (.int y), .unset, .unset, .unset, .unset, .unset, .unset, .unset, .unset, .unset, .unset]) rfl) ?_
  refine Go.st (fun _ => XS.iloadN W0.here W0.ex rfl (hb hby at_13) rfl) ?_
  show Go _ _ _ _ (T0.setTop (mkF m_ 14 #[.val (.int c0), .val (.int c1), .val (.int fl), .val (.int x), .val (.int y), .unset, .unset, .unset, .unset, .unset, .unset, .unset, .unset, .unset, .unset] [(.int fl)]))
  refine Go.st (fun _ => XS.iconst W0.here W0.ex rfl (hb hby at_14)) ?_
  refine Go.st (fun _ => XS.iand W0.here W0.ex rfl (hb hby at_15) rfl) ?_
  show Go _ _ _ _ (T0.setTop (mkF m_ 16 #[.val (.int c0), .val (.int c1), .val (.int fl), .val (.int x), .val (.int y), .unset, .unset, .unset, .unset, .unset, .unset, .unset, .unset, .unset, .unset] [(.int (fl &&& (2 : Int32)))]))
  by_cases f2 : (fl &&& (2 : Int32)) = (0 : Int32)
  · refine Go.st (fun _ => XS.ifYes W0.here W0.ex rfl (pc0 := 16) (pc' := 23) rfl (hb hby at_16) rfl ((if0 _ _).trans (teq (f2 : (fl &&& (2 : Int32)) = (0 : Int32))).1) (by decide) (by decide)) ?_
    refine Go.st (fun _ => XS.iconst W0.here W0.ex rfl (hb hby at_23)) ?_
    show Go _ _ _ _ (T0.setTop (mkF m_ 24 #[.val (.int c0), .val (.int c1), .val (.int fl), .val (.int x), .val (.int y), .unset, .unset, .unset, .unset, .unset, .unset, .unset, .unset, .unset, .unset] [(.int (0 : Int32))]))
    refine Go.st (fun _ => XS.istore W0.here W0.ex rfl (hb hby at_24) rfl (l' := #[.val (.int c0), .val (.int c1), .val (.int fl), .val (.int x), .val (.int y), .val (.int (0 : Int32)), .unset, .unset, .unset, .unset, .unset, .unset, .unset, .unset, .unset]) rfl) ?_
    refine Go.st (fun _ => XS.iloadN W0.here W0.ex rfl (hb hby at_26) rfl) ?_
    refine Go.st (fun _ => XS.iconst W0.here W0.ex rfl (hb hby at_27)) ?_
    show Go _ _ _ _ (T0.setTop (mkF m_ 28 #[.val (.int c0), .val (.int c1), .val (.int fl), .val (.int x), .val (.int y), .val (.int (0 : Int32)), .unset, .unset, .unset, .unset, .unset, .unset, .unset, .unset, .unset] [(.int (1 : Int32)), (.int fl)]))
    refine Go.st (fun _ => XS.iand W0.here W0.ex rfl (hb hby at_28) rfl) ?_
    show Go _ _ _ _ (T0.setTop (mkF m_ 29 #[.val (.int c0), .val (.int c1), .val (.int fl), .val (.int x), .val (.int y), .val (.int (0 : Int32)), .unset, .unset, .unset, .unset, .unset, .unset, .unset, .unset, .unset] [(.int (fl &&& (1 : Int32)))]))
    by_cases f1 : (fl &&& (1 : Int32)) = (0 : Int32)
    · refine Go.st (fun _ => XS.ifYes W0.here W0.ex rfl (pc0 := 29) (pc' := 36) rfl (hb hby at_29) rfl ((if0 _ _).trans (teq (f1 : (fl &&& (1 : Int32)) = (0 : Int32))).1) (by decide) (by decide)) ?_
      refine Go.st (fun _ => XS.iconst W0.here W0.ex rfl (hb hby at_36)) ?_
      show Go _ _ _ _ (T0.setTop (mkF m_ 37 #[.val (.int c0), .val (.int c1), .val (.int fl), .val (.int x), .val (.int y), .val (.int (0 : Int32)), .unset, .unset, .unset, .unset, .unset, .unset, .unset, .unset, .unset] [(.int (0 : Int32))]))
      refine Go.st (fun _ => XS.istore W0.here W0.ex rfl (hb hby at_37) rfl (l' := #[.val (.int c0), .val (.int c1), .val (.int fl), .val (.int x), .val (.int y), .val (.int (0 : Int32)), .val (.int (0 : Int32)), .unset, .unset, .unset, .unset, .unset, .unset, .unset, .unset]) rfl) ?_
      show Go _ _ _ _ (T0.setTop (mkF m_ 39 #[.val (.int c0), .val (.int c1), .val (.int fl), .val (.int x), .val (.int y), .val (.int (0 : Int32)), .val (.int (0 : Int32)), .unset, .unset, .unset, .unset, .unset, .unset, .unset, .unset] []))
      exact law_p cx c0 c1 fl x y (0 : Int32) (0 : Int32) (W0.meet (by decide) (by decide)) hby hml hret hnm hX hY
    · refine Go.st (fun _ => XS.ifNo W0.here W0.ex rfl (hb hby at_29) rfl ((if0 _ _).trans (feq (f1 : ¬ ((fl &&& (1 : Int32)) = (0 : Int32)))).1)) ?_
      refine Go.st (fun _ => XS.iconst W0.here W0.ex rfl (hb hby at_32)) ?_
      show Go _ _ _ _ (T0.setTop (mkF m_ 33 #[.val (.int c0), .val (.int c1), .val (.int fl), .val (.int x), .val (.int y), .val (.int (0 : Int32)), .unset, .unset, .unset, .unset, .unset, .unset, .unset, .unset, .unset] [(.int (1 : Int32))]))
      refine Go.st (fun _ => XS.goto W0.here W0.ex rfl (pc0 := 33) (pc' := 37) rfl (hb hby at_33) (by decide) (by decide)) ?_
      refine Go.st (fun _ => XS.istore W0.here W0.ex rfl (hb hby at_37) rfl (l' := #[.val (.int c0), .val (.int c1), .val (.int fl), .val (.int x), .val (.int y), .val (.int (0 : Int32)), .val (.int (1 : Int32)), .unset, .unset, .unset, .unset, .unset, .unset, .unset, .unset]) rfl) ?_
      show Go _ _ _ _ (T0.setTop (mkF m_ 39 #[.val (.int c0), .val (.int c1), .val (.int fl), .val (.int x), .val (.int y), .val (.int (0 : Int32)), .val (.int (1 : Int32)), .unset, .unset, .unset, .unset, .unset, .unset, .unset, .unset] []))
      exact law_p cx c0 c1 fl x y (0 : Int32) (1 : Int32) (W0.meet (by decide) (by decide)) hby hml hret hnm hX hY
  · refine Go.st (fun _ => XS.ifNo W0.here W0.ex rfl (hb hby at_16) rfl ((if0 _ _).trans (feq (f2 : ¬ ((fl &&& (2 : Int32)) = (0 : Int32)))).1)) ?_
    refine Go.st (fun _ => XS.iconst W0.here W0.ex rfl (hb hby at_19)) ?_
    show Go _ _ _ _ (T0.setTop (mkF m_ 20 #[.val (.int c0), .val (.int c1), .val (.int fl), .val (.int x), .val (.int y), .unset, .unset, .unset, .unset, .unset, .unset, .unset, .unset, .unset, .unset] [(.int (1 : Int32))]))
    refine Go.st (fun _ => XS.goto W0.here W0.ex rfl (pc0 := 20) (pc' := 24) rfl (hb hby at_20) (by decide) (by decide)) ?_
    refine Go.st (fun _ => XS.istore W0.here W0.ex rfl (hb hby at_24) rfl (l' := #[.val (.int c0), .val (.int c1), .val (.int fl), .val (.int x), .val (.int y), .val (.int (1 : Int32)), .unset, .unset, .unset, .unset, .unset, .unset, .unset, .unset, .unset]) rfl) ?_
    refine Go.st (fun _ => XS.iloadN W0.here W0.ex rfl (hb hby at_26) rfl) ?_
    show Go _ _ _ _ (T0.setTop (mkF m_ 27 #[.val (.int c0), .val (.int c1), .val (.int fl), .val (.int x), .val (.int y), .val (.int (1 : Int32)), .unset, .unset, .unset, .unset, .unset, .unset, .unset, .unset, .unset] [(.int fl)]))
    refine Go.st (fun _ => XS.iconst W0.here W0.ex rfl (hb hby at_27)) ?_
    refine Go.st (fun _ => XS.iand W0.here W0.ex rfl (hb hby at_28) rfl) ?_
    show Go _ _ _ _ (T0.setTop (mkF m_ 29 #[.val (.int c0), .val (.int c1), .val (.int fl), .val (.int x), .val (.int y), .val (.int (1 : Int32)), .unset, .unset, .unset, .unset, .unset, .unset, .unset, .unset, .unset] [(.int (fl &&& (1 : Int32)))]))
    by_cases f1 : (fl &&& (1 : Int32)) = (0 : Int32)
    · refine Go.st (fun _ => XS.ifYes W0.here W0.ex rfl (pc0 := 29) (pc' := 36) rfl (hb hby at_29) rfl ((if0 _ _).trans (teq (f1 : (fl &&& (1 : Int32)) = (0 : Int32))).1) (by decide) (by decide)) ?_
      refine Go.st (fun _ => XS.iconst W0.here W0.ex rfl (hb hby at_36)) ?_
      show Go _ _ _ _ (T0.setTop (mkF m_ 37 #[.val (.int c0), .val (.int c1), .val (.int fl), .val (.int x), .val (.int y), .val (.int (1 : Int32)), .unset, .unset, .unset, .unset, .unset, .unset, .unset, .unset, .unset] [(.int (0 : Int32))]))
      refine Go.st (fun _ => XS.istore W0.here W0.ex rfl (hb hby at_37) rfl (l' := #[.val (.int c0), .val (.int c1), .val (.int fl), .val (.int x), .val (.int y), .val (.int (1 : Int32)), .val (.int (0 : Int32)), .unset, .unset, .unset, .unset, .unset, .unset, .unset, .unset]) rfl) ?_
      show Go _ _ _ _ (T0.setTop (mkF m_ 39 #[.val (.int c0), .val (.int c1), .val (.int fl), .val (.int x), .val (.int y), .val (.int (1 : Int32)), .val (.int (0 : Int32)), .unset, .unset, .unset, .unset, .unset, .unset, .unset, .unset] []))
      exact law_p cx c0 c1 fl x y (1 : Int32) (0 : Int32) (W0.meet (by decide) (by decide)) hby hml hret hnm hX hY
    · refine Go.st (fun _ => XS.ifNo W0.here W0.ex rfl (hb hby at_29) rfl ((if0 _ _).trans (feq (f1 : ¬ ((fl &&& (1 : Int32)) = (0 : Int32)))).1)) ?_
      refine Go.st (fun _ => XS.iconst W0.here W0.ex rfl (hb hby at_32)) ?_
      show Go _ _ _ _ (T0.setTop (mkF m_ 33 #[.val (.int c0), .val (.int c1), .val (.int fl), .val (.int x), .val (.int y), .val (.int (1 : Int32)), .unset, .unset, .unset, .unset, .unset, .unset, .unset, .unset, .unset] [(.int (1 : Int32))]))
      refine Go.st (fun _ => XS.goto W0.here W0.ex rfl (pc0 := 33) (pc' := 37) rfl (hb hby at_33) (by decide) (by decide)) ?_
      refine Go.st (fun _ => XS.istore W0.here W0.ex rfl (hb hby at_37) rfl (l' := #[.val (.int c0), .val (.int c1), .val (.int fl), .val (.int x), .val (.int y), .val (.int (1 : Int32)), .val (.int (1 : Int32)), .unset, .unset, .unset, .unset, .unset, .unset, .unset, .unset]) rfl) ?_
      show Go _ _ _ _ (T0.setTop (mkF m_ 39 #[.val (.int c0), .val (.int c1), .val (.int fl), .val (.int x), .val (.int y), .val (.int (1 : Int32)), .val (.int (1 : Int32)), .unset, .unset, .unset, .unset, .unset, .unset, .unset, .unset] []))
      exact law_p cx c0 c1 fl x y (1 : Int32) (1 : Int32) (W0.meet (by decide) (by decide)) hby hml hret hnm hX hY
set_option maxRecDepth 65536 in
set_option maxHeartbeats 40000000 in
theorem comes_1 {Post : Tables → Env → Array Value → State → Outcome → State → Prop} (hpost : ∀ tb e args s v u, (limb_1_1.after args s (.returned v) u = true ∧ limb_1_2.after args s (.returned v) u = true ∧ True) → FramedW s (.returned v) u (Jvm.fieldLocs frame_1_writes args s ++ Jvm.arrayLocs frame_1_arrays args s ++ Jvm.staticLocs frame_1_statics s) 32 10496 → Post tb e args s (.returned v) u) :
    ArmFor flags0 classFile x code maxLocals ret World_1 tables_1 room_1 Calls_1 rest_1 Pre_1 Post := by
  intro l hfl _ _ p e ha hc hk s m args below hf hA hF happ hP
  obtain ⟨hcalls, hrest, hpre⟩ := hP
  obtain ⟨-, -, -, hnamed, -, -, -, hat⟩ := (Spec.applies_iff hf).mp happ
  obtain ⟨hg, hn⟩ := and_e (Cond.before_iff.mp (show (Jvm.Cond.and given_1 narrow_1).before args s = true from hpre))
  obtain ⟨c0, r0⟩ := and_e hg
  obtain ⟨c1, r1⟩ := and_e r0
  obtain ⟨c2, r2⟩ := and_e r1
  obtain ⟨w0, w1, w2, rfl⟩ : ∃ w0 w1 w2 : Value, args = #[w0, w1, w2] := by
    have hs : args.size = 3 := by simpa [Cond.value, given_1] using c0
    obtain ⟨L⟩ := args
    match L, hs with
    | [w0, w1, w2], _ => exact ⟨w0, w1, w2, rfl⟩
  have hw := fun d (hd : d ∈ tables_1) => atoms_spec (ws := Jvm.Cond.code x code maxLocals ret :: tables_1) hat d (List.mem_cons_of_mem _ hd)
  obtain ⟨hsets, hown0⟩ := atoms_of _ (rest_1_c_eq ▸ (show rest_1_c.before _ s = true from hrest))
  have hr0 := Cond.before_iff.mp hown0
  have hfit : Fit s := fun {y c} hc i hi => by
    obtain ⟨ha, rfl⟩ := Array.getElem?_eq_some_iff.mp hc
    have q := List.all_eq_true.mp ((Array.all_eq_true_iff_forall_mem.mp hF) _ (Array.getElem_mem ha)) i (List.mem_range.mpr hi)
    simpa [Array.getElem?_eq_getElem hi] using q
  obtain ⟨i0, ei0⟩ := is_v c1
  obtain rfl : w0 = (.int i0) := Option.some.inj ei0
  obtain ⟨i1, ei1⟩ := is_v c2
  obtain rfl : w1 = (.int i1) := Option.some.inj ei1
  obtain ⟨i2, ei2⟩ := is_v r2
  obtain rfl : w2 = (.int i2) := Option.some.inj ei2
  have nz := not_v (Cond.before_iff.mp (hsets _ (List.mem_of_getElem? (i := 2) rfl)))
  obtain ⟨g1, eg1⟩ := is_v (Cond.before_iff.mp (hsets _ (List.mem_of_getElem? (i := 1) rfl)))
  have S1 : Sta s s.heap "java/lang/String" "COMPACT_STRINGS" "Z" (.int g1) := Sta.start eg1 (Or.inl (hsets _ (List.mem_of_getElem? (i := 0) rfl)))
  have hg1 : ¬ (g1 = (0 : Int32)) := gotF (Cond.eq_ints eg1 (Term.int_eval (0))) nz
  obtain ⟨gf, egf, rgf⟩ := isR_v (Cond.before_iff.mp (hsets _ (List.mem_of_getElem? (i := 8) rfl)))
  have S2 : Sta s s.heap "jdk/internal/util/Preconditions" "SIOOBE_FORMATTER" "Ljava/util/function/BiFunction;" gf := Sta.start egf (Or.inl (hsets _ (List.mem_of_getElem? (i := 7) rfl)))
  have hew : EW s #[Value.int i0, Value.int i1, Value.int i2] consts_1 := (EW.cons (hw _ (List.mem_of_getElem? (i := 165) rfl)) (by decide) (EW.cons (hw _ (List.mem_of_getElem? (i := 197) rfl)) (by decide) EW.nil))
  have hcw : Jvm.Lit.compactW.before #[Value.int i0, Value.int i1, Value.int i2] s = true := (hsets _ (List.mem_of_getElem? (i := 2) rfl))
  have hcv : CHv s consts_1 s.vm s.heap := CHv.start hew (fun p hp => hcalls.1 p hp) hcw (hw _ (List.mem_of_getElem? (i := 20) rfl)) (hw _ (List.mem_of_getElem? (i := 3) rfl))
  have Sas : Sta s s.heap "java/lang/StringUTF16" "$assertionsDisabled" "Z" (.int 1) := Sta.start (eqv_i (Term.int_eval 1) (Cond.before_iff.mp (hsets _ (List.mem_of_getElem? (i := 12) rfl)))) (Or.inl (hsets _ (List.mem_of_getElem? (i := 11) rfl)))
  have Shi : Sta s s.heap "java/lang/StringUTF16" "HI_BYTE_SHIFT" "I" (.int 0) := Sta.start (eqv_i (Term.int_eval 0) (Cond.before_iff.mp (hsets _ (List.mem_of_getElem? (i := 15) rfl)))) (Or.inl (hsets _ (List.mem_of_getElem? (i := 14) rfl)))
  have Slo : Sta s s.heap "java/lang/StringUTF16" "LO_BYTE_SHIFT" "I" (.int 8) := Sta.start (eqv_i (Term.int_eval 8) (Cond.before_iff.mp (hsets _ (List.mem_of_getElem? (i := 18) rfl)))) (Or.inl (hsets _ (List.mem_of_getElem? (i := 17) rfl)))
  obtain ⟨hxa, khx, ehx, Vhx⟩ := hex_start hfit hn
  have Shx : Sta s s.heap "com/example/dijtabla/dijtabla/JsonText" "HEX" "[B" (.ref hxa) := Sta.start ehx (Or.inr ⟨(hw _ (List.mem_of_getElem? (i := 33) rfl)), (hw _ (List.mem_of_getElem? (i := 193) rfl))⟩)
  have cx : Ctx s _ s.heap.size g1 gf hxa khx := ⟨hw, hew, S1, hg1, S2, rgf, Sas, Shi, Slo, Shx, Vhx, trivial⟩
  obtain ⟨n, o, h1, h2, h3, _, L, rfl, ⟨rfl, N, -⟩, -, hq⟩ := ct_law (l := l) cx (Old.start s) i0 i1 i2 p e ha hc hk s m _ below hf ((Spec.applies_iff_loose hf).mp happ).1 ⟨rfl, State.Warmed39.refl s, rfl, hcv, all0⟩ trivial
  refine ⟨n, _, h1, h2, h3, hpost _ _ _ _ _ _ ⟨Cond.after_iff.mpr rfl, Cond.after_iff.mpr (eq_i res_at (Term.int_eval (1)) rfl), trivial⟩ ⟨hq.1, hq.2.1, hq.2.2.1, (hq.2.2.2.sift fun y hy => Or.inr (N y hy)).mono (by decide) (by decide)⟩⟩
theorem main_1_1 : Claimed_1_1 := comes_1 fun _ _ _ _ _ _ h hF => ⟨h.1, hF⟩
theorem main_1_2 : Claimed_1_2 := comes_1 fun _ _ _ _ _ _ h hF => ⟨h.2.1, hF⟩
end Jvm.Pilot.@@N@@
namespace Jvm.Pilot.@@N@@
open Jvm Jvm.ClassFile Sem Op Lib Jvm.Free Jvm.Stand Jvm.Pilot.@@N@@.Jvm.D
/-! MADE BY PROGRAM (witnessworld.py) out of the Statement's table words and the real class files: 24 classes; the members and pool entries that the words name. The judged class is class 1, her method 1. -/
namespace start1
open Jvm.ClassFile
def u (s : String) : CpInfo := .utf8 (stringToUtf16 s)
/-- a pool by its gaps: so many unusable entries, then the entry; so many at the end -/
def gap : Nat → List CpInfo → List CpInfo
  | 0, r => r
  | n + 1, r => .unusable :: gap n r
def poolList (es : List (Nat × CpInfo)) (last : Nat) : List CpInfo := es.foldr (fun e r => gap e.1 (e.2 :: r)) (gap last [])
def pool (es : List (Nat × CpInfo)) (last : Nat) : Array CpInfo := ⟨poolList es last⟩
def fileOf (pool : Array CpInfo) (this : Nat) (attrs : Array Attribute := #[]) (ms : Array MethodInfo := #[]) (fl : Nat := 33) (sup : Nat := 0) (ifs : Array Nat := #[]) (fds : Array FieldInfo := #[]) : ClassFile where
  minorVersion := 0
  majorVersion := 65
  constantPool := pool
  accessFlags := fl
  thisClass := this
  superClass := sup
  interfaces := ifs
  fields := fds
  methods := ms
  attributes := attrs
def plain (name : String) (sup : Option ClassId) : Class where
  name := name
  kind := .ordinary
  loader := none
  accessFlags := 33
  super := sup
  interfaces := #[]
  cf := none
  fields := #[]
  methods := #[]
  instanceTypes := #[]
  staticTypes := #[]
  resolved := #[]
  callSites := []
  init := .initialized
  statics := none
  mirror := none

def pool0 : Array CpInfo := pool [(5, u "<init>"), (0, u "()V"), (1, .class_ 10), (1, u "java/lang/Object")] 113

def k0c0 : Code := { maxStack := 0, maxLocals := 1, code := object_method_1_code, exceptionTable := #[], attributes := #[] }
def k0m0 : Method := { name := "<init>", desc := "()V", sig := { parameters := [], returnType := none }, accessFlags := 1, code := some k0c0 }
/-- java/lang/Object -/
def k0 : Class := { plain "java/lang/Object" none with
  accessFlags := 33
  interfaces := #[]
  cf := some (fileOf pool0 8 #[] #[{ accessFlags := 1, nameIndex := 5, descriptorIndex := 6, attributes := #[] }] 33 0 #[] #[])
  fields := #[]
  methods := #[k0m0]
  instanceTypes := #[]
  staticTypes := #[]
  resolved := Array.replicate 124 none
  statics := none }

def pool1 : Array CpInfo := pool [(2, .class_ 4), (0, .nameAndType 5 6), (0, u "java/lang/Object"), (0, u "<init>"), (0, u "()V"), (0, .integer 65535), (0, .class_ 9), (0, u "java/lang/String"), (0, .methodref 8 11), (0, .nameAndType 5 12), (0, u "([C)V"), (0, .class_ 14), (0, u "com/example/dijtabla/dijtabla/JsonText"), (0, .methodref 13 3), (0, .methodref 13 17), (0, .nameAndType 18 19), (0, u "startArray"), (0, u "()Lcom/example/dijtabla/dijtabla/JsonText;"), (0, .methodref 13 21), (0, .nameAndType 22 23), (0, u "string"), (0, u "(Ljava/lang/String;)Lcom/example/dijtabla/dijtabla/JsonText;"), (0, .methodref 13 25), (0, .nameAndType 26 19), (0, u "nullValue"), (0, .methodref 13 28), (0, .nameAndType 29 19), (0, u "endArray"), (0, .methodref 31 32), (0, .class_ 33), (0, .nameAndType 34 35), (0, u "com/example/dijtabla/dijtabla/JsonTextBytesPinLaw"), (0, u "enc"), (0, u "([BIC)I"), (0, .methodref 13 37), (0, .nameAndType 38 39), (0, u "bytes"), (0, u "()[B"), (0, .methodref 31 41), (0, .nameAndType 42 43), (0, u "same"), (0, u "([B[BII)Z"), (0, .methodref 31 45), (0, .nameAndType 46 35), (0, u "esc"), (0, .integer 55296), (0, .integer 57343), (0, .methodref 31 50), (0, .nameAndType 51 52), (0, u "hex"), (0, u "(I)B"), (2, u "law"), (0, u "(III)Z")] 7

def k1m0 : Method := { name := "<init>", desc := "()V", sig := { parameters := [], returnType := none }, accessFlags := 1, code := none }
def k1c1 : Code := { maxStack := 4, maxLocals := 15, code := code, exceptionTable := #[], attributes := #[] }
def k1m1 : Method := { name := "law", desc := "(III)Z", sig := { parameters := [.int, .int, .int], returnType := some .boolean }, accessFlags := 9, code := some k1c1 }
def k1c2 : Code := { maxStack := 3, maxLocals := 4, code := method_3_code, exceptionTable := #[], attributes := #[] }
def k1m2 : Method := { name := "same", desc := "([B[BII)Z", sig := { parameters := [(.array .byte), (.array .byte), .int, .int], returnType := some .boolean }, accessFlags := 10, code := some k1c2 }
def k1c3 : Code := { maxStack := 2, maxLocals := 1, code := method_4_code, exceptionTable := #[], attributes := #[] }
def k1m3 : Method := { name := "hex", desc := "(I)B", sig := { parameters := [.int], returnType := some .byte }, accessFlags := 10, code := some k1c3 }
def k1c4 : Code := { maxStack := 3, maxLocals := 3, code := method_5_code, exceptionTable := #[], attributes := #[] }
def k1m4 : Method := { name := "esc", desc := "([BIC)I", sig := { parameters := [(.array .byte), .int, .char], returnType := some .int }, accessFlags := 10, code := some k1c4 }
def k1c5 : Code := { maxStack := 5, maxLocals := 4, code := method_6_code, exceptionTable := #[], attributes := #[] }
def k1m5 : Method := { name := "enc", desc := "([BIC)I", sig := { parameters := [(.array .byte), .int, .char], returnType := some .int }, accessFlags := 10, code := some k1c5 }
/-- com/example/dijtabla/dijtabla/JsonTextBytesPinLaw -/
def k1 : Class := { plain "com/example/dijtabla/dijtabla/JsonTextBytesPinLaw" (some 0) with
  accessFlags := 49
  interfaces := #[]
  cf := some (fileOf pool1 31 #[] #[{ accessFlags := 1, nameIndex := 5, descriptorIndex := 6, attributes := #[] }, { accessFlags := 9, nameIndex := 55, descriptorIndex := 56, attributes := #[] }, { accessFlags := 10, nameIndex := 42, descriptorIndex := 43, attributes := #[] }, { accessFlags := 10, nameIndex := 51, descriptorIndex := 52, attributes := #[] }, { accessFlags := 10, nameIndex := 46, descriptorIndex := 35, attributes := #[] }, { accessFlags := 10, nameIndex := 34, descriptorIndex := 35, attributes := #[] }] 49 2 #[] #[])
  fields := #[]
  methods := #[k1m0, k1m1, k1m2, k1m3, k1m4, k1m5]
  instanceTypes := #[]
  staticTypes := #[]
  resolved := Array.replicate 64 none
  statics := none }

def pool2 : Array CpInfo := pool [(1, .class_ 2), (0, u "java/io/Serializable"), (0, .class_ 4), (0, u "java/lang/Object")] 2

/-- java/io/Serializable -/
def k2 : Class := { plain "java/io/Serializable" (some 0) with
  accessFlags := 1537
  interfaces := #[]
  cf := some (fileOf pool2 1 #[] #[] 1537 3 #[] #[])
  fields := #[]
  methods := #[]
  instanceTypes := #[]
  staticTypes := #[]
  resolved := Array.replicate 7 none
  statics := none }

def pool3 : Array CpInfo := pool [(1, .class_ 2), (0, u "java/lang/Comparable"), (0, .class_ 4), (0, u "java/lang/Object")] 7

/-- java/lang/Comparable -/
def k3 : Class := { plain "java/lang/Comparable" (some 0) with
  accessFlags := 1537
  interfaces := #[]
  cf := some (fileOf pool3 1 #[] #[] 1537 3 #[] #[])
  fields := #[]
  methods := #[]
  instanceTypes := #[]
  staticTypes := #[]
  resolved := Array.replicate 12 none
  statics := none }

def pool4 : Array CpInfo := pool [(2, .class_ 4), (1, u "java/lang/CharSequence"), (42, .class_ 48), (0, u "java/lang/CharSequence$1CodePointIterator"), (10, .class_ 60), (0, u "java/lang/CharSequence$1CharIterator"), (5, .class_ 67), (0, u "java/lang/Object")] 63

/-- java/lang/CharSequence -/
def k4 : Class := { plain "java/lang/CharSequence" (some 0) with
  accessFlags := 1537
  interfaces := #[]
  cf := some (fileOf pool4 2 #[.nestMembers #[47, 59]] #[] 1537 66 #[] #[])
  fields := #[]
  methods := #[]
  instanceTypes := #[]
  staticTypes := #[]
  resolved := Array.replicate 131 none
  statics := none }

def pool5 : Array CpInfo := pool [(1, .class_ 2), (0, u "java/lang/constant/Constable"), (0, .class_ 4), (0, u "java/lang/Object")] 6

/-- java/lang/constant/Constable -/
def k5 : Class := { plain "java/lang/constant/Constable" (some 0) with
  accessFlags := 1537
  interfaces := #[]
  cf := some (fileOf pool5 1 #[] #[] 1537 3 #[] #[])
  fields := #[]
  methods := #[]
  instanceTypes := #[]
  staticTypes := #[]
  resolved := Array.replicate 11 none
  statics := none }

def pool6 : Array CpInfo := pool [(1, .class_ 2), (0, u "java/lang/constant/ConstantDesc"), (0, .class_ 4), (0, u "java/lang/Object")] 32

/-- java/lang/constant/ConstantDesc -/
def k6 : Class := { plain "java/lang/constant/ConstantDesc" (some 0) with
  accessFlags := 1537
  interfaces := #[]
  cf := some (fileOf pool6 1 #[] #[] 1537 3 #[] #[])
  fields := #[]
  methods := #[]
  instanceTypes := #[]
  staticTypes := #[]
  resolved := Array.replicate 37 none
  statics := none }

def pool7 : Array CpInfo := pool [(1, .methodref 2 3), (0, .class_ 4), (0, .nameAndType 5 6), (0, u "java/lang/Object"), (0, u "<init>"), (0, u "()V"), (2, .fieldref 10 11), (0, .class_ 12), (0, .nameAndType 13 14), (0, u "java/lang/String"), (0, u "value"), (0, u "[B"), (0, .fieldref 10 16), (0, .nameAndType 17 18), (0, u "coder"), (0, u "B"), (2, u "hash"), (0, u "I"), (2, u "hashIsZero"), (0, u "Z"), (0, .methodref 10 28), (0, .nameAndType 5 29), (0, u "([CIILjava/lang/Void;)V"), (8, .fieldref 10 39), (0, .nameAndType 40 26), (0, u "COMPACT_STRINGS"), (1, .class_ 44), (1, u "java/lang/StringUTF16"), (0, u "compress"), (1, .methodref 42 48), (0, .nameAndType 49 50), (0, u "coderFromArrayLen"), (0, u "([BI)B"), (56, .class_ 109), (1, u "java/lang/StringLatin1"), (32, u "()Z"), (34, .methodref 42 178), (0, .nameAndType 45 179), (0, u "([CII)[B"), (154, u "()I"), (0, .methodref 10 336), (0, .nameAndType 17 337), (0, u "()B"), (25, u "([BI)C"), (27, u "(II)V"), (35, u "(I)C"), (64, .methodref 10 493), (0, .nameAndType 494 142), (0, u "isLatin1"), (0, .methodref 107 496), (0, .nameAndType 497 363), (0, u "charAt"), (0, .methodref 42 496), (2, u "checkIndex"), (5, u "length"), (67, .class_ 576), (0, u "java/lang/CharSequence"), (22, u "CASE_INSENSITIVE_ORDER"), (0, u "Ljava/util/Comparator;"), (409, u "([C)V"), (42, .fieldref 1054 1055), (0, .class_ 1056), (0, .nameAndType 1057 1058), (0, u "jdk/internal/util/Preconditions"), (0, u "SIOOBE_FORMATTER"), (0, u "Ljava/util/function/BiFunction;"), (0, .methodref 1054 1060), (0, .nameAndType 501 1061), (0, u "(IILjava/util/function/BiFunction;)I"), (39, u "serialPersistentFields"), (0, u "[Ljava/io/ObjectStreamField;"), (0, .class_ 1104), (0, u "java/lang/String$CaseInsensitiveComparator"), (1, .class_ 1107), (0, u "java/io/Serializable"), (0, .class_ 1109), (0, u "java/lang/Comparable"), (0, .class_ 1111), (0, u "java/lang/constant/Constable"), (0, .class_ 1113), (0, u "java/lang/constant/ConstantDesc"), (2, u "serialVersionUID"), (0, u "J"), (3, u "REPL"), (0, u "C"), (2, u "LATIN1"), (1, u "UTF16")] 323

def k7m0 : Method := { name := "<init>", desc := "()V", sig := { parameters := [], returnType := none }, accessFlags := 1, code := none }
def k7c1 : Code := { maxStack := 5, maxLocals := 2, code := jdk_42_method_3_code, exceptionTable := #[], attributes := #[] }
def k7m1 : Method := { name := "<init>", desc := "([C)V", sig := { parameters := [(.array .char)], returnType := none }, accessFlags := 1, code := some k7c1 }
def k7c2 : Code := { maxStack := 2, maxLocals := 1, code := jdk_42_method_54_code, exceptionTable := #[], attributes := #[] }
def k7m2 : Method := { name := "length", desc := "()I", sig := { parameters := [], returnType := some .int }, accessFlags := 1, code := some k7c2 }
def k7c3 : Code := { maxStack := 2, maxLocals := 2, code := jdk_42_method_56_code, exceptionTable := #[], attributes := #[] }
def k7m3 : Method := { name := "charAt", desc := "(I)C", sig := { parameters := [.int], returnType := some .char }, accessFlags := 1, code := some k7c3 }
def k7c4 : Code := { maxStack := 4, maxLocals := 6, code := jdk_42_method_149_code, exceptionTable := #[], attributes := #[] }
def k7m4 : Method := { name := "<init>", desc := "([CIILjava/lang/Void;)V", sig := { parameters := [(.array .char), .int, .int, (.object "java/lang/Void")], returnType := none }, accessFlags := 2, code := some k7c4 }
def k7c5 : Code := { maxStack := 1, maxLocals := 1, code := jdk_42_method_152_code, exceptionTable := #[], attributes := #[] }
def k7m5 : Method := { name := "coder", desc := "()B", sig := { parameters := [], returnType := some .byte }, accessFlags := 0, code := some k7c5 }
def k7c6 : Code := { maxStack := 1, maxLocals := 1, code := jdk_42_method_154_code, exceptionTable := #[], attributes := #[] }
def k7m6 : Method := { name := "isLatin1", desc := "()Z", sig := { parameters := [], returnType := some .boolean }, accessFlags := 0, code := some k7c6 }
def k7c7 : Code := { maxStack := 3, maxLocals := 2, code := jdk_42_method_155_code, exceptionTable := #[], attributes := #[] }
def k7m7 : Method := { name := "checkIndex", desc := "(II)V", sig := { parameters := [.int, .int], returnType := none }, accessFlags := 8, code := some k7c7 }
/-- java/lang/String -/
def k7 : Class := { plain "java/lang/String" (some 0) with
  accessFlags := 49
  interfaces := #[2, 3, 4, 5, 6]
  cf := some (fileOf pool7 10 #[.nestMembers #[1103]] #[{ accessFlags := 1, nameIndex := 5, descriptorIndex := 6, attributes := #[] }, { accessFlags := 1, nameIndex := 5, descriptorIndex := 1010, attributes := #[] }, { accessFlags := 1, nameIndex := 507, descriptorIndex := 334, attributes := #[] }, { accessFlags := 1, nameIndex := 497, descriptorIndex := 427, attributes := #[] }, { accessFlags := 2, nameIndex := 5, descriptorIndex := 29, attributes := #[] }, { accessFlags := 0, nameIndex := 17, descriptorIndex := 337, attributes := #[] }, { accessFlags := 0, nameIndex := 494, descriptorIndex := 142, attributes := #[] }, { accessFlags := 8, nameIndex := 501, descriptorIndex := 391, attributes := #[] }] 49 2 #[1106, 1108, 575, 1110, 1112] #[{ accessFlags := 18, nameIndex := 13, descriptorIndex := 14, attributes := #[] }, { accessFlags := 18, nameIndex := 17, descriptorIndex := 18, attributes := #[] }, { accessFlags := 2, nameIndex := 21, descriptorIndex := 22, attributes := #[] }, { accessFlags := 2, nameIndex := 25, descriptorIndex := 26, attributes := #[] }, { accessFlags := 26, nameIndex := 1116, descriptorIndex := 1117, attributes := #[] }, { accessFlags := 24, nameIndex := 40, descriptorIndex := 26, attributes := #[] }, { accessFlags := 26, nameIndex := 1101, descriptorIndex := 1102, attributes := #[] }, { accessFlags := 26, nameIndex := 1121, descriptorIndex := 1122, attributes := #[] }, { accessFlags := 25, nameIndex := 599, descriptorIndex := 600, attributes := #[] }, { accessFlags := 24, nameIndex := 1125, descriptorIndex := 18, attributes := #[] }, { accessFlags := 24, nameIndex := 1127, descriptorIndex := 18, attributes := #[] }])
  fields := #[{ name := "value", type := (.array .byte), accessFlags := 18, slot := 0, constantValue := 0 }, { name := "coder", type := .byte, accessFlags := 18, slot := 1, constantValue := 0 }, { name := "hash", type := .int, accessFlags := 2, slot := 2, constantValue := 0 }, { name := "hashIsZero", type := .boolean, accessFlags := 2, slot := 3, constantValue := 0 }, { name := "serialVersionUID", type := .long, accessFlags := 26, slot := 0, constantValue := 0 }, { name := "COMPACT_STRINGS", type := .boolean, accessFlags := 24, slot := 1, constantValue := 0 }, { name := "serialPersistentFields", type := (.array (.object "java/io/ObjectStreamField")), accessFlags := 26, slot := 2, constantValue := 0 }, { name := "REPL", type := .char, accessFlags := 26, slot := 3, constantValue := 0 }, { name := "CASE_INSENSITIVE_ORDER", type := (.object "java/util/Comparator"), accessFlags := 25, slot := 4, constantValue := 0 }, { name := "LATIN1", type := .byte, accessFlags := 24, slot := 5, constantValue := 0 }, { name := "UTF16", type := .byte, accessFlags := 24, slot := 6, constantValue := 0 }]
  methods := #[k7m0, k7m1, k7m2, k7m3, k7m4, k7m5, k7m6, k7m7]
  instanceTypes := #[(.array .byte), .byte, .int, .boolean]
  staticTypes := #[.long, .boolean, (.array (.object "java/io/ObjectStreamField")), .char, (.object "java/util/Comparator"), .byte, .byte]
  resolved := Array.replicate 1451 none
  statics := some 0 }

def pool8 : Array CpInfo := pool [(3, .class_ 4), (0, u "java/lang/String"), (1, .class_ 8), (1, u "java/lang/Object"), (0, u "<init>"), (0, u "()V"), (0, .methodref 12 13), (0, .class_ 14), (0, .nameAndType 15 16), (0, u "java/lang/StringUTF16"), (0, u "newBytesLength"), (0, u "(I)I"), (3, .integer 1073741823), (23, .fieldref 12 45), (0, .nameAndType 46 47), (0, u "$assertionsDisabled"), (0, u "Z"), (0, .methodref 12 49), (0, .nameAndType 50 51), (0, u "length"), (0, u "([B)I"), (7, .fieldref 12 60), (0, .nameAndType 61 62), (0, u "HI_BYTE_SHIFT"), (0, u "I"), (0, .fieldref 12 64), (0, .nameAndType 65 62), (0, u "LO_BYTE_SHIFT"), (1, .methodref 12 68), (0, .nameAndType 69 70), (0, u "checkIndex"), (0, u "(I[B)V"), (0, .methodref 12 72), (0, .nameAndType 73 74), (0, u "getChar"), (0, u "([BI)C"), (32, .methodref 12 108), (0, .nameAndType 109 110), (0, u "newBytesFor"), (0, u "(I)[B"), (0, .methodref 12 112), (0, .nameAndType 113 114), (0, u "putChar"), (0, u "([BII)V"), (0, .methodref 12 116), (0, .nameAndType 117 118), (0, u "compress"), (0, u "([CI[BII)I"), (0, .methodref 12 120), (0, .nameAndType 121 122), (0, u "toBytes"), (0, u "([CII)[B"), (138, u "coderFromArrayLen"), (0, u "([BI)B"), (106, .class_ 371), (1, u "java/lang/StringUTF16$LinesSpliterator"), (20, u "charAt"), (21, .methodref 3 415), (0, .nameAndType 69 416), (0, u "(II)V"), (13, u "MAX_LENGTH"), (196, .class_ 628), (0, u "java/lang/StringUTF16$CodePointsSpliterator"), (0, .class_ 630), (0, u "java/lang/StringUTF16$CharsSpliterator")] 4

def k8m0 : Method := { name := "<init>", desc := "()V", sig := { parameters := [], returnType := none }, accessFlags := 0, code := none }
def k8c1 : Code := { maxStack := 1, maxLocals := 1, code := jdk_52_method_2_code, exceptionTable := #[], attributes := #[] }
def k8m1 : Method := { name := "newBytesFor", desc := "(I)[B", sig := { parameters := [.int], returnType := some (.array .byte) }, accessFlags := 9, code := some k8c1 }
def k8c2 : Code := { maxStack := 4, maxLocals := 1, code := jdk_52_method_3_code, exceptionTable := #[], attributes := #[] }
def k8m2 : Method := { name := "newBytesLength", desc := "(I)I", sig := { parameters := [.int], returnType := some .int }, accessFlags := 9, code := some k8c2 }
def k8c3 : Code := { maxStack := 4, maxLocals := 3, code := jdk_52_method_4_code, exceptionTable := #[], attributes := #[] }
def k8m3 : Method := { name := "putChar", desc := "([BII)V", sig := { parameters := [(.array .byte), .int, .int], returnType := none }, accessFlags := 8, code := some k8c3 }
def k8c4 : Code := { maxStack := 3, maxLocals := 2, code := jdk_52_method_5_code, exceptionTable := #[], attributes := #[] }
def k8m4 : Method := { name := "getChar", desc := "([BI)C", sig := { parameters := [(.array .byte), .int], returnType := some .char }, accessFlags := 8, code := some k8c4 }
def k8c5 : Code := { maxStack := 2, maxLocals := 1, code := jdk_52_method_6_code, exceptionTable := #[], attributes := #[] }
def k8m5 : Method := { name := "length", desc := "([B)I", sig := { parameters := [(.array .byte)], returnType := some .int }, accessFlags := 9, code := some k8c5 }
def k8c6 : Code := { maxStack := 4, maxLocals := 5, code := jdk_52_method_14_code, exceptionTable := #[], attributes := #[] }
def k8m6 : Method := { name := "toBytes", desc := "([CII)[B", sig := { parameters := [(.array .char), .int, .int], returnType := some (.array .byte) }, accessFlags := 9, code := some k8c6 }
def k8c7 : Code := { maxStack := 2, maxLocals := 2, code := jdk_52_method_15_code, exceptionTable := #[], attributes := #[] }
def k8m7 : Method := { name := "coderFromArrayLen", desc := "([BI)B", sig := { parameters := [(.array .byte), .int], returnType := some .byte }, accessFlags := 8, code := some k8c7 }
def k8c8 : Code := { maxStack := 5, maxLocals := 6, code := jdk_52_method_16_code, exceptionTable := #[], attributes := #[] }
def k8m8 : Method := { name := "compress", desc := "([CII)[B", sig := { parameters := [(.array .char), .int, .int], returnType := some (.array .byte) }, accessFlags := 9, code := some k8c8 }
def k8c9 : Code := { maxStack := 3, maxLocals := 7, code := jdk_52_method_21_code, exceptionTable := #[], attributes := #[] }
def k8m9 : Method := { name := "compress", desc := "([CI[BII)I", sig := { parameters := [(.array .char), .int, (.array .byte), .int, .int], returnType := some .int }, accessFlags := 9, code := some k8c9 }
def k8c10 : Code := { maxStack := 2, maxLocals := 2, code := jdk_52_method_83_code, exceptionTable := #[], attributes := #[] }
def k8m10 : Method := { name := "charAt", desc := "([BI)C", sig := { parameters := [(.array .byte), .int], returnType := some .char }, accessFlags := 9, code := some k8c10 }
def k8c11 : Code := { maxStack := 2, maxLocals := 2, code := jdk_52_method_91_code, exceptionTable := #[], attributes := #[] }
def k8m11 : Method := { name := "checkIndex", desc := "(I[B)V", sig := { parameters := [.int, (.array .byte)], returnType := none }, accessFlags := 9, code := some k8c11 }
/-- java/lang/StringUTF16 -/
def k8 : Class := { plain "java/lang/StringUTF16" (some 0) with
  accessFlags := 48
  interfaces := #[]
  cf := some (fileOf pool8 12 #[.nestMembers #[627, 629, 369]] #[{ accessFlags := 0, nameIndex := 9, descriptorIndex := 10, attributes := #[] }, { accessFlags := 9, nameIndex := 109, descriptorIndex := 110, attributes := #[] }, { accessFlags := 9, nameIndex := 15, descriptorIndex := 16, attributes := #[] }, { accessFlags := 8, nameIndex := 113, descriptorIndex := 114, attributes := #[] }, { accessFlags := 8, nameIndex := 73, descriptorIndex := 74, attributes := #[] }, { accessFlags := 9, nameIndex := 50, descriptorIndex := 51, attributes := #[] }, { accessFlags := 9, nameIndex := 121, descriptorIndex := 122, attributes := #[] }, { accessFlags := 8, nameIndex := 261, descriptorIndex := 262, attributes := #[] }, { accessFlags := 9, nameIndex := 117, descriptorIndex := 122, attributes := #[] }, { accessFlags := 9, nameIndex := 117, descriptorIndex := 118, attributes := #[] }, { accessFlags := 9, nameIndex := 392, descriptorIndex := 74, attributes := #[] }, { accessFlags := 9, nameIndex := 69, descriptorIndex := 70, attributes := #[] }] 48 6 #[] #[{ accessFlags := 26, nameIndex := 61, descriptorIndex := 62, attributes := #[] }, { accessFlags := 26, nameIndex := 65, descriptorIndex := 62, attributes := #[] }, { accessFlags := 24, nameIndex := 430, descriptorIndex := 62, attributes := #[] }, { accessFlags := 4120, nameIndex := 46, descriptorIndex := 47, attributes := #[] }])
  fields := #[{ name := "HI_BYTE_SHIFT", type := .int, accessFlags := 26, slot := 0, constantValue := 0 }, { name := "LO_BYTE_SHIFT", type := .int, accessFlags := 26, slot := 1, constantValue := 0 }, { name := "MAX_LENGTH", type := .int, accessFlags := 24, slot := 2, constantValue := 0 }, { name := "$assertionsDisabled", type := .boolean, accessFlags := 4120, slot := 3, constantValue := 0 }]
  methods := #[k8m0, k8m1, k8m2, k8m3, k8m4, k8m5, k8m6, k8m7, k8m8, k8m9, k8m10, k8m11]
  instanceTypes := #[]
  staticTypes := #[.int, .int, .int, .boolean]
  resolved := Array.replicate 635 none
  statics := some 1 }

def pool9 : Array CpInfo := pool [(1, .methodref 2 3), (0, .class_ 4), (0, .nameAndType 5 6), (0, u "java/lang/Object"), (0, u "<init>"), (0, u "()V"), (0, .fieldref 8 9), (0, .class_ 10), (0, .nameAndType 11 12), (0, u "com/example/dijtabla/dijtabla/JsonText"), (0, u "bytes"), (0, u "[B"), (0, .fieldref 8 14), (0, .nameAndType 15 16), (0, u "first"), (0, u "Z"), (0, .methodref 8 18), (0, .nameAndType 19 20), (0, u "open"), (0, u "(C)Lcom/example/dijtabla/dijtabla/JsonText;"), (0, .methodref 8 22), (0, .nameAndType 23 20), (0, u "close"), (0, .methodref 8 25), (0, .nameAndType 26 6), (0, u "value"), (1, .class_ 29), (0, u "com/example/dijtabla/dijtabla/JsonText$Name"), (0, .methodref 8 31), (0, .nameAndType 32 33), (0, u "room"), (0, u "(I)V"), (0, .fieldref 8 35), (0, .nameAndType 36 37), (0, u "length"), (0, u "I"), (6, .string 45), (0, u "null"), (0, .methodref 8 47), (0, .nameAndType 48 49), (0, u "literal"), (0, u "(Ljava/lang/String;)Lcom/example/dijtabla/dijtabla/JsonText;"), (0, .methodref 8 51), (0, .nameAndType 52 53), (0, u "quoted"), (0, u "(Ljava/lang/String;I)V"), (15, u "()I"), (5, u "string"), (10, .methodref 87 88), (0, .class_ 89), (0, .nameAndType 90 91), (0, u "java/util/Arrays"), (0, u "copyOf"), (0, u "([BI)[B"), (0, .methodref 8 93), (0, .nameAndType 94 95), (0, u "put"), (0, u "(C)V"), (0, .methodref 97 98), (0, .class_ 99), (0, .nameAndType 36 69), (0, u "java/lang/String"), (0, .methodref 97 101), (0, .nameAndType 102 103), (0, u "charAt"), (0, u "(I)C"), (0, .methodref 8 105), (0, .nameAndType 106 107), (0, u "escaped"), (0, u "(CI)I"), (0, .string 109), (0, u "btn fr"), (0, .methodref 111 112), (0, .class_ 113), (0, .nameAndType 114 115), (0, u "java/lang/Character"), (0, u "isSurrogate"), (0, u "(C)Z"), (0, .fieldref 8 117), (0, .nameAndType 118 12), (0, u "HEX"), (21, u "()Lcom/example/dijtabla/dijtabla/JsonText;"), (1, u "startArray"), (0, u "endArray"), (7, u "nullValue"), (0, u "()[B")] 7

def k9c0 : Code := { maxStack := 2, maxLocals := 1, code := prog_10_method_1_code, exceptionTable := #[], attributes := #[] }
def k9m0 : Method := { name := "<init>", desc := "()V", sig := { parameters := [], returnType := none }, accessFlags := 0, code := some k9c0 }
def k9c1 : Code := { maxStack := 2, maxLocals := 1, code := prog_10_method_4_code, exceptionTable := #[], attributes := #[] }
def k9m1 : Method := { name := "startArray", desc := "()Lcom/example/dijtabla/dijtabla/JsonText;", sig := { parameters := [], returnType := some (.object "com/example/dijtabla/dijtabla/JsonText") }, accessFlags := 0, code := some k9c1 }
def k9c2 : Code := { maxStack := 2, maxLocals := 1, code := prog_10_method_5_code, exceptionTable := #[], attributes := #[] }
def k9m2 : Method := { name := "endArray", desc := "()Lcom/example/dijtabla/dijtabla/JsonText;", sig := { parameters := [], returnType := some (.object "com/example/dijtabla/dijtabla/JsonText") }, accessFlags := 0, code := some k9c2 }
def k9c3 : Code := { maxStack := 3, maxLocals := 2, code := prog_10_method_7_code, exceptionTable := #[], attributes := #[] }
def k9m3 : Method := { name := "string", desc := "(Ljava/lang/String;)Lcom/example/dijtabla/dijtabla/JsonText;", sig := { parameters := [(.object "java/lang/String")], returnType := some (.object "com/example/dijtabla/dijtabla/JsonText") }, accessFlags := 0, code := some k9c3 }
def k9c4 : Code := { maxStack := 2, maxLocals := 1, code := prog_10_method_10_code, exceptionTable := #[], attributes := #[] }
def k9m4 : Method := { name := "nullValue", desc := "()Lcom/example/dijtabla/dijtabla/JsonText;", sig := { parameters := [], returnType := some (.object "com/example/dijtabla/dijtabla/JsonText") }, accessFlags := 0, code := some k9c4 }
def k9c5 : Code := { maxStack := 2, maxLocals := 1, code := prog_10_method_11_code, exceptionTable := #[], attributes := #[] }
def k9m5 : Method := { name := "bytes", desc := "()[B", sig := { parameters := [], returnType := some (.array .byte) }, accessFlags := 0, code := some k9c5 }
def k9c6 : Code := { maxStack := 2, maxLocals := 2, code := prog_10_method_12_code, exceptionTable := #[], attributes := #[] }
def k9m6 : Method := { name := "open", desc := "(C)Lcom/example/dijtabla/dijtabla/JsonText;", sig := { parameters := [.char], returnType := some (.object "com/example/dijtabla/dijtabla/JsonText") }, accessFlags := 2, code := some k9c6 }
def k9c7 : Code := { maxStack := 2, maxLocals := 2, code := prog_10_method_13_code, exceptionTable := #[], attributes := #[] }
def k9m7 : Method := { name := "close", desc := "(C)Lcom/example/dijtabla/dijtabla/JsonText;", sig := { parameters := [.char], returnType := some (.object "com/example/dijtabla/dijtabla/JsonText") }, accessFlags := 2, code := some k9c7 }
def k9c8 : Code := { maxStack := 5, maxLocals := 3, code := prog_10_method_14_code, exceptionTable := #[], attributes := #[] }
def k9m8 : Method := { name := "literal", desc := "(Ljava/lang/String;)Lcom/example/dijtabla/dijtabla/JsonText;", sig := { parameters := [(.object "java/lang/String")], returnType := some (.object "com/example/dijtabla/dijtabla/JsonText") }, accessFlags := 2, code := some k9c8 }
def k9c9 : Code := { maxStack := 3, maxLocals := 7, code := prog_10_method_15_code, exceptionTable := #[], attributes := #[] }
def k9m9 : Method := { name := "quoted", desc := "(Ljava/lang/String;I)V", sig := { parameters := [(.object "java/lang/String"), .int], returnType := none }, accessFlags := 2, code := some k9c9 }
def k9c10 : Code := { maxStack := 2, maxLocals := 1, code := prog_10_method_16_code, exceptionTable := #[], attributes := #[] }
def k9m10 : Method := { name := "value", desc := "()V", sig := { parameters := [], returnType := none }, accessFlags := 2, code := some k9c10 }
def k9c11 : Code := { maxStack := 5, maxLocals := 5, code := prog_10_method_17_code, exceptionTable := #[], attributes := #[] }
def k9m11 : Method := { name := "escaped", desc := "(CI)I", sig := { parameters := [.char, .int], returnType := some .int }, accessFlags := 2, code := some k9c11 }
def k9c12 : Code := { maxStack := 5, maxLocals := 2, code := prog_10_method_19_code, exceptionTable := #[], attributes := #[] }
def k9m12 : Method := { name := "put", desc := "(C)V", sig := { parameters := [.char], returnType := none }, accessFlags := 2, code := some k9c12 }
def k9c13 : Code := { maxStack := 5, maxLocals := 2, code := prog_10_method_20_code, exceptionTable := #[], attributes := #[] }
def k9m13 : Method := { name := "room", desc := "(I)V", sig := { parameters := [.int], returnType := none }, accessFlags := 2, code := some k9c13 }
/-- com/example/dijtabla/dijtabla/JsonText -/
def k9 : Class := { plain "com/example/dijtabla/dijtabla/JsonText" (some 0) with
  accessFlags := 32
  interfaces := #[]
  cf := some (fileOf pool9 8 #[.nestMembers #[28]] #[{ accessFlags := 0, nameIndex := 5, descriptorIndex := 6, attributes := #[] }, { accessFlags := 0, nameIndex := 142, descriptorIndex := 140, attributes := #[] }, { accessFlags := 0, nameIndex := 143, descriptorIndex := 140, attributes := #[] }, { accessFlags := 0, nameIndex := 75, descriptorIndex := 49, attributes := #[] }, { accessFlags := 0, nameIndex := 151, descriptorIndex := 140, attributes := #[] }, { accessFlags := 0, nameIndex := 11, descriptorIndex := 152, attributes := #[] }, { accessFlags := 2, nameIndex := 19, descriptorIndex := 20, attributes := #[] }, { accessFlags := 2, nameIndex := 23, descriptorIndex := 20, attributes := #[] }, { accessFlags := 2, nameIndex := 48, descriptorIndex := 49, attributes := #[] }, { accessFlags := 2, nameIndex := 52, descriptorIndex := 53, attributes := #[] }, { accessFlags := 2, nameIndex := 26, descriptorIndex := 6, attributes := #[] }, { accessFlags := 2, nameIndex := 106, descriptorIndex := 107, attributes := #[] }, { accessFlags := 2, nameIndex := 94, descriptorIndex := 95, attributes := #[] }, { accessFlags := 2, nameIndex := 32, descriptorIndex := 33, attributes := #[] }] 32 2 #[] #[{ accessFlags := 26, nameIndex := 118, descriptorIndex := 12, attributes := #[] }, { accessFlags := 2, nameIndex := 11, descriptorIndex := 12, attributes := #[] }, { accessFlags := 2, nameIndex := 36, descriptorIndex := 37, attributes := #[] }, { accessFlags := 2, nameIndex := 15, descriptorIndex := 16, attributes := #[] }])
  fields := #[{ name := "HEX", type := (.array .byte), accessFlags := 26, slot := 0, constantValue := 0 }, { name := "bytes", type := (.array .byte), accessFlags := 2, slot := 0, constantValue := 0 }, { name := "length", type := .int, accessFlags := 2, slot := 1, constantValue := 0 }, { name := "first", type := .boolean, accessFlags := 2, slot := 2, constantValue := 0 }]
  methods := #[k9m0, k9m1, k9m2, k9m3, k9m4, k9m5, k9m6, k9m7, k9m8, k9m9, k9m10, k9m11, k9m12, k9m13]
  instanceTypes := #[(.array .byte), .int, .boolean]
  staticTypes := #[(.array .byte)]
  resolved := Array.replicate 160 none
  statics := some 2 }

def pool10 : Array CpInfo := pool [(2, .class_ 4), (1, u "java/lang/Object"), (0, u "<init>"), (0, u "()V"), (7, .class_ 16), (1, u "java/util/Arrays"), (57, .class_ 76), (1, u "java/util/Arrays$NaturalOrder"), (36, .class_ 115), (1, u "java/util/Arrays$LegacyMergeSort"), (1, u "Z"), (32, .methodref 151 152), (0, .class_ 153), (0, .nameAndType 154 155), (0, u "java/lang/System"), (0, u "arraycopy"), (0, u "(Ljava/lang/Object;ILjava/lang/Object;II)V"), (146, u "copyOf"), (1, .methodref 305 306), (0, .class_ 307), (0, .nameAndType 308 309), (0, u "java/lang/Math"), (0, u "min"), (0, u "(II)I"), (65, .class_ 376), (0, u "java/util/Arrays$ArrayList"), (68, u "$assertionsDisabled"), (269, u "MIN_ARRAY_SORT_GRAN"), (0, u "I"), (2, u "INSERTIONSORT_THRESHOLD"), (149, u "([BI)[B"), (105, .class_ 976), (0, u "java/util/Arrays$ArrayItr")] 52

def k10m0 : Method := { name := "<init>", desc := "()V", sig := { parameters := [], returnType := none }, accessFlags := 2, code := none }
def k10c1 : Code := { maxStack := 6, maxLocals := 3, code := jdk_65_method_121_code, exceptionTable := #[], attributes := #[] }
def k10m1 : Method := { name := "copyOf", desc := "([BI)[B", sig := { parameters := [(.array .byte), .int], returnType := some (.array .byte) }, accessFlags := 9, code := some k10c1 }
/-- java/util/Arrays -/
def k10 : Class := { plain "java/util/Arrays" (some 0) with
  accessFlags := 49
  interfaces := #[]
  cf := some (fileOf pool10 14 #[.nestMembers #[975, 375, 113, 74]] #[{ accessFlags := 2, nameIndex := 5, descriptorIndex := 6, attributes := #[] }, { accessFlags := 9, nameIndex := 302, descriptorIndex := 869, attributes := #[] }] 49 2 #[] #[{ accessFlags := 26, nameIndex := 715, descriptorIndex := 716, attributes := #[] }, { accessFlags := 26, nameIndex := 719, descriptorIndex := 716, attributes := #[] }, { accessFlags := 4120, nameIndex := 445, descriptorIndex := 117, attributes := #[] }])
  fields := #[{ name := "MIN_ARRAY_SORT_GRAN", type := .int, accessFlags := 26, slot := 0, constantValue := 0 }, { name := "INSERTIONSORT_THRESHOLD", type := .int, accessFlags := 26, slot := 1, constantValue := 0 }, { name := "$assertionsDisabled", type := .boolean, accessFlags := 4120, slot := 2, constantValue := 0 }]
  methods := #[k10m0, k10m1]
  instanceTypes := #[]
  staticTypes := #[.int, .int, .boolean]
  resolved := Array.replicate 1029 none
  statics := none }

def pool11 : Array CpInfo := pool [(1, .class_ 2), (0, u "java/lang/Math"), (1, .class_ 6), (1, u "java/lang/Object"), (0, u "<init>"), (0, u "()V"), (89, .class_ 100), (1, u "java/lang/Math$RandomNumberGeneratorHolder"), (71, u "negativeZeroFloatBits"), (0, u "J"), (2, u "negativeZeroDoubleBits"), (24, u "min"), (43, u "$assertionsDisabled"), (0, u "Z"), (88, u "(II)I"), (2, u "twoToTheDoubleScaleDown"), (0, u "D"), (4, u "twoToTheDoubleScaleUp"), (9, u "E"), (3, u "PI"), (2, u "TAU"), (2, u "DEGREES_TO_RADIANS"), (0, u "RADIANS_TO_DEGREES")] 94

def k11m0 : Method := { name := "<init>", desc := "()V", sig := { parameters := [], returnType := none }, accessFlags := 2, code := none }
def k11c1 : Code := { maxStack := 2, maxLocals := 2, code := jdk_29_method_69_code, exceptionTable := #[], attributes := #[] }
def k11m1 : Method := { name := "min", desc := "(II)I", sig := { parameters := [.int, .int], returnType := some .int }, accessFlags := 9, code := some k11c1 }
/-- java/lang/Math -/
def k11 : Class := { plain "java/lang/Math" (some 0) with
  accessFlags := 49
  interfaces := #[]
  cf := some (fileOf pool11 1 #[.nestMembers #[98]] #[{ accessFlags := 2, nameIndex := 7, descriptorIndex := 8, attributes := #[] }, { accessFlags := 9, nameIndex := 201, descriptorIndex := 335, attributes := #[] }] 49 4 #[] #[{ accessFlags := 25, nameIndex := 354, descriptorIndex := 339, attributes := #[] }, { accessFlags := 25, nameIndex := 358, descriptorIndex := 339, attributes := #[] }, { accessFlags := 25, nameIndex := 361, descriptorIndex := 339, attributes := #[] }, { accessFlags := 26, nameIndex := 364, descriptorIndex := 339, attributes := #[] }, { accessFlags := 26, nameIndex := 365, descriptorIndex := 339, attributes := #[] }, { accessFlags := 26, nameIndex := 172, descriptorIndex := 173, attributes := #[] }, { accessFlags := 26, nameIndex := 176, descriptorIndex := 173, attributes := #[] }, { accessFlags := 8, nameIndex := 344, descriptorIndex := 339, attributes := #[] }, { accessFlags := 8, nameIndex := 338, descriptorIndex := 339, attributes := #[] }, { accessFlags := 4120, nameIndex := 245, descriptorIndex := 246, attributes := #[] }])
  fields := #[{ name := "E", type := .double, accessFlags := 25, slot := 0, constantValue := 0 }, { name := "PI", type := .double, accessFlags := 25, slot := 1, constantValue := 0 }, { name := "TAU", type := .double, accessFlags := 25, slot := 2, constantValue := 0 }, { name := "DEGREES_TO_RADIANS", type := .double, accessFlags := 26, slot := 3, constantValue := 0 }, { name := "RADIANS_TO_DEGREES", type := .double, accessFlags := 26, slot := 4, constantValue := 0 }, { name := "negativeZeroFloatBits", type := .long, accessFlags := 26, slot := 5, constantValue := 0 }, { name := "negativeZeroDoubleBits", type := .long, accessFlags := 26, slot := 6, constantValue := 0 }, { name := "twoToTheDoubleScaleUp", type := .double, accessFlags := 8, slot := 7, constantValue := 0 }, { name := "twoToTheDoubleScaleDown", type := .double, accessFlags := 8, slot := 8, constantValue := 0 }, { name := "$assertionsDisabled", type := .boolean, accessFlags := 4120, slot := 9, constantValue := 0 }]
  methods := #[k11m0, k11m1]
  instanceTypes := #[]
  staticTypes := #[.double, .double, .double, .double, .double, .long, .long, .double, .double, .boolean]
  resolved := Array.replicate 460 none
  statics := none }

def pool12 : Array CpInfo := pool [(2, .class_ 4), (1, u "java/lang/Object"), (0, u "<init>"), (0, u "()V"), (1, .class_ 10), (1, u "java/lang/System"), (0, u "allowSecurityManager"), (0, u "I"), (16, u "cons"), (0, u "Ljava/io/Console;"), (77, .class_ 110), (1, u "java/lang/System$CallersHolder"), (43, u "initialErrStream"), (0, u "Ljava/io/PrintStream;"), (19, u "security"), (0, u "Ljava/lang/SecurityManager;"), (31, .class_ 209), (0, u "java/lang/System$1"), (7, u "props"), (0, u "Ljava/util/Properties;"), (2, u "lineSeparator"), (0, u "Ljava/lang/String;"), (96, .class_ 321), (1, u "java/lang/System$LoggerFinder"), (5, .class_ 328), (0, u "java/lang/System$Logger"), (67, u "err"), (2, u "out"), (91, u "notSupportedJnuEncoding"), (15, u "in"), (17, u "initialIn"), (0, u "Ljava/io/InputStream;"), (35, u "bootLayer"), (0, u "Ljava/lang/ModuleLayer;"), (99, .class_ 664), (0, u "java/lang/System$2"), (9, u "NEVER"), (2, u "MAYBE"), (49, u "arraycopy"), (0, u "(Ljava/lang/Object;ILjava/lang/Object;II)V"), (72, .class_ 802), (0, u "java/lang/System$Logger$Level")] 31

def k12m0 : Method := { name := "<init>", desc := "()V", sig := { parameters := [], returnType := none }, accessFlags := 2, code := none }
def k12m1 : Method := { name := "arraycopy", desc := "(Ljava/lang/Object;ILjava/lang/Object;II)V", sig := { parameters := [(.object "java/lang/Object"), .int, (.object "java/lang/Object"), .int, .int], returnType := none }, accessFlags := 265, code := none }
/-- java/lang/System -/
def k12 : Class := { plain "java/lang/System" (some 0) with
  accessFlags := 49
  interfaces := #[]
  cf := some (fileOf pool12 8 #[.nestMembers #[319, 327, 801, 108, 663, 208]] #[{ accessFlags := 2, nameIndex := 5, descriptorIndex := 6, attributes := #[] }, { accessFlags := 265, nameIndex := 727, descriptorIndex := 728, attributes := #[] }] 49 2 #[] #[{ accessFlags := 25, nameIndex := 507, descriptorIndex := 526, attributes := #[] }, { accessFlags := 25, nameIndex := 399, descriptorIndex := 155, attributes := #[] }, { accessFlags := 25, nameIndex := 396, descriptorIndex := 155, attributes := #[] }, { accessFlags := 10, nameIndex := 525, descriptorIndex := 526, attributes := #[] }, { accessFlags := 26, nameIndex := 674, descriptorIndex := 12, attributes := #[] }, { accessFlags := 26, nameIndex := 677, descriptorIndex := 12, attributes := #[] }, { accessFlags := 10, nameIndex := 11, descriptorIndex := 12, attributes := #[] }, { accessFlags := 74, nameIndex := 175, descriptorIndex := 176, attributes := #[] }, { accessFlags := 10, nameIndex := 491, descriptorIndex := 222, attributes := #[] }, { accessFlags := 74, nameIndex := 29, descriptorIndex := 30, attributes := #[] }, { accessFlags := 74, nameIndex := 154, descriptorIndex := 155, attributes := #[] }, { accessFlags := 10, nameIndex := 217, descriptorIndex := 218, attributes := #[] }, { accessFlags := 10, nameIndex := 221, descriptorIndex := 222, attributes := #[] }, { accessFlags := 8, nameIndex := 562, descriptorIndex := 563, attributes := #[] }])
  fields := #[{ name := "in", type := (.object "java/io/InputStream"), accessFlags := 25, slot := 0, constantValue := 0 }, { name := "out", type := (.object "java/io/PrintStream"), accessFlags := 25, slot := 1, constantValue := 0 }, { name := "err", type := (.object "java/io/PrintStream"), accessFlags := 25, slot := 2, constantValue := 0 }, { name := "initialIn", type := (.object "java/io/InputStream"), accessFlags := 10, slot := 3, constantValue := 0 }, { name := "NEVER", type := .int, accessFlags := 26, slot := 4, constantValue := 0 }, { name := "MAYBE", type := .int, accessFlags := 26, slot := 5, constantValue := 0 }, { name := "allowSecurityManager", type := .int, accessFlags := 10, slot := 6, constantValue := 0 }, { name := "security", type := (.object "java/lang/SecurityManager"), accessFlags := 74, slot := 7, constantValue := 0 }, { name := "notSupportedJnuEncoding", type := (.object "java/lang/String"), accessFlags := 10, slot := 8, constantValue := 0 }, { name := "cons", type := (.object "java/io/Console"), accessFlags := 74, slot := 9, constantValue := 0 }, { name := "initialErrStream", type := (.object "java/io/PrintStream"), accessFlags := 74, slot := 10, constantValue := 0 }, { name := "props", type := (.object "java/util/Properties"), accessFlags := 10, slot := 11, constantValue := 0 }, { name := "lineSeparator", type := (.object "java/lang/String"), accessFlags := 10, slot := 12, constantValue := 0 }, { name := "bootLayer", type := (.object "java/lang/ModuleLayer"), accessFlags := 8, slot := 13, constantValue := 0 }]
  methods := #[k12m0, k12m1]
  instanceTypes := #[]
  staticTypes := #[(.object "java/io/InputStream"), (.object "java/io/PrintStream"), (.object "java/io/PrintStream"), (.object "java/io/InputStream"), .int, .int, .int, (.object "java/lang/SecurityManager"), (.object "java/lang/String"), (.object "java/io/Console"), (.object "java/io/PrintStream"), (.object "java/util/Properties"), (.object "java/lang/String"), (.object "java/lang/ModuleLayer")]
  resolved := Array.replicate 834 none
  statics := none }

def pool13 : Array CpInfo := pool [(2, .class_ 4), (1, u "java/lang/Object"), (0, u "<init>"), (0, u "()V"), (17, .class_ 26), (1, u "jdk/internal/util/Preconditions"), (6, u "checkIndex"), (21, .class_ 56), (0, u "jdk/internal/util/Preconditions$4"), (57, .class_ 115), (0, u "jdk/internal/util/Preconditions$1"), (7, u "SIOOBE_FORMATTER"), (0, u "Ljava/util/function/BiFunction;"), (0, .class_ 126), (0, u "jdk/internal/util/Preconditions$2"), (3, u "AIOOBE_FORMATTER"), (0, .class_ 132), (0, u "jdk/internal/util/Preconditions$3"), (3, u "IOOBE_FORMATTER"), (41, u "(IILjava/util/function/BiFunction;)I")] 15

def k13m0 : Method := { name := "<init>", desc := "()V", sig := { parameters := [], returnType := none }, accessFlags := 1, code := none }
def k13c1 : Code := { maxStack := 3, maxLocals := 3, code := jdk_41_method_11_code, exceptionTable := #[], attributes := #[] }
def k13m1 : Method := { name := "checkIndex", desc := "(IILjava/util/function/BiFunction;)I", sig := { parameters := [.int, .int, (.object "java/util/function/BiFunction")], returnType := some .int }, accessFlags := 9, code := some k13c1 }
/-- jdk/internal/util/Preconditions -/
def k13 : Class := { plain "jdk/internal/util/Preconditions" (some 0) with
  accessFlags := 33
  interfaces := #[]
  cf := some (fileOf pool13 24 #[.nestMembers #[55, 131, 125, 114]] #[{ accessFlags := 1, nameIndex := 5, descriptorIndex := 6, attributes := #[] }, { accessFlags := 9, nameIndex := 33, descriptorIndex := 178, attributes := #[] }] 33 2 #[] #[{ accessFlags := 25, nameIndex := 123, descriptorIndex := 124, attributes := #[] }, { accessFlags := 25, nameIndex := 130, descriptorIndex := 124, attributes := #[] }, { accessFlags := 25, nameIndex := 136, descriptorIndex := 124, attributes := #[] }])
  fields := #[{ name := "SIOOBE_FORMATTER", type := (.object "java/util/function/BiFunction"), accessFlags := 25, slot := 0, constantValue := 0 }, { name := "AIOOBE_FORMATTER", type := (.object "java/util/function/BiFunction"), accessFlags := 25, slot := 1, constantValue := 0 }, { name := "IOOBE_FORMATTER", type := (.object "java/util/function/BiFunction"), accessFlags := 25, slot := 2, constantValue := 0 }]
  methods := #[k13m0, k13m1]
  instanceTypes := #[]
  staticTypes := #[(.object "java/util/function/BiFunction"), (.object "java/util/function/BiFunction"), (.object "java/util/function/BiFunction")]
  resolved := Array.replicate 194 none
  statics := some 3 }

def pool14 : Array CpInfo := pool [(1, .class_ 2), (0, u "java/lang/Character"), (18, u "value"), (0, u "C"), (19, .class_ 44), (1, u "java/lang/Object"), (3, .class_ 50), (1, u "java/lang/Character$CharacterCache"), (24, .integer 55296), (1, .integer 57344), (3, u "(C)Z"), (202, u "$assertionsDisabled"), (0, u "Z"), (21, .class_ 309), (1, u "java/lang/Character$UnicodeBlock"), (73, u "TYPE"), (0, u "Ljava/lang/Class;"), (0, .class_ 386), (0, u "java/io/Serializable"), (0, .class_ 388), (0, u "java/lang/Comparable"), (0, .class_ 390), (0, u "java/lang/constant/Constable"), (0, u "MIN_RADIX"), (0, u "I"), (2, u "MAX_RADIX"), (1, u "MIN_VALUE"), (1, u "MAX_VALUE"), (3, u "UNASSIGNED"), (0, u "B"), (0, u "UPPERCASE_LETTER"), (1, u "LOWERCASE_LETTER"), (0, u "TITLECASE_LETTER"), (1, u "MODIFIER_LETTER"), (1, u "OTHER_LETTER"), (1, u "NON_SPACING_MARK"), (1, u "ENCLOSING_MARK"), (1, u "COMBINING_SPACING_MARK"), (1, u "DECIMAL_DIGIT_NUMBER"), (1, u "LETTER_NUMBER"), (1, u "OTHER_NUMBER"), (1, u "SPACE_SEPARATOR"), (1, u "LINE_SEPARATOR"), (1, u "PARAGRAPH_SEPARATOR"), (1, u "CONTROL"), (1, u "FORMAT"), (1, u "PRIVATE_USE"), (1, u "SURROGATE"), (1, u "DASH_PUNCTUATION"), (1, u "START_PUNCTUATION"), (1, u "END_PUNCTUATION"), (1, u "CONNECTOR_PUNCTUATION"), (1, u "OTHER_PUNCTUATION"), (1, u "MATH_SYMBOL"), (1, u "CURRENCY_SYMBOL"), (1, u "MODIFIER_SYMBOL"), (1, u "OTHER_SYMBOL"), (1, u "INITIAL_QUOTE_PUNCTUATION"), (1, u "FINAL_QUOTE_PUNCTUATION"), (1, u "ERROR"), (1, u "DIRECTIONALITY_UNDEFINED"), (0, u "DIRECTIONALITY_LEFT_TO_RIGHT"), (0, u "DIRECTIONALITY_RIGHT_TO_LEFT"), (0, u "DIRECTIONALITY_RIGHT_TO_LEFT_ARABIC"), (0, u "DIRECTIONALITY_EUROPEAN_NUMBER"), (0, u "DIRECTIONALITY_EUROPEAN_NUMBER_SEPARATOR"), (0, u "DIRECTIONALITY_EUROPEAN_NUMBER_TERMINATOR"), (0, u "DIRECTIONALITY_ARABIC_NUMBER"), (0, u "DIRECTIONALITY_COMMON_NUMBER_SEPARATOR"), (0, u "DIRECTIONALITY_NONSPACING_MARK"), (0, u "DIRECTIONALITY_BOUNDARY_NEUTRAL"), (0, u "DIRECTIONALITY_PARAGRAPH_SEPARATOR"), (0, u "DIRECTIONALITY_SEGMENT_SEPARATOR"), (0, u "DIRECTIONALITY_WHITESPACE"), (0, u "DIRECTIONALITY_OTHER_NEUTRALS"), (0, u "DIRECTIONALITY_LEFT_TO_RIGHT_EMBEDDING"), (0, u "DIRECTIONALITY_LEFT_TO_RIGHT_OVERRIDE"), (0, u "DIRECTIONALITY_RIGHT_TO_LEFT_EMBEDDING"), (0, u "DIRECTIONALITY_RIGHT_TO_LEFT_OVERRIDE"), (1, u "DIRECTIONALITY_POP_DIRECTIONAL_FORMAT"), (0, u "DIRECTIONALITY_LEFT_TO_RIGHT_ISOLATE"), (0, u "DIRECTIONALITY_RIGHT_TO_LEFT_ISOLATE"), (0, u "DIRECTIONALITY_FIRST_STRONG_ISOLATE"), (0, u "DIRECTIONALITY_POP_DIRECTIONAL_ISOLATE"), (0, u "MIN_HIGH_SURROGATE"), (0, u "MAX_HIGH_SURROGATE"), (1, u "MIN_LOW_SURROGATE"), (0, u "MAX_LOW_SURROGATE"), (1, u "MIN_SURROGATE"), (0, u "MAX_SURROGATE"), (0, u "MIN_SUPPLEMENTARY_CODE_POINT"), (0, u "MIN_CODE_POINT"), (0, u "MAX_CODE_POINT"), (1, u "serialVersionUID"), (0, u "J"), (2, u "SIZE"), (0, u "BYTES"), (24, u "isSurrogate"), (63, .class_ 596), (0, u "java/lang/Character$UnicodeScript"), (0, .class_ 598), (0, u "java/lang/Character$Subset")] 5

def k14c0 : Code := { maxStack := 2, maxLocals := 1, code := jdk_89_method_16_code, exceptionTable := #[], attributes := #[] }
def k14m0 : Method := { name := "isSurrogate", desc := "(C)Z", sig := { parameters := [.char], returnType := some .boolean }, accessFlags := 9, code := some k14c0 }
/-- java/lang/Character -/
def k14 : Class := { plain "java/lang/Character" (some 0) with
  accessFlags := 49
  interfaces := #[2, 3, 5]
  cf := some (fileOf pool14 1 #[.nestMembers #[48, 595, 307, 597]] #[{ accessFlags := 9, nameIndex := 531, descriptorIndex := 81, attributes := #[] }] 49 42 #[385, 387, 389] #[{ accessFlags := 25, nameIndex := 391, descriptorIndex := 392, attributes := #[] }, { accessFlags := 25, nameIndex := 395, descriptorIndex := 392, attributes := #[] }, { accessFlags := 25, nameIndex := 397, descriptorIndex := 22, attributes := #[] }, { accessFlags := 25, nameIndex := 399, descriptorIndex := 22, attributes := #[] }, { accessFlags := 25, nameIndex := 383, descriptorIndex := 384, attributes := #[] }, { accessFlags := 25, nameIndex := 403, descriptorIndex := 404, attributes := #[] }, { accessFlags := 25, nameIndex := 405, descriptorIndex := 404, attributes := #[] }, { accessFlags := 25, nameIndex := 407, descriptorIndex := 404, attributes := #[] }, { accessFlags := 25, nameIndex := 408, descriptorIndex := 404, attributes := #[] }, { accessFlags := 25, nameIndex := 410, descriptorIndex := 404, attributes := #[] }, { accessFlags := 25, nameIndex := 412, descriptorIndex := 404, attributes := #[] }, { accessFlags := 25, nameIndex := 414, descriptorIndex := 404, attributes := #[] }, { accessFlags := 25, nameIndex := 416, descriptorIndex := 404, attributes := #[] }, { accessFlags := 25, nameIndex := 418, descriptorIndex := 404, attributes := #[] }, { accessFlags := 25, nameIndex := 420, descriptorIndex := 404, attributes := #[] }, { accessFlags := 25, nameIndex := 422, descriptorIndex := 404, attributes := #[] }, { accessFlags := 25, nameIndex := 424, descriptorIndex := 404, attributes := #[] }, { accessFlags := 25, nameIndex := 426, descriptorIndex := 404, attributes := #[] }, { accessFlags := 25, nameIndex := 428, descriptorIndex := 404, attributes := #[] }, { accessFlags := 25, nameIndex := 430, descriptorIndex := 404, attributes := #[] }, { accessFlags := 25, nameIndex := 432, descriptorIndex := 404, attributes := #[] }, { accessFlags := 25, nameIndex := 434, descriptorIndex := 404, attributes := #[] }, { accessFlags := 25, nameIndex := 436, descriptorIndex := 404, attributes := #[] }, { accessFlags := 25, nameIndex := 438, descriptorIndex := 404, attributes := #[] }, { accessFlags := 25, nameIndex := 440, descriptorIndex := 404, attributes := #[] }, { accessFlags := 25, nameIndex := 442, descriptorIndex := 404, attributes := #[] }, { accessFlags := 25, nameIndex := 444, descriptorIndex := 404, attributes := #[] }, { accessFlags := 25, nameIndex := 446, descriptorIndex := 404, attributes := #[] }, { accessFlags := 25, nameIndex := 448, descriptorIndex := 404, attributes := #[] }, { accessFlags := 25, nameIndex := 450, descriptorIndex := 404, attributes := #[] }, { accessFlags := 25, nameIndex := 452, descriptorIndex := 404, attributes := #[] }, { accessFlags := 25, nameIndex := 454, descriptorIndex := 404, attributes := #[] }, { accessFlags := 25, nameIndex := 456, descriptorIndex := 404, attributes := #[] }, { accessFlags := 25, nameIndex := 458, descriptorIndex := 404, attributes := #[] }, { accessFlags := 25, nameIndex := 460, descriptorIndex := 404, attributes := #[] }, { accessFlags := 24, nameIndex := 462, descriptorIndex := 392, attributes := #[] }, { accessFlags := 25, nameIndex := 464, descriptorIndex := 404, attributes := #[] }, { accessFlags := 25, nameIndex := 465, descriptorIndex := 404, attributes := #[] }, { accessFlags := 25, nameIndex := 466, descriptorIndex := 404, attributes := #[] }, { accessFlags := 25, nameIndex := 467, descriptorIndex := 404, attributes := #[] }, { accessFlags := 25, nameIndex := 468, descriptorIndex := 404, attributes := #[] }, { accessFlags := 25, nameIndex := 469, descriptorIndex := 404, attributes := #[] }, { accessFlags := 25, nameIndex := 470, descriptorIndex := 404, attributes := #[] }, { accessFlags := 25, nameIndex := 471, descriptorIndex := 404, attributes := #[] }, { accessFlags := 25, nameIndex := 472, descriptorIndex := 404, attributes := #[] }, { accessFlags := 25, nameIndex := 473, descriptorIndex := 404, attributes := #[] }, { accessFlags := 25, nameIndex := 474, descriptorIndex := 404, attributes := #[] }, { accessFlags := 25, nameIndex := 475, descriptorIndex := 404, attributes := #[] }, { accessFlags := 25, nameIndex := 476, descriptorIndex := 404, attributes := #[] }, { accessFlags := 25, nameIndex := 477, descriptorIndex := 404, attributes := #[] }, { accessFlags := 25, nameIndex := 478, descriptorIndex := 404, attributes := #[] }, { accessFlags := 25, nameIndex := 479, descriptorIndex := 404, attributes := #[] }, { accessFlags := 25, nameIndex := 480, descriptorIndex := 404, attributes := #[] }, { accessFlags := 25, nameIndex := 481, descriptorIndex := 404, attributes := #[] }, { accessFlags := 25, nameIndex := 482, descriptorIndex := 404, attributes := #[] }, { accessFlags := 25, nameIndex := 484, descriptorIndex := 404, attributes := #[] }, { accessFlags := 25, nameIndex := 485, descriptorIndex := 404, attributes := #[] }, { accessFlags := 25, nameIndex := 486, descriptorIndex := 404, attributes := #[] }, { accessFlags := 25, nameIndex := 487, descriptorIndex := 404, attributes := #[] }, { accessFlags := 25, nameIndex := 488, descriptorIndex := 404, attributes := #[] }, { accessFlags := 25, nameIndex := 489, descriptorIndex := 22, attributes := #[] }, { accessFlags := 25, nameIndex := 490, descriptorIndex := 22, attributes := #[] }, { accessFlags := 25, nameIndex := 492, descriptorIndex := 22, attributes := #[] }, { accessFlags := 25, nameIndex := 493, descriptorIndex := 22, attributes := #[] }, { accessFlags := 25, nameIndex := 495, descriptorIndex := 22, attributes := #[] }, { accessFlags := 25, nameIndex := 496, descriptorIndex := 22, attributes := #[] }, { accessFlags := 25, nameIndex := 497, descriptorIndex := 392, attributes := #[] }, { accessFlags := 25, nameIndex := 498, descriptorIndex := 392, attributes := #[] }, { accessFlags := 25, nameIndex := 499, descriptorIndex := 392, attributes := #[] }, { accessFlags := 18, nameIndex := 21, descriptorIndex := 22, attributes := #[] }, { accessFlags := 26, nameIndex := 501, descriptorIndex := 502, attributes := #[] }, { accessFlags := 25, nameIndex := 505, descriptorIndex := 392, attributes := #[] }, { accessFlags := 25, nameIndex := 506, descriptorIndex := 392, attributes := #[] }, { accessFlags := 4120, nameIndex := 284, descriptorIndex := 285, attributes := #[] }])
  fields := #[{ name := "MIN_RADIX", type := .int, accessFlags := 25, slot := 0, constantValue := 0 }, { name := "MAX_RADIX", type := .int, accessFlags := 25, slot := 1, constantValue := 0 }, { name := "MIN_VALUE", type := .char, accessFlags := 25, slot := 2, constantValue := 0 }, { name := "MAX_VALUE", type := .char, accessFlags := 25, slot := 3, constantValue := 0 }, { name := "TYPE", type := (.object "java/lang/Class"), accessFlags := 25, slot := 4, constantValue := 0 }, { name := "UNASSIGNED", type := .byte, accessFlags := 25, slot := 5, constantValue := 0 }, { name := "UPPERCASE_LETTER", type := .byte, accessFlags := 25, slot := 6, constantValue := 0 }, { name := "LOWERCASE_LETTER", type := .byte, accessFlags := 25, slot := 7, constantValue := 0 }, { name := "TITLECASE_LETTER", type := .byte, accessFlags := 25, slot := 8, constantValue := 0 }, { name := "MODIFIER_LETTER", type := .byte, accessFlags := 25, slot := 9, constantValue := 0 }, { name := "OTHER_LETTER", type := .byte, accessFlags := 25, slot := 10, constantValue := 0 }, { name := "NON_SPACING_MARK", type := .byte, accessFlags := 25, slot := 11, constantValue := 0 }, { name := "ENCLOSING_MARK", type := .byte, accessFlags := 25, slot := 12, constantValue := 0 }, { name := "COMBINING_SPACING_MARK", type := .byte, accessFlags := 25, slot := 13, constantValue := 0 }, { name := "DECIMAL_DIGIT_NUMBER", type := .byte, accessFlags := 25, slot := 14, constantValue := 0 }, { name := "LETTER_NUMBER", type := .byte, accessFlags := 25, slot := 15, constantValue := 0 }, { name := "OTHER_NUMBER", type := .byte, accessFlags := 25, slot := 16, constantValue := 0 }, { name := "SPACE_SEPARATOR", type := .byte, accessFlags := 25, slot := 17, constantValue := 0 }, { name := "LINE_SEPARATOR", type := .byte, accessFlags := 25, slot := 18, constantValue := 0 }, { name := "PARAGRAPH_SEPARATOR", type := .byte, accessFlags := 25, slot := 19, constantValue := 0 }, { name := "CONTROL", type := .byte, accessFlags := 25, slot := 20, constantValue := 0 }, { name := "FORMAT", type := .byte, accessFlags := 25, slot := 21, constantValue := 0 }, { name := "PRIVATE_USE", type := .byte, accessFlags := 25, slot := 22, constantValue := 0 }, { name := "SURROGATE", type := .byte, accessFlags := 25, slot := 23, constantValue := 0 }, { name := "DASH_PUNCTUATION", type := .byte, accessFlags := 25, slot := 24, constantValue := 0 }, { name := "START_PUNCTUATION", type := .byte, accessFlags := 25, slot := 25, constantValue := 0 }, { name := "END_PUNCTUATION", type := .byte, accessFlags := 25, slot := 26, constantValue := 0 }, { name := "CONNECTOR_PUNCTUATION", type := .byte, accessFlags := 25, slot := 27, constantValue := 0 }, { name := "OTHER_PUNCTUATION", type := .byte, accessFlags := 25, slot := 28, constantValue := 0 }, { name := "MATH_SYMBOL", type := .byte, accessFlags := 25, slot := 29, constantValue := 0 }, { name := "CURRENCY_SYMBOL", type := .byte, accessFlags := 25, slot := 30, constantValue := 0 }, { name := "MODIFIER_SYMBOL", type := .byte, accessFlags := 25, slot := 31, constantValue := 0 }, { name := "OTHER_SYMBOL", type := .byte, accessFlags := 25, slot := 32, constantValue := 0 }, { name := "INITIAL_QUOTE_PUNCTUATION", type := .byte, accessFlags := 25, slot := 33, constantValue := 0 }, { name := "FINAL_QUOTE_PUNCTUATION", type := .byte, accessFlags := 25, slot := 34, constantValue := 0 }, { name := "ERROR", type := .int, accessFlags := 24, slot := 35, constantValue := 0 }, { name := "DIRECTIONALITY_UNDEFINED", type := .byte, accessFlags := 25, slot := 36, constantValue := 0 }, { name := "DIRECTIONALITY_LEFT_TO_RIGHT", type := .byte, accessFlags := 25, slot := 37, constantValue := 0 }, { name := "DIRECTIONALITY_RIGHT_TO_LEFT", type := .byte, accessFlags := 25, slot := 38, constantValue := 0 }, { name := "DIRECTIONALITY_RIGHT_TO_LEFT_ARABIC", type := .byte, accessFlags := 25, slot := 39, constantValue := 0 }, { name := "DIRECTIONALITY_EUROPEAN_NUMBER", type := .byte, accessFlags := 25, slot := 40, constantValue := 0 }, { name := "DIRECTIONALITY_EUROPEAN_NUMBER_SEPARATOR", type := .byte, accessFlags := 25, slot := 41, constantValue := 0 }, { name := "DIRECTIONALITY_EUROPEAN_NUMBER_TERMINATOR", type := .byte, accessFlags := 25, slot := 42, constantValue := 0 }, { name := "DIRECTIONALITY_ARABIC_NUMBER", type := .byte, accessFlags := 25, slot := 43, constantValue := 0 }, { name := "DIRECTIONALITY_COMMON_NUMBER_SEPARATOR", type := .byte, accessFlags := 25, slot := 44, constantValue := 0 }, { name := "DIRECTIONALITY_NONSPACING_MARK", type := .byte, accessFlags := 25, slot := 45, constantValue := 0 }, { name := "DIRECTIONALITY_BOUNDARY_NEUTRAL", type := .byte, accessFlags := 25, slot := 46, constantValue := 0 }, { name := "DIRECTIONALITY_PARAGRAPH_SEPARATOR", type := .byte, accessFlags := 25, slot := 47, constantValue := 0 }, { name := "DIRECTIONALITY_SEGMENT_SEPARATOR", type := .byte, accessFlags := 25, slot := 48, constantValue := 0 }, { name := "DIRECTIONALITY_WHITESPACE", type := .byte, accessFlags := 25, slot := 49, constantValue := 0 }, { name := "DIRECTIONALITY_OTHER_NEUTRALS", type := .byte, accessFlags := 25, slot := 50, constantValue := 0 }, { name := "DIRECTIONALITY_LEFT_TO_RIGHT_EMBEDDING", type := .byte, accessFlags := 25, slot := 51, constantValue := 0 }, { name := "DIRECTIONALITY_LEFT_TO_RIGHT_OVERRIDE", type := .byte, accessFlags := 25, slot := 52, constantValue := 0 }, { name := "DIRECTIONALITY_RIGHT_TO_LEFT_EMBEDDING", type := .byte, accessFlags := 25, slot := 53, constantValue := 0 }, { name := "DIRECTIONALITY_RIGHT_TO_LEFT_OVERRIDE", type := .byte, accessFlags := 25, slot := 54, constantValue := 0 }, { name := "DIRECTIONALITY_POP_DIRECTIONAL_FORMAT", type := .byte, accessFlags := 25, slot := 55, constantValue := 0 }, { name := "DIRECTIONALITY_LEFT_TO_RIGHT_ISOLATE", type := .byte, accessFlags := 25, slot := 56, constantValue := 0 }, { name := "DIRECTIONALITY_RIGHT_TO_LEFT_ISOLATE", type := .byte, accessFlags := 25, slot := 57, constantValue := 0 }, { name := "DIRECTIONALITY_FIRST_STRONG_ISOLATE", type := .byte, accessFlags := 25, slot := 58, constantValue := 0 }, { name := "DIRECTIONALITY_POP_DIRECTIONAL_ISOLATE", type := .byte, accessFlags := 25, slot := 59, constantValue := 0 }, { name := "MIN_HIGH_SURROGATE", type := .char, accessFlags := 25, slot := 60, constantValue := 0 }, { name := "MAX_HIGH_SURROGATE", type := .char, accessFlags := 25, slot := 61, constantValue := 0 }, { name := "MIN_LOW_SURROGATE", type := .char, accessFlags := 25, slot := 62, constantValue := 0 }, { name := "MAX_LOW_SURROGATE", type := .char, accessFlags := 25, slot := 63, constantValue := 0 }, { name := "MIN_SURROGATE", type := .char, accessFlags := 25, slot := 64, constantValue := 0 }, { name := "MAX_SURROGATE", type := .char, accessFlags := 25, slot := 65, constantValue := 0 }, { name := "MIN_SUPPLEMENTARY_CODE_POINT", type := .int, accessFlags := 25, slot := 66, constantValue := 0 }, { name := "MIN_CODE_POINT", type := .int, accessFlags := 25, slot := 67, constantValue := 0 }, { name := "MAX_CODE_POINT", type := .int, accessFlags := 25, slot := 68, constantValue := 0 }, { name := "value", type := .char, accessFlags := 18, slot := 0, constantValue := 0 }, { name := "serialVersionUID", type := .long, accessFlags := 26, slot := 69, constantValue := 0 }, { name := "SIZE", type := .int, accessFlags := 25, slot := 70, constantValue := 0 }, { name := "BYTES", type := .int, accessFlags := 25, slot := 71, constantValue := 0 }, { name := "$assertionsDisabled", type := .boolean, accessFlags := 4120, slot := 72, constantValue := 0 }]
  methods := #[k14m0]
  instanceTypes := #[.char]
  staticTypes := #[.int, .int, .char, .char, (.object "java/lang/Class"), .byte, .byte, .byte, .byte, .byte, .byte, .byte, .byte, .byte, .byte, .byte, .byte, .byte, .byte, .byte, .byte, .byte, .byte, .byte, .byte, .byte, .byte, .byte, .byte, .byte, .byte, .byte, .byte, .byte, .byte, .int, .byte, .byte, .byte, .byte, .byte, .byte, .byte, .byte, .byte, .byte, .byte, .byte, .byte, .byte, .byte, .byte, .byte, .byte, .byte, .byte, .byte, .byte, .byte, .byte, .char, .char, .char, .char, .char, .char, .int, .int, .int, .long, .int, .int, .boolean]
  resolved := Array.replicate 604 none
  statics := none }

def pool15 : Array CpInfo := pool [(1, .class_ 2), (0, u "java/lang/String"), (1, .class_ 6), (1, u "java/lang/Object"), (0, u "<init>"), (0, u "()V"), (0, .methodref 1 10), (0, .nameAndType 11 12), (0, u "checkIndex"), (0, u "(II)V"), (1, .class_ 16), (1, u "java/lang/StringLatin1"), (36, u "([BI)C"), (67, u "$assertionsDisabled"), (0, u "Z"), (98, .class_ 223), (1, u "java/lang/StringLatin1$LinesSpliterator"), (28, u "charAt"), (137, .class_ 391), (0, u "java/lang/StringLatin1$CharsSpliterator")] 3

def k15m0 : Method := { name := "<init>", desc := "()V", sig := { parameters := [], returnType := none }, accessFlags := 0, code := none }
def k15c1 : Code := { maxStack := 2, maxLocals := 2, code := jdk_43_method_2_code, exceptionTable := #[], attributes := #[] }
def k15m1 : Method := { name := "charAt", desc := "([BI)C", sig := { parameters := [(.array .byte), .int], returnType := some .char }, accessFlags := 9, code := some k15c1 }
/-- java/lang/StringLatin1 -/
def k15 : Class := { plain "java/lang/StringLatin1" (some 0) with
  accessFlags := 48
  interfaces := #[]
  cf := some (fileOf pool15 14 #[.nestMembers #[390, 221]] #[{ accessFlags := 0, nameIndex := 7, descriptorIndex := 8, attributes := #[] }, { accessFlags := 9, nameIndex := 252, descriptorIndex := 53, attributes := #[] }] 48 4 #[] #[{ accessFlags := 4120, nameIndex := 121, descriptorIndex := 122, attributes := #[] }])
  fields := #[{ name := "$assertionsDisabled", type := .boolean, accessFlags := 4120, slot := 0, constantValue := 0 }]
  methods := #[k15m0, k15m1]
  instanceTypes := #[]
  staticTypes := #[.boolean]
  resolved := Array.replicate 395 none
  statics := none }

def pool16 : Array CpInfo := pool [(9, u "<init>"), (6, .class_ 18), (1, u "java/lang/Object"), (0, u "()V"), (1, .class_ 23), (1, u "jdk/internal/util/ArraysSupport"), (0, u "LOG2_ARRAY_LONG_INDEX_SCALE"), (0, u "I"), (2, u "U"), (0, u "Ljdk/internal/misc/Unsafe;"), (8, u "BIG_ENDIAN"), (0, u "Z"), (8, u "LOG2_BYTE_BIT_SIZE"), (4, u "LOG2_ARRAY_INT_INDEX_SCALE"), (54, u "JLA"), (0, u "Ljdk/internal/access/JavaLangAccess;"), (11, u "LOG2_ARRAY_BOOLEAN_INDEX_SCALE"), (9, u "LOG2_ARRAY_BYTE_INDEX_SCALE"), (5, u "LOG2_ARRAY_CHAR_INDEX_SCALE"), (5, u "LOG2_ARRAY_SHORT_INDEX_SCALE"), (18, u "LOG2_ARRAY_FLOAT_INDEX_SCALE"), (24, u "LOG2_ARRAY_DOUBLE_INDEX_SCALE"), (89, u "T_BOOLEAN"), (2, u "T_CHAR"), (1, u "T_FLOAT"), (1, u "T_DOUBLE"), (1, u "T_BYTE"), (1, u "T_SHORT"), (1, u "T_INT"), (1, u "T_LONG"), (1, u "SOFT_MAX_ARRAY_LENGTH")] 83

def k16m0 : Method := { name := "<init>", desc := "()V", sig := { parameters := [], returnType := none }, accessFlags := 2, code := none }
/-- jdk/internal/util/ArraysSupport -/
def k16 : Class := { plain "jdk/internal/util/ArraysSupport" (some 0) with
  accessFlags := 33
  interfaces := #[]
  cf := some (fileOf pool16 21 #[] #[{ accessFlags := 2, nameIndex := 9, descriptorIndex := 19, attributes := #[] }] 33 16 #[] #[{ accessFlags := 24, nameIndex := 28, descriptorIndex := 29, attributes := #[] }, { accessFlags := 26, nameIndex := 38, descriptorIndex := 39, attributes := #[] }, { accessFlags := 25, nameIndex := 121, descriptorIndex := 25, attributes := #[] }, { accessFlags := 25, nameIndex := 131, descriptorIndex := 25, attributes := #[] }, { accessFlags := 25, nameIndex := 137, descriptorIndex := 25, attributes := #[] }, { accessFlags := 25, nameIndex := 143, descriptorIndex := 25, attributes := #[] }, { accessFlags := 25, nameIndex := 53, descriptorIndex := 25, attributes := #[] }, { accessFlags := 25, nameIndex := 24, descriptorIndex := 25, attributes := #[] }, { accessFlags := 25, nameIndex := 162, descriptorIndex := 25, attributes := #[] }, { accessFlags := 25, nameIndex := 187, descriptorIndex := 25, attributes := #[] }, { accessFlags := 26, nameIndex := 48, descriptorIndex := 25, attributes := #[] }, { accessFlags := 25, nameIndex := 277, descriptorIndex := 25, attributes := #[] }, { accessFlags := 25, nameIndex := 280, descriptorIndex := 25, attributes := #[] }, { accessFlags := 25, nameIndex := 282, descriptorIndex := 25, attributes := #[] }, { accessFlags := 25, nameIndex := 284, descriptorIndex := 25, attributes := #[] }, { accessFlags := 25, nameIndex := 286, descriptorIndex := 25, attributes := #[] }, { accessFlags := 25, nameIndex := 288, descriptorIndex := 25, attributes := #[] }, { accessFlags := 25, nameIndex := 290, descriptorIndex := 25, attributes := #[] }, { accessFlags := 25, nameIndex := 292, descriptorIndex := 25, attributes := #[] }, { accessFlags := 26, nameIndex := 108, descriptorIndex := 109, attributes := #[] }, { accessFlags := 25, nameIndex := 294, descriptorIndex := 25, attributes := #[] }])
  fields := #[{ name := "U", type := (.object "jdk/internal/misc/Unsafe"), accessFlags := 24, slot := 0, constantValue := 0 }, { name := "BIG_ENDIAN", type := .boolean, accessFlags := 26, slot := 1, constantValue := 0 }, { name := "LOG2_ARRAY_BOOLEAN_INDEX_SCALE", type := .int, accessFlags := 25, slot := 2, constantValue := 0 }, { name := "LOG2_ARRAY_BYTE_INDEX_SCALE", type := .int, accessFlags := 25, slot := 3, constantValue := 0 }, { name := "LOG2_ARRAY_CHAR_INDEX_SCALE", type := .int, accessFlags := 25, slot := 4, constantValue := 0 }, { name := "LOG2_ARRAY_SHORT_INDEX_SCALE", type := .int, accessFlags := 25, slot := 5, constantValue := 0 }, { name := "LOG2_ARRAY_INT_INDEX_SCALE", type := .int, accessFlags := 25, slot := 6, constantValue := 0 }, { name := "LOG2_ARRAY_LONG_INDEX_SCALE", type := .int, accessFlags := 25, slot := 7, constantValue := 0 }, { name := "LOG2_ARRAY_FLOAT_INDEX_SCALE", type := .int, accessFlags := 25, slot := 8, constantValue := 0 }, { name := "LOG2_ARRAY_DOUBLE_INDEX_SCALE", type := .int, accessFlags := 25, slot := 9, constantValue := 0 }, { name := "LOG2_BYTE_BIT_SIZE", type := .int, accessFlags := 26, slot := 10, constantValue := 0 }, { name := "T_BOOLEAN", type := .int, accessFlags := 25, slot := 11, constantValue := 0 }, { name := "T_CHAR", type := .int, accessFlags := 25, slot := 12, constantValue := 0 }, { name := "T_FLOAT", type := .int, accessFlags := 25, slot := 13, constantValue := 0 }, { name := "T_DOUBLE", type := .int, accessFlags := 25, slot := 14, constantValue := 0 }, { name := "T_BYTE", type := .int, accessFlags := 25, slot := 15, constantValue := 0 }, { name := "T_SHORT", type := .int, accessFlags := 25, slot := 16, constantValue := 0 }, { name := "T_INT", type := .int, accessFlags := 25, slot := 17, constantValue := 0 }, { name := "T_LONG", type := .int, accessFlags := 25, slot := 18, constantValue := 0 }, { name := "JLA", type := (.object "jdk/internal/access/JavaLangAccess"), accessFlags := 26, slot := 19, constantValue := 0 }, { name := "SOFT_MAX_ARRAY_LENGTH", type := .int, accessFlags := 25, slot := 20, constantValue := 0 }]
  methods := #[k16m0]
  instanceTypes := #[]
  staticTypes := #[(.object "jdk/internal/misc/Unsafe"), .boolean, .int, .int, .int, .int, .int, .int, .int, .int, .int, .int, .int, .int, .int, .int, .int, .int, .int, (.object "jdk/internal/access/JavaLangAccess"), .int]
  resolved := Array.replicate 378 none
  statics := none }

def pool17 : Array CpInfo := pool [(1, u "java/lang/Cloneable"), (0, .class_ 1), (0, u "java/lang/Object"), (0, .class_ 3)] 3

/-- java/lang/Cloneable -/
def k17 : Class := { plain "java/lang/Cloneable" (some 0) with
  accessFlags := 1537
  interfaces := #[]
  cf := some (fileOf pool17 2 #[] #[] 1537 4 #[] #[])
  fields := #[]
  methods := #[]
  instanceTypes := #[]
  staticTypes := #[]
  resolved := Array.replicate 8 none
  statics := none }

/-- the primitive byte -/
def k18 : Class := { plain "byte" none with kind := .primitive 'B', accessFlags := 0x411 }
/-- [B -/
def k19 : Class := { plain "[B" (some 0) with kind := .array 18 .byte, interfaces := #[17, 2], accessFlags := 1041 }

/-- the primitive char -/
def k20 : Class := { plain "char" none with kind := .primitive 'C', accessFlags := 0x411 }
/-- [C -/
def k21 : Class := { plain "[C" (some 0) with kind := .array 20 .char, interfaces := #[17, 2], accessFlags := 1041 }

/-- the primitive int -/
def k22 : Class := { plain "int" none with kind := .primitive 'I', accessFlags := 0x411 }
/-- [I -/
def k23 : Class := { plain "[I" (some 0) with kind := .array 22 .int, interfaces := #[17, 2], accessFlags := 1041 }

def heap : Heap := #[{ cls := 7, slots := #[.long 0, .int 1, .null, .int 0, .null, .int 0, .int 0], vm := .statics 7 },
  { cls := 8, slots := #[.int 0, .int 8, .int 0, .int 1], vm := .statics 8 },
  { cls := 9, slots := #[.ref 4], vm := .statics 9 },
  { cls := 13, slots := #[.null, .null, .null], vm := .statics 13 },
  { cls := 19, slots := #[.int 48, .int 49, .int 50, .int 51, .int 52, .int 53, .int 54, .int 55, .int 56, .int 57, .int 65, .int 66, .int 67, .int 68, .int 69, .int 70], vm := .none }]
def classes : Array Class := #[k0, k1, k2, k3, k4, k5, k6, k7, k8, k9, k10, k11, k12, k13, k14, k15, k16, k17, k18, k19, k20, k21, k22, k23]
def interned : List (Array UInt16 × Addr) := []
def slotsUsed : Nat := 31
def theMethod : MethodId := ⟨1, 1⟩
def args0 : Array Value := #[.int 65, .int 300, .int 1]
def aboutOver (below : List Frame) : State where
  vm := { classes := classes, interned := interned.toArray }
  heap := heap
  slotsUsed := slotsUsed
  threads := #[{ frames := .invoking theMethod args0 :: below }]
def below0 : List Frame := [.native { method := ⟨0, 0⟩, args := #[] }]
def about1 : State := aboutOver below0
def p0 : Program := .bare "" "" ""
def e0 : Env := launch0.env 0 0 0
theorem w_frames : about1.frames = Frame.invoking theMethod args0 :: below0 := rfl
set_option maxRecDepth 65536 in
theorem w_args : argsFit about1.vm theMethod args0 = true := by decide +kernel
set_option maxRecDepth 65536 in
theorem w_heap : heapFits about1 = true := by decide +kernel
set_option maxRecDepth 65536 in
theorem w_runnable : about1.curStatus? = some .runnable := by decide +kernel
set_option maxRecDepth 65536 in
theorem w_alone : about1.alone = true := by decide +kernel
set_option maxRecDepth 65536 in
theorem w_named : about1.methodNamed? x = some theMethod := by decide +kernel
set_option maxRecDepth 65536 in
theorem w_hears : about1.hears theMethod below0 = true := by decide +kernel
set_option maxRecDepth 65536 in
theorem w_ripe : about1.ripe theMethod args0 below0 = true := by decide +kernel
theorem w_running : about1.status = .running := rfl
set_option maxRecDepth 65536 in
theorem w_room : about1.hasRoom e0.platform room_1 = true :=
  launch0.hasRoom_least _ room_1 (by decide +kernel) (by decide +kernel) (by decide +kernel) (by decide +kernel) (by decide +kernel) (by decide +kernel)
theorem allAtoms_all (ts : List Jvm.Cond) (a : Array Jvm.Value) (st : Jvm.State) : (allAtoms ts).before a st = ts.all (fun c => c.before a st) := by
  induction ts with
  | nil => rfl
  | cons c t ih =>
    show (Jvm.Cond.and c (allAtoms t)).before a st = _
    rw [Jvm.Cond.before_and, ih, List.all_cons]
def words1 : List Jvm.Cond := Jvm.Cond.code x code maxLocals ret :: tables_1
/-- a 'code' word, met by the world's own term for the bytes: nothing is compared byte by byte -/
theorem code_word {y : MethodName} {bytes : ByteArray} {mx : Nat} {rt : Option FieldType} {a : Array Value} {s : State} {m : MethodId} {meth : Method} {c : Code} (h1 : s.methodNamed? y = some m) (h2 : s.vm.method? m = some meth) (h3 : meth.code = some c) (h4 : c.code = bytes)
    (h5 : (c.maxLocals == mx && c.exceptionTable.isEmpty && decide (c.maxStack ≤ mostOperands) && decide (meth.sig.returnType = rt) && !meth.locks && decide (parseMethodDescriptor y.desc = some meth.sig)) = true) : (Jvm.Cond.code y bytes mx rt).before a s = true := by
  simp only [Bool.and_eq_true, beq_iff_eq, Bool.not_eq_true', decide_eq_true_eq] at h5
  obtain ⟨⟨⟨⟨⟨g1, g2⟩, g3⟩, g4⟩, g5⟩, g6⟩ := h5
  simp [Cond.before, Cond.holds, Cond.value, h1, h2, h3, h4, g1, g2, g3, g4, g5, g6]
def isCode : Jvm.Cond → Bool
  | .code _ _ _ _ => true
  | _ => false
theorem all_split {L : List Jvm.Cond} {P : Jvm.Cond → Bool} (h1 : L.all (fun c => isCode c || P c) = true) (h2 : ∀ c ∈ L.filter isCode, P c = true) : L.all P = true := by
  refine List.all_eq_true.mpr fun c hc => ?_
  have h := List.all_eq_true.mp h1 c hc
  rcases Bool.eq_false_or_eq_true (isCode c) with hi | hi
  · exact h2 c (List.mem_filter.mpr ⟨hc, hi⟩)
  · simpa [hi] using h
set_option maxRecDepth 65536 in
theorem w_c0 : (Jvm.Cond.code x code maxLocals ret).before args0 about1 = true := code_word (m := ⟨1, 1⟩) (meth := k1m1) (c := k1c1) (by decide +kernel) rfl rfl rfl (by decide +kernel)
set_option maxRecDepth 65536 in
theorem w_c1 : (Jvm.Cond.code ({ cls := "java/lang/String", name := "<init>", desc := "([C)V" } : Jvm.MethodName) jdk_42_method_3_code (2 : Nat) (Option.none : Option Jvm.ClassFile.FieldType)).before args0 about1 = true := code_word (m := ⟨7, 1⟩) (meth := k7m1) (c := k7c1) (by decide +kernel) rfl rfl rfl (by decide +kernel)
set_option maxRecDepth 65536 in
theorem w_c2 : (Jvm.Cond.code ({ cls := "java/lang/String", name := "<init>", desc := "([CIILjava/lang/Void;)V" } : Jvm.MethodName) jdk_42_method_149_code (6 : Nat) (Option.none : Option Jvm.ClassFile.FieldType)).before args0 about1 = true := code_word (m := ⟨7, 4⟩) (meth := k7m4) (c := k7c4) (by decide +kernel) rfl rfl rfl (by decide +kernel)
set_option maxRecDepth 65536 in
theorem w_c3 : (Jvm.Cond.code ({ cls := "java/lang/Object", name := "<init>", desc := "()V" } : Jvm.MethodName) object_method_1_code (1 : Nat) (Option.none : Option Jvm.ClassFile.FieldType)).before args0 about1 = true := code_word (m := ⟨0, 0⟩) (meth := k0m0) (c := k0c0) (by decide +kernel) rfl rfl rfl (by decide +kernel)
set_option maxRecDepth 65536 in
theorem w_c4 : (Jvm.Cond.code ({ cls := "java/lang/StringUTF16", name := "compress", desc := "([CII)[B" } : Jvm.MethodName) jdk_52_method_16_code (6 : Nat) (Option.some (Jvm.ClassFile.FieldType.array Jvm.ClassFile.FieldType.byte))).before args0 about1 = true := code_word (m := ⟨8, 8⟩) (meth := k8m8) (c := k8c8) (by decide +kernel) rfl rfl rfl (by decide +kernel)
set_option maxRecDepth 65536 in
theorem w_c5 : (Jvm.Cond.code ({ cls := "java/lang/StringUTF16", name := "compress", desc := "([CI[BII)I" } : Jvm.MethodName) jdk_52_method_21_code (7 : Nat) (Option.some Jvm.ClassFile.FieldType.int)).before args0 about1 = true := code_word (m := ⟨8, 9⟩) (meth := k8m9) (c := k8c9) (by decide +kernel) rfl rfl rfl (by decide +kernel)
set_option maxRecDepth 65536 in
theorem w_c6 : (Jvm.Cond.code ({ cls := "java/lang/StringUTF16", name := "coderFromArrayLen", desc := "([BI)B" } : Jvm.MethodName) jdk_52_method_15_code (2 : Nat) (Option.some Jvm.ClassFile.FieldType.byte)).before args0 about1 = true := code_word (m := ⟨8, 7⟩) (meth := k8m7) (c := k8c7) (by decide +kernel) rfl rfl rfl (by decide +kernel)
set_option maxRecDepth 65536 in
theorem w_c7 : (Jvm.Cond.code ({ cls := "com/example/dijtabla/dijtabla/JsonText", name := "<init>", desc := "()V" } : Jvm.MethodName) prog_10_method_1_code (1 : Nat) (Option.none : Option Jvm.ClassFile.FieldType)).before args0 about1 = true := code_word (m := ⟨9, 0⟩) (meth := k9m0) (c := k9c0) (by decide +kernel) rfl rfl rfl (by decide +kernel)
set_option maxRecDepth 65536 in
theorem w_c8 : (Jvm.Cond.code ({ cls := "com/example/dijtabla/dijtabla/JsonText", name := "bytes", desc := "()[B" } : Jvm.MethodName) prog_10_method_11_code (1 : Nat) (Option.some (Jvm.ClassFile.FieldType.array Jvm.ClassFile.FieldType.byte))).before args0 about1 = true := code_word (m := ⟨9, 5⟩) (meth := k9m5) (c := k9c5) (by decide +kernel) rfl rfl rfl (by decide +kernel)
set_option maxRecDepth 65536 in
theorem w_c9 : (Jvm.Cond.code ({ cls := "java/util/Arrays", name := "copyOf", desc := "([BI)[B" } : Jvm.MethodName) jdk_65_method_121_code (3 : Nat) (Option.some (Jvm.ClassFile.FieldType.array Jvm.ClassFile.FieldType.byte))).before args0 about1 = true := code_word (m := ⟨10, 1⟩) (meth := k10m1) (c := k10c1) (by decide +kernel) rfl rfl rfl (by decide +kernel)
set_option maxRecDepth 65536 in
theorem w_c10 : (Jvm.Cond.code ({ cls := "java/lang/Math", name := "min", desc := "(II)I" } : Jvm.MethodName) jdk_29_method_69_code (2 : Nat) (Option.some Jvm.ClassFile.FieldType.int)).before args0 about1 = true := code_word (m := ⟨11, 1⟩) (meth := k11m1) (c := k11c1) (by decide +kernel) rfl rfl rfl (by decide +kernel)
set_option maxRecDepth 65536 in
theorem w_c11 : (Jvm.Cond.code ({ cls := "com/example/dijtabla/dijtabla/JsonTextBytesPinLaw", name := "same", desc := "([B[BII)Z" } : Jvm.MethodName) method_3_code (4 : Nat) (Option.some Jvm.ClassFile.FieldType.boolean)).before args0 about1 = true := code_word (m := ⟨1, 2⟩) (meth := k1m2) (c := k1c2) (by decide +kernel) rfl rfl rfl (by decide +kernel)
set_option maxRecDepth 65536 in
theorem w_c12 : (Jvm.Cond.code ({ cls := "java/lang/StringUTF16", name := "toBytes", desc := "([CII)[B" } : Jvm.MethodName) jdk_52_method_14_code (5 : Nat) (Option.some (Jvm.ClassFile.FieldType.array Jvm.ClassFile.FieldType.byte))).before args0 about1 = true := code_word (m := ⟨8, 6⟩) (meth := k8m6) (c := k8c6) (by decide +kernel) rfl rfl rfl (by decide +kernel)
set_option maxRecDepth 65536 in
theorem w_c13 : (Jvm.Cond.code ({ cls := "java/lang/StringUTF16", name := "newBytesFor", desc := "(I)[B" } : Jvm.MethodName) jdk_52_method_2_code (1 : Nat) (Option.some (Jvm.ClassFile.FieldType.array Jvm.ClassFile.FieldType.byte))).before args0 about1 = true := code_word (m := ⟨8, 1⟩) (meth := k8m1) (c := k8c1) (by decide +kernel) rfl rfl rfl (by decide +kernel)
set_option maxRecDepth 65536 in
theorem w_c14 : (Jvm.Cond.code ({ cls := "java/lang/StringUTF16", name := "newBytesLength", desc := "(I)I" } : Jvm.MethodName) jdk_52_method_3_code (1 : Nat) (Option.some Jvm.ClassFile.FieldType.int)).before args0 about1 = true := code_word (m := ⟨8, 2⟩) (meth := k8m2) (c := k8c2) (by decide +kernel) rfl rfl rfl (by decide +kernel)
set_option maxRecDepth 65536 in
theorem w_c15 : (Jvm.Cond.code ({ cls := "java/lang/StringUTF16", name := "putChar", desc := "([BII)V" } : Jvm.MethodName) jdk_52_method_4_code (3 : Nat) (Option.none : Option Jvm.ClassFile.FieldType)).before args0 about1 = true := code_word (m := ⟨8, 3⟩) (meth := k8m3) (c := k8c3) (by decide +kernel) rfl rfl rfl (by decide +kernel)
set_option maxRecDepth 65536 in
theorem w_c16 : (Jvm.Cond.code ({ cls := "java/lang/StringUTF16", name := "getChar", desc := "([BI)C" } : Jvm.MethodName) jdk_52_method_5_code (2 : Nat) (Option.some Jvm.ClassFile.FieldType.char)).before args0 about1 = true := code_word (m := ⟨8, 4⟩) (meth := k8m4) (c := k8c4) (by decide +kernel) rfl rfl rfl (by decide +kernel)
set_option maxRecDepth 65536 in
theorem w_c17 : (Jvm.Cond.code ({ cls := "com/example/dijtabla/dijtabla/JsonText", name := "startArray", desc := "()Lcom/example/dijtabla/dijtabla/JsonText;" } : Jvm.MethodName) prog_10_method_4_code (1 : Nat) (Option.some (Jvm.ClassFile.FieldType.object "com/example/dijtabla/dijtabla/JsonText"))).before args0 about1 = true := code_word (m := ⟨9, 1⟩) (meth := k9m1) (c := k9c1) (by decide +kernel) rfl rfl rfl (by decide +kernel)
set_option maxRecDepth 65536 in
theorem w_c18 : (Jvm.Cond.code ({ cls := "com/example/dijtabla/dijtabla/JsonText", name := "open", desc := "(C)Lcom/example/dijtabla/dijtabla/JsonText;" } : Jvm.MethodName) prog_10_method_12_code (2 : Nat) (Option.some (Jvm.ClassFile.FieldType.object "com/example/dijtabla/dijtabla/JsonText"))).before args0 about1 = true := code_word (m := ⟨9, 6⟩) (meth := k9m6) (c := k9c6) (by decide +kernel) rfl rfl rfl (by decide +kernel)
set_option maxRecDepth 65536 in
theorem w_c19 : (Jvm.Cond.code ({ cls := "com/example/dijtabla/dijtabla/JsonText", name := "value", desc := "()V" } : Jvm.MethodName) prog_10_method_16_code (1 : Nat) (Option.none : Option Jvm.ClassFile.FieldType)).before args0 about1 = true := code_word (m := ⟨9, 10⟩) (meth := k9m10) (c := k9c10) (by decide +kernel) rfl rfl rfl (by decide +kernel)
set_option maxRecDepth 65536 in
theorem w_c20 : (Jvm.Cond.code ({ cls := "com/example/dijtabla/dijtabla/JsonText", name := "put", desc := "(C)V" } : Jvm.MethodName) prog_10_method_19_code (2 : Nat) (Option.none : Option Jvm.ClassFile.FieldType)).before args0 about1 = true := code_word (m := ⟨9, 12⟩) (meth := k9m12) (c := k9c12) (by decide +kernel) rfl rfl rfl (by decide +kernel)
set_option maxRecDepth 65536 in
theorem w_c21 : (Jvm.Cond.code ({ cls := "com/example/dijtabla/dijtabla/JsonText", name := "room", desc := "(I)V" } : Jvm.MethodName) prog_10_method_20_code (2 : Nat) (Option.none : Option Jvm.ClassFile.FieldType)).before args0 about1 = true := code_word (m := ⟨9, 13⟩) (meth := k9m13) (c := k9c13) (by decide +kernel) rfl rfl rfl (by decide +kernel)
set_option maxRecDepth 65536 in
theorem w_c22 : (Jvm.Cond.code ({ cls := "com/example/dijtabla/dijtabla/JsonText", name := "string", desc := "(Ljava/lang/String;)Lcom/example/dijtabla/dijtabla/JsonText;" } : Jvm.MethodName) prog_10_method_7_code (2 : Nat) (Option.some (Jvm.ClassFile.FieldType.object "com/example/dijtabla/dijtabla/JsonText"))).before args0 about1 = true := code_word (m := ⟨9, 3⟩) (meth := k9m3) (c := k9c3) (by decide +kernel) rfl rfl rfl (by decide +kernel)
set_option maxRecDepth 65536 in
theorem w_c23 : (Jvm.Cond.code ({ cls := "com/example/dijtabla/dijtabla/JsonText", name := "quoted", desc := "(Ljava/lang/String;I)V" } : Jvm.MethodName) prog_10_method_15_code (7 : Nat) (Option.none : Option Jvm.ClassFile.FieldType)).before args0 about1 = true := code_word (m := ⟨9, 9⟩) (meth := k9m9) (c := k9c9) (by decide +kernel) rfl rfl rfl (by decide +kernel)
set_option maxRecDepth 65536 in
theorem w_c24 : (Jvm.Cond.code ({ cls := "java/lang/String", name := "length", desc := "()I" } : Jvm.MethodName) jdk_42_method_54_code (1 : Nat) (Option.some Jvm.ClassFile.FieldType.int)).before args0 about1 = true := code_word (m := ⟨7, 2⟩) (meth := k7m2) (c := k7c2) (by decide +kernel) rfl rfl rfl (by decide +kernel)
set_option maxRecDepth 65536 in
theorem w_c25 : (Jvm.Cond.code ({ cls := "java/lang/String", name := "coder", desc := "()B" } : Jvm.MethodName) jdk_42_method_152_code (1 : Nat) (Option.some Jvm.ClassFile.FieldType.byte)).before args0 about1 = true := code_word (m := ⟨7, 5⟩) (meth := k7m5) (c := k7c5) (by decide +kernel) rfl rfl rfl (by decide +kernel)
set_option maxRecDepth 65536 in
theorem w_c26 : (Jvm.Cond.code ({ cls := "java/lang/String", name := "charAt", desc := "(I)C" } : Jvm.MethodName) jdk_42_method_56_code (2 : Nat) (Option.some Jvm.ClassFile.FieldType.char)).before args0 about1 = true := code_word (m := ⟨7, 3⟩) (meth := k7m3) (c := k7c3) (by decide +kernel) rfl rfl rfl (by decide +kernel)
set_option maxRecDepth 65536 in
theorem w_c27 : (Jvm.Cond.code ({ cls := "java/lang/String", name := "isLatin1", desc := "()Z" } : Jvm.MethodName) jdk_42_method_154_code (1 : Nat) (Option.some Jvm.ClassFile.FieldType.boolean)).before args0 about1 = true := code_word (m := ⟨7, 6⟩) (meth := k7m6) (c := k7c6) (by decide +kernel) rfl rfl rfl (by decide +kernel)
set_option maxRecDepth 65536 in
theorem w_c28 : (Jvm.Cond.code ({ cls := "java/lang/StringUTF16", name := "charAt", desc := "([BI)C" } : Jvm.MethodName) jdk_52_method_83_code (2 : Nat) (Option.some Jvm.ClassFile.FieldType.char)).before args0 about1 = true := code_word (m := ⟨8, 10⟩) (meth := k8m10) (c := k8c10) (by decide +kernel) rfl rfl rfl (by decide +kernel)
set_option maxRecDepth 65536 in
theorem w_c29 : (Jvm.Cond.code ({ cls := "java/lang/StringUTF16", name := "checkIndex", desc := "(I[B)V" } : Jvm.MethodName) jdk_52_method_91_code (2 : Nat) (Option.none : Option Jvm.ClassFile.FieldType)).before args0 about1 = true := code_word (m := ⟨8, 11⟩) (meth := k8m11) (c := k8c11) (by decide +kernel) rfl rfl rfl (by decide +kernel)
set_option maxRecDepth 65536 in
theorem w_c30 : (Jvm.Cond.code ({ cls := "java/lang/StringUTF16", name := "length", desc := "([B)I" } : Jvm.MethodName) jdk_52_method_6_code (1 : Nat) (Option.some Jvm.ClassFile.FieldType.int)).before args0 about1 = true := code_word (m := ⟨8, 5⟩) (meth := k8m5) (c := k8c5) (by decide +kernel) rfl rfl rfl (by decide +kernel)
set_option maxRecDepth 65536 in
theorem w_c31 : (Jvm.Cond.code ({ cls := "java/lang/String", name := "checkIndex", desc := "(II)V" } : Jvm.MethodName) jdk_42_method_155_code (2 : Nat) (Option.none : Option Jvm.ClassFile.FieldType)).before args0 about1 = true := code_word (m := ⟨7, 7⟩) (meth := k7m7) (c := k7c7) (by decide +kernel) rfl rfl rfl (by decide +kernel)
set_option maxRecDepth 65536 in
theorem w_c32 : (Jvm.Cond.code ({ cls := "jdk/internal/util/Preconditions", name := "checkIndex", desc := "(IILjava/util/function/BiFunction;)I" } : Jvm.MethodName) jdk_41_method_11_code (3 : Nat) (Option.some Jvm.ClassFile.FieldType.int)).before args0 about1 = true := code_word (m := ⟨13, 1⟩) (meth := k13m1) (c := k13c1) (by decide +kernel) rfl rfl rfl (by decide +kernel)
set_option maxRecDepth 65536 in
theorem w_c33 : (Jvm.Cond.code ({ cls := "com/example/dijtabla/dijtabla/JsonText", name := "escaped", desc := "(CI)I" } : Jvm.MethodName) prog_10_method_17_code (5 : Nat) (Option.some Jvm.ClassFile.FieldType.int)).before args0 about1 = true := code_word (m := ⟨9, 11⟩) (meth := k9m11) (c := k9c11) (by decide +kernel) rfl rfl rfl (by decide +kernel)
set_option maxRecDepth 65536 in
theorem w_c34 : (Jvm.Cond.code ({ cls := "java/lang/Character", name := "isSurrogate", desc := "(C)Z" } : Jvm.MethodName) jdk_89_method_16_code (1 : Nat) (Option.some Jvm.ClassFile.FieldType.boolean)).before args0 about1 = true := code_word (m := ⟨14, 0⟩) (meth := k14m0) (c := k14c0) (by decide +kernel) rfl rfl rfl (by decide +kernel)
set_option maxRecDepth 65536 in
theorem w_c35 : (Jvm.Cond.code ({ cls := "com/example/dijtabla/dijtabla/JsonText", name := "nullValue", desc := "()Lcom/example/dijtabla/dijtabla/JsonText;" } : Jvm.MethodName) prog_10_method_10_code (1 : Nat) (Option.some (Jvm.ClassFile.FieldType.object "com/example/dijtabla/dijtabla/JsonText"))).before args0 about1 = true := code_word (m := ⟨9, 4⟩) (meth := k9m4) (c := k9c4) (by decide +kernel) rfl rfl rfl (by decide +kernel)
set_option maxRecDepth 65536 in
theorem w_c36 : (Jvm.Cond.code ({ cls := "com/example/dijtabla/dijtabla/JsonText", name := "literal", desc := "(Ljava/lang/String;)Lcom/example/dijtabla/dijtabla/JsonText;" } : Jvm.MethodName) prog_10_method_14_code (3 : Nat) (Option.some (Jvm.ClassFile.FieldType.object "com/example/dijtabla/dijtabla/JsonText"))).before args0 about1 = true := code_word (m := ⟨9, 8⟩) (meth := k9m8) (c := k9c8) (by decide +kernel) rfl rfl rfl (by decide +kernel)
set_option maxRecDepth 65536 in
theorem w_c37 : (Jvm.Cond.code ({ cls := "java/lang/StringLatin1", name := "charAt", desc := "([BI)C" } : Jvm.MethodName) jdk_43_method_2_code (2 : Nat) (Option.some Jvm.ClassFile.FieldType.char)).before args0 about1 = true := code_word (m := ⟨15, 1⟩) (meth := k15m1) (c := k15c1) (by decide +kernel) rfl rfl rfl (by decide +kernel)
set_option maxRecDepth 65536 in
theorem w_c38 : (Jvm.Cond.code ({ cls := "com/example/dijtabla/dijtabla/JsonText", name := "endArray", desc := "()Lcom/example/dijtabla/dijtabla/JsonText;" } : Jvm.MethodName) prog_10_method_5_code (1 : Nat) (Option.some (Jvm.ClassFile.FieldType.object "com/example/dijtabla/dijtabla/JsonText"))).before args0 about1 = true := code_word (m := ⟨9, 2⟩) (meth := k9m2) (c := k9c2) (by decide +kernel) rfl rfl rfl (by decide +kernel)
set_option maxRecDepth 65536 in
theorem w_c39 : (Jvm.Cond.code ({ cls := "com/example/dijtabla/dijtabla/JsonText", name := "close", desc := "(C)Lcom/example/dijtabla/dijtabla/JsonText;" } : Jvm.MethodName) prog_10_method_13_code (2 : Nat) (Option.some (Jvm.ClassFile.FieldType.object "com/example/dijtabla/dijtabla/JsonText"))).before args0 about1 = true := code_word (m := ⟨9, 7⟩) (meth := k9m7) (c := k9c7) (by decide +kernel) rfl rfl rfl (by decide +kernel)
set_option maxRecDepth 65536 in
theorem w_c40 : (Jvm.Cond.code ({ cls := "com/example/dijtabla/dijtabla/JsonTextBytesPinLaw", name := "enc", desc := "([BIC)I" } : Jvm.MethodName) method_6_code (4 : Nat) (Option.some Jvm.ClassFile.FieldType.int)).before args0 about1 = true := code_word (m := ⟨1, 5⟩) (meth := k1m5) (c := k1c5) (by decide +kernel) rfl rfl rfl (by decide +kernel)
set_option maxRecDepth 65536 in
theorem w_c41 : (Jvm.Cond.code ({ cls := "com/example/dijtabla/dijtabla/JsonTextBytesPinLaw", name := "hex", desc := "(I)B" } : Jvm.MethodName) method_4_code (1 : Nat) (Option.some Jvm.ClassFile.FieldType.byte)).before args0 about1 = true := code_word (m := ⟨1, 3⟩) (meth := k1m3) (c := k1c3) (by decide +kernel) rfl rfl rfl (by decide +kernel)
set_option maxRecDepth 65536 in
theorem w_c42 : (Jvm.Cond.code ({ cls := "com/example/dijtabla/dijtabla/JsonTextBytesPinLaw", name := "esc", desc := "([BIC)I" } : Jvm.MethodName) method_5_code (3 : Nat) (Option.some Jvm.ClassFile.FieldType.int)).before args0 about1 = true := code_word (m := ⟨1, 4⟩) (meth := k1m4) (c := k1c4) (by decide +kernel) rfl rfl rfl (by decide +kernel)
def codes1 : List Jvm.Cond := [Jvm.Cond.code x code maxLocals ret, Jvm.Cond.code ({ cls := "java/lang/String", name := "<init>", desc := "([C)V" } : Jvm.MethodName) jdk_42_method_3_code (2 : Nat) (Option.none : Option Jvm.ClassFile.FieldType), Jvm.Cond.code ({ cls := "java/lang/String", name := "<init>", desc := "([CIILjava/lang/Void;)V" } : Jvm.MethodName) jdk_42_method_149_code (6 : Nat) (Option.none : Option Jvm.ClassFile.FieldType), Jvm.Cond.code ({ cls := "java/lang/Object", name := "<init>", desc := "()V" } : Jvm.MethodName) object_method_1_code (1 : Nat) (Option.none : Option Jvm.ClassFile.FieldType), Jvm.Cond.code ({ cls := "java/lang/StringUTF16", name := "compress", desc := "([CII)[B" } : Jvm.MethodName) jdk_52_method_16_code (6 : Nat) (Option.some (Jvm.ClassFile.FieldType.array Jvm.ClassFile.FieldType.byte)), Jvm.Cond.code ({ cls := "java/lang/StringUTF16", name := "compress", desc := "([CI[BII)I" } : Jvm.MethodName) jdk_52_method_21_code (7 : Nat) (Option.some Jvm.ClassFile.FieldType.int), Jvm.Cond.code ({ cls := "java/lang/StringUTF16", name := "coderFromArrayLen", desc := "([BI)B" } : Jvm.MethodName) jdk_52_method_15_code (2 : Nat) (Option.some Jvm.ClassFile.FieldType.byte), Jvm.Cond.code ({ cls := "com/example/dijtabla/dijtabla/JsonText", name := "<init>", desc := "()V" } : Jvm.MethodName) prog_10_method_1_code (1 : Nat) (Option.none : Option Jvm.ClassFile.FieldType), Jvm.Cond.code ({ cls := "com/example/dijtabla/dijtabla/JsonText", name := "bytes", desc := "()[B" } : Jvm.MethodName) prog_10_method_11_code (1 : Nat) (Option.some (Jvm.ClassFile.FieldType.array Jvm.ClassFile.FieldType.byte)), Jvm.Cond.code ({ cls := "java/util/Arrays", name := "copyOf", desc := "([BI)[B" } : Jvm.MethodName) jdk_65_method_121_code (3 : Nat) (Option.some (Jvm.ClassFile.FieldType.array Jvm.ClassFile.FieldType.byte)), Jvm.Cond.code ({ cls := "java/lang/Math", name := "min", desc := "(II)I" } : Jvm.MethodName) jdk_29_method_69_code (2 : Nat) (Option.some Jvm.ClassFile.FieldType.int), Jvm.Cond.code ({ cls := "com/example/dijtabla/dijtabla/JsonTextBytesPinLaw", name := "same", desc := "([B[BII)Z" } : Jvm.MethodName) method_3_code (4 : Nat) (Option.some Jvm.ClassFile.FieldType.boolean), Jvm.Cond.code ({ cls := "java/lang/StringUTF16", name := "toBytes", desc := "([CII)[B" } : Jvm.MethodName) jdk_52_method_14_code (5 : Nat) (Option.some (Jvm.ClassFile.FieldType.array Jvm.ClassFile.FieldType.byte)), Jvm.Cond.code ({ cls := "java/lang/StringUTF16", name := "newBytesFor", desc := "(I)[B" } : Jvm.MethodName) jdk_52_method_2_code (1 : Nat) (Option.some (Jvm.ClassFile.FieldType.array Jvm.ClassFile.FieldType.byte)), Jvm.Cond.code ({ cls := "java/lang/StringUTF16", name := "newBytesLength", desc := "(I)I" } : Jvm.MethodName) jdk_52_method_3_code (1 : Nat) (Option.some Jvm.ClassFile.FieldType.int), Jvm.Cond.code ({ cls := "java/lang/StringUTF16", name := "putChar", desc := "([BII)V" } : Jvm.MethodName) jdk_52_method_4_code (3 : Nat) (Option.none : Option Jvm.ClassFile.FieldType), Jvm.Cond.code ({ cls := "java/lang/StringUTF16", name := "getChar", desc := "([BI)C" } : Jvm.MethodName) jdk_52_method_5_code (2 : Nat) (Option.some Jvm.ClassFile.FieldType.char), Jvm.Cond.code ({ cls := "com/example/dijtabla/dijtabla/JsonText", name := "startArray", desc := "()Lcom/example/dijtabla/dijtabla/JsonText;" } : Jvm.MethodName) prog_10_method_4_code (1 : Nat) (Option.some (Jvm.ClassFile.FieldType.object "com/example/dijtabla/dijtabla/JsonText")), Jvm.Cond.code ({ cls := "com/example/dijtabla/dijtabla/JsonText", name := "open", desc := "(C)Lcom/example/dijtabla/dijtabla/JsonText;" } : Jvm.MethodName) prog_10_method_12_code (2 : Nat) (Option.some (Jvm.ClassFile.FieldType.object "com/example/dijtabla/dijtabla/JsonText")), Jvm.Cond.code ({ cls := "com/example/dijtabla/dijtabla/JsonText", name := "value", desc := "()V" } : Jvm.MethodName) prog_10_method_16_code (1 : Nat) (Option.none : Option Jvm.ClassFile.FieldType), Jvm.Cond.code ({ cls := "com/example/dijtabla/dijtabla/JsonText", name := "put", desc := "(C)V" } : Jvm.MethodName) prog_10_method_19_code (2 : Nat) (Option.none : Option Jvm.ClassFile.FieldType), Jvm.Cond.code ({ cls := "com/example/dijtabla/dijtabla/JsonText", name := "room", desc := "(I)V" } : Jvm.MethodName) prog_10_method_20_code (2 : Nat) (Option.none : Option Jvm.ClassFile.FieldType), Jvm.Cond.code ({ cls := "com/example/dijtabla/dijtabla/JsonText", name := "string", desc := "(Ljava/lang/String;)Lcom/example/dijtabla/dijtabla/JsonText;" } : Jvm.MethodName) prog_10_method_7_code (2 : Nat) (Option.some (Jvm.ClassFile.FieldType.object "com/example/dijtabla/dijtabla/JsonText")), Jvm.Cond.code ({ cls := "com/example/dijtabla/dijtabla/JsonText", name := "quoted", desc := "(Ljava/lang/String;I)V" } : Jvm.MethodName) prog_10_method_15_code (7 : Nat) (Option.none : Option Jvm.ClassFile.FieldType), Jvm.Cond.code ({ cls := "java/lang/String", name := "length", desc := "()I" } : Jvm.MethodName) jdk_42_method_54_code (1 : Nat) (Option.some Jvm.ClassFile.FieldType.int), Jvm.Cond.code ({ cls := "java/lang/String", name := "coder", desc := "()B" } : Jvm.MethodName) jdk_42_method_152_code (1 : Nat) (Option.some Jvm.ClassFile.FieldType.byte), Jvm.Cond.code ({ cls := "java/lang/String", name := "charAt", desc := "(I)C" } : Jvm.MethodName) jdk_42_method_56_code (2 : Nat) (Option.some Jvm.ClassFile.FieldType.char), Jvm.Cond.code ({ cls := "java/lang/String", name := "isLatin1", desc := "()Z" } : Jvm.MethodName) jdk_42_method_154_code (1 : Nat) (Option.some Jvm.ClassFile.FieldType.boolean), Jvm.Cond.code ({ cls := "java/lang/StringUTF16", name := "charAt", desc := "([BI)C" } : Jvm.MethodName) jdk_52_method_83_code (2 : Nat) (Option.some Jvm.ClassFile.FieldType.char), Jvm.Cond.code ({ cls := "java/lang/StringUTF16", name := "checkIndex", desc := "(I[B)V" } : Jvm.MethodName) jdk_52_method_91_code (2 : Nat) (Option.none : Option Jvm.ClassFile.FieldType), Jvm.Cond.code ({ cls := "java/lang/StringUTF16", name := "length", desc := "([B)I" } : Jvm.MethodName) jdk_52_method_6_code (1 : Nat) (Option.some Jvm.ClassFile.FieldType.int), Jvm.Cond.code ({ cls := "java/lang/String", name := "checkIndex", desc := "(II)V" } : Jvm.MethodName) jdk_42_method_155_code (2 : Nat) (Option.none : Option Jvm.ClassFile.FieldType), Jvm.Cond.code ({ cls := "jdk/internal/util/Preconditions", name := "checkIndex", desc := "(IILjava/util/function/BiFunction;)I" } : Jvm.MethodName) jdk_41_method_11_code (3 : Nat) (Option.some Jvm.ClassFile.FieldType.int), Jvm.Cond.code ({ cls := "com/example/dijtabla/dijtabla/JsonText", name := "escaped", desc := "(CI)I" } : Jvm.MethodName) prog_10_method_17_code (5 : Nat) (Option.some Jvm.ClassFile.FieldType.int), Jvm.Cond.code ({ cls := "java/lang/Character", name := "isSurrogate", desc := "(C)Z" } : Jvm.MethodName) jdk_89_method_16_code (1 : Nat) (Option.some Jvm.ClassFile.FieldType.boolean), Jvm.Cond.code ({ cls := "com/example/dijtabla/dijtabla/JsonText", name := "nullValue", desc := "()Lcom/example/dijtabla/dijtabla/JsonText;" } : Jvm.MethodName) prog_10_method_10_code (1 : Nat) (Option.some (Jvm.ClassFile.FieldType.object "com/example/dijtabla/dijtabla/JsonText")), Jvm.Cond.code ({ cls := "com/example/dijtabla/dijtabla/JsonText", name := "literal", desc := "(Ljava/lang/String;)Lcom/example/dijtabla/dijtabla/JsonText;" } : Jvm.MethodName) prog_10_method_14_code (3 : Nat) (Option.some (Jvm.ClassFile.FieldType.object "com/example/dijtabla/dijtabla/JsonText")), Jvm.Cond.code ({ cls := "java/lang/StringLatin1", name := "charAt", desc := "([BI)C" } : Jvm.MethodName) jdk_43_method_2_code (2 : Nat) (Option.some Jvm.ClassFile.FieldType.char), Jvm.Cond.code ({ cls := "com/example/dijtabla/dijtabla/JsonText", name := "endArray", desc := "()Lcom/example/dijtabla/dijtabla/JsonText;" } : Jvm.MethodName) prog_10_method_5_code (1 : Nat) (Option.some (Jvm.ClassFile.FieldType.object "com/example/dijtabla/dijtabla/JsonText")), Jvm.Cond.code ({ cls := "com/example/dijtabla/dijtabla/JsonText", name := "close", desc := "(C)Lcom/example/dijtabla/dijtabla/JsonText;" } : Jvm.MethodName) prog_10_method_13_code (2 : Nat) (Option.some (Jvm.ClassFile.FieldType.object "com/example/dijtabla/dijtabla/JsonText")), Jvm.Cond.code ({ cls := "com/example/dijtabla/dijtabla/JsonTextBytesPinLaw", name := "enc", desc := "([BIC)I" } : Jvm.MethodName) method_6_code (4 : Nat) (Option.some Jvm.ClassFile.FieldType.int), Jvm.Cond.code ({ cls := "com/example/dijtabla/dijtabla/JsonTextBytesPinLaw", name := "hex", desc := "(I)B" } : Jvm.MethodName) method_4_code (1 : Nat) (Option.some Jvm.ClassFile.FieldType.byte), Jvm.Cond.code ({ cls := "com/example/dijtabla/dijtabla/JsonTextBytesPinLaw", name := "esc", desc := "([BIC)I" } : Jvm.MethodName) method_5_code (3 : Nat) (Option.some Jvm.ClassFile.FieldType.int)]
set_option maxRecDepth 65536 in
theorem codes_eq : words1.filter isCode = codes1 := rfl
theorem w_codes : ∀ c ∈ words1.filter isCode, c.before args0 about1 = true := by
  rw [codes_eq]
  intro c hc
  simp only [codes1, List.mem_cons, List.not_mem_nil, or_false] at hc
  rcases hc with rfl | rfl | rfl | rfl | rfl | rfl | rfl | rfl | rfl | rfl | rfl | rfl | rfl | rfl | rfl | rfl | rfl | rfl | rfl | rfl | rfl | rfl | rfl | rfl | rfl | rfl | rfl | rfl | rfl | rfl | rfl | rfl | rfl | rfl | rfl | rfl | rfl | rfl | rfl | rfl | rfl | rfl | rfl
  · exact w_c0
  · exact w_c1
  · exact w_c2
  · exact w_c3
  · exact w_c4
  · exact w_c5
  · exact w_c6
  · exact w_c7
  · exact w_c8
  · exact w_c9
  · exact w_c10
  · exact w_c11
  · exact w_c12
  · exact w_c13
  · exact w_c14
  · exact w_c15
  · exact w_c16
  · exact w_c17
  · exact w_c18
  · exact w_c19
  · exact w_c20
  · exact w_c21
  · exact w_c22
  · exact w_c23
  · exact w_c24
  · exact w_c25
  · exact w_c26
  · exact w_c27
  · exact w_c28
  · exact w_c29
  · exact w_c30
  · exact w_c31
  · exact w_c32
  · exact w_c33
  · exact w_c34
  · exact w_c35
  · exact w_c36
  · exact w_c37
  · exact w_c38
  · exact w_c39
  · exact w_c40
  · exact w_c41
  · exact w_c42
set_option maxRecDepth 65536 in
theorem w_t1 : (words1.take 24).all (fun c => isCode c || c.before args0 about1) = true := by decide +kernel
set_option maxRecDepth 65536 in
theorem w_t2 : ((words1.drop 24).take 24).all (fun c => isCode c || c.before args0 about1) = true := by decide +kernel
set_option maxRecDepth 65536 in
theorem w_t3 : (((words1.drop 24).drop 24).take 24).all (fun c => isCode c || c.before args0 about1) = true := by decide +kernel
set_option maxRecDepth 65536 in
theorem w_t4 : ((((words1.drop 24).drop 24).drop 24).take 24).all (fun c => isCode c || c.before args0 about1) = true := by decide +kernel
set_option maxRecDepth 65536 in
theorem w_t5 : (((((words1.drop 24).drop 24).drop 24).drop 24).take 24).all (fun c => isCode c || c.before args0 about1) = true := by decide +kernel
set_option maxRecDepth 65536 in
theorem w_t6 : ((((((words1.drop 24).drop 24).drop 24).drop 24).drop 24).take 24).all (fun c => isCode c || c.before args0 about1) = true := by decide +kernel
set_option maxRecDepth 65536 in
theorem w_t7 : (((((((words1.drop 24).drop 24).drop 24).drop 24).drop 24).drop 24).take 24).all (fun c => isCode c || c.before args0 about1) = true := by decide +kernel
set_option maxRecDepth 65536 in
theorem w_t8 : ((((((((words1.drop 24).drop 24).drop 24).drop 24).drop 24).drop 24).drop 24).take 24).all (fun c => isCode c || c.before args0 about1) = true := by decide +kernel
set_option maxRecDepth 65536 in
theorem w_t9 : ((((((((words1.drop 24).drop 24).drop 24).drop 24).drop 24).drop 24).drop 24).drop 24).all (fun c => isCode c || c.before args0 about1) = true := by decide +kernel
theorem w_tables : (allAtoms (Jvm.Cond.code x code maxLocals ret :: tables_1)).before args0 about1 = true := by
  rw [allAtoms_all]
  show words1.all (fun c => c.before args0 about1) = true
  refine all_split ?_ w_codes
  rw [← List.take_append_drop 24 words1, List.all_append, w_t1, ← List.take_append_drop 24 (words1.drop 24), List.all_append, w_t2, ← List.take_append_drop 24 ((words1.drop 24).drop 24), List.all_append, w_t3, ← List.take_append_drop 24 (((words1.drop 24).drop 24).drop 24), List.all_append, w_t4, ← List.take_append_drop 24 ((((words1.drop 24).drop 24).drop 24).drop 24), List.all_append, w_t5, ← List.take_append_drop 24 (((((words1.drop 24).drop 24).drop 24).drop 24).drop 24), List.all_append, w_t6, ← List.take_append_drop 24 ((((((words1.drop 24).drop 24).drop 24).drop 24).drop 24).drop 24), List.all_append, w_t7, ← List.take_append_drop 24 (((((((words1.drop 24).drop 24).drop 24).drop 24).drop 24).drop 24).drop 24), List.all_append, w_t8, w_t9]
  rfl
set_option maxRecDepth 65536 in
theorem w_rest : rest_1_c.before args0 about1 = true := by decide +kernel
set_option maxRecDepth 65536 in
theorem w_case : (Jvm.Cond.and given_1 narrow_1).before args0 about1 = true := by decide +kernel
set_option maxRecDepth 65536 in
theorem w_consts : constsHeld consts_1 about1 := Jvm.Lit.constsHeldB_iff.mp (by decide +kernel)
theorem w_applies : (headSpec (Jvm.Cond.code x code maxLocals ret :: tables_1) room_1).applies x e0.platform about1 = true :=
  (Spec.applies_iff w_frames).mpr ⟨w_running, w_runnable, w_alone, w_named, w_hears, w_ripe, w_room, w_tables⟩
theorem atStart : AtStart classFile x code maxLocals ret World_1 tables_1 room_1 Calls_1 rest_1 Pre_1 launch0 p0 e0 about1 theMethod args0 below0 :=
  ⟨lists_1, trivial, launch0.admits_env _ _ _, launch0.least_env, fairChoices_fair.cas, fairChoices_fair.clock, w_frames, w_args, w_heap, w_applies, ⟨w_consts, trivial⟩, w_rest, w_case⟩
end start1
theorem witness_1 : WitnessClaimed_1 := ⟨start1.p0, start1.e0, start1.about1, start1.theMethod, start1.args0, start1.below0, start1.atStart⟩
end Jvm.Pilot.@@N@@
