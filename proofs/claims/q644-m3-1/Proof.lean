import JvmDerived
import JvmDerived.Pilot.@@N@@Statement
import JvmDerived.Pilot.@@N@@Code
set_option linter.unusedVariables false
set_option linter.unusedSimpArgs false
/- laws to paste: Road.lenW, Road.empW, chr8_lo8, pair_says (cut by pick.py; bodies as the Statement names them) -/
namespace Jvm.Pilot.@@N@@
namespace StrChars
open Jvm Sem ClassFile Op Lib Jvm.Stand Jvm.Free.XT Jvm.Free.ALB Jvm.Free.JM Jvm.Free
open Jvm.Lib.Cold (StaticIs)
/-- the byte that i2b leaves of a char -/
def lo8 (x : Int32) : Int32 := x.toInt8.toInt32
def U16 : String := "java/lang/StringUTF16"
namespace Cmp5
def yN : MethodName := ⟨"java/lang/StringUTF16", "compress", "([CI[BII)I"⟩
abbrev yB : ByteArray := jdk_52_method_21_code
end Cmp5
namespace Cmp3
def yN : MethodName := ⟨"java/lang/StringUTF16", "compress", "([CII)[B"⟩
abbrev yB : ByteArray := jdk_52_method_16_code
end Cmp3
namespace CodL
def yN : MethodName := ⟨"java/lang/StringUTF16", "coderFromArrayLen", "([BI)B"⟩
abbrev yB : ByteArray := jdk_52_method_15_code
end CodL
namespace New4
def yN : MethodName := ⟨"java/lang/String", "<init>", "([CIILjava/lang/Void;)V"⟩
abbrev yB : ByteArray := jdk_42_method_149_code
end New4
namespace New1
def yN : MethodName := ⟨"java/lang/String", "<init>", "([C)V"⟩
abbrev yB : ByteArray := jdk_42_method_3_code
end New1
/-- the byte, read back as charAt reads it, is the char -/
theorem lo8_mask {x : Int32} (h0 : ¬ x < 0) (h1 : ¬ 255 < x) : lo8 x &&& 255 = x := by
  have t : ∀ k : Fin 256, lo8 (Int32.ofNat k.val) &&& 255 = Int32.ofNat k.val := by decide +kernel
  rw [Int32.lt_iff_toInt_lt] at h0 h1
  have e0 : (0 : Int32).toInt = 0 := rfl
  have e1 : (255 : Int32).toInt = 255 := rfl
  obtain ⟨k, hk⟩ : ∃ k : Nat, x.toInt = k := ⟨x.toInt.toNat, by omega⟩
  have hx : x = Int32.ofNat k := Int32.toInt_inj.mp (by rw [hk, Int32.toInt_ofNat_small (by omega)])
  rw [hx]
  exact t ⟨k, by omega⟩
end StrChars
namespace StrChars.Road
open Jvm Sem ClassFile Op Lib Jvm.Stand Jvm.Free Jvm.Free.XT
open Jvm.Lib.Cold (StaticIs)
abbrev ST : String := "java/lang/String"
/-- every table word that New1's law asks, flat -/
abbrev words : List Jvm.Cond := [.code New1.yN New1.yB 2 none, .initialized ST, .methodLink ST 27 New4.yN, .instanceMethod New4.yN,
  .code New4.yN New4.yB 6 none, .fieldLink ST 38 ST "COMPACT_STRINGS" "Z", .laysFinal ST ST "value" "[B", .fieldLink ST 9 ST "value" "[B", .laysFinal ST ST "coder" "B", .fieldLink ST 15 ST "coder" "B",
  .methodLink ST 1 Lib.objectInit, .instanceMethod Lib.objectInit, .code Lib.objectInit ⟨#[0xb1]⟩ 1 none, .methodLink ST 177 Cmp3.yN, .static Cmp3.yN, .methodLink ST 47 CodL.yN, .static CodL.yN,
  .code Cmp3.yN Cmp3.yB 6 (some (.array .byte)), .initialized U16, .arrayClass .byte, .methodLink U16 115 Cmp5.yN, .static Cmp5.yN, .code Cmp5.yN Cmp5.yB 7 (some .int), .code CodL.yN CodL.yB 2 (some .byte)]
end StrChars.Road
namespace StrChars
open Jvm Sem ClassFile Op Lib Jvm.Stand Jvm.Free.XT Jvm.Free.ALB Jvm.Free.JM Jvm.Free
open Jvm.Lib.Cold (StaticIs)
def hi8 (x : Int32) : Int32 := lo8 (x >>> ((8 : Int32) &&& 31))
/-- what StringUTF16.getChar makes of two bytes -/
def pairCh (u v : Int32) : Int32 := (((u &&& 255) <<< ((0 : Int32) &&& 31)) ||| ((v &&& 255) <<< ((8 : Int32) &&& 31))).toUInt32.toUInt16.toUInt32.toInt32
theorem shr0 (c : Int32) : c >>> ((0 : Int32) &&& 31) = c := by
  have e : ((0 : Int32) &&& 31) = 0 := by decide
  rw [e]
  apply Int32.toBitVec_inj.mp
  rw [Int32.toBitVec_shiftRight]
  have e1 : ((0 : Int32).toBitVec.smod 32) = 0#32 := by decide
  rw [e1, BitVec.sshiftRight_eq']
  exact BitVec.sshiftRight_zero
theorem lo8_and (x : Int32) : (lo8 x &&& 255).toBitVec.toNat = x.toBitVec.toNat % 256 := by
  have h : (lo8 x).toBitVec = (x.toBitVec.signExtend 8).signExtend 32 := by rw [lo8, Int8.toBitVec_toInt32, Int32.toBitVec_toInt8]
  rw [Int32.toBitVec_and, BitVec.toNat_and, h]
  have e : ((x.toBitVec.signExtend 8).signExtend 32).toNat % 256 = x.toBitVec.toNat % 256 := by
    rw [BitVec.toNat_signExtend]
    have hlt := x.toBitVec.isLt
    simp only [BitVec.toNat_setWidth, BitVec.toNat_signExtend]
    split <;> split <;> omega
  rw [← e]
  exact Nat.and_two_pow_sub_one_eq_mod _ 8
theorem pair_says {c : Int32} (h0 : ¬ c < 0) (h1 : ¬ 65535 < c) : pairCh (lo8 c) (hi8 c) = c := by
  rw [Int32.lt_iff_toInt_lt] at h0 h1
  have e0 : (0 : Int32).toInt = 0 := rfl
  have e1 : (65535 : Int32).toInt = 65535 := rfl
  have hc : c.toInt = c.toBitVec.toNat := by
    have := c.toBitVec.isLt
    have e : c.toInt = c.toBitVec.toInt := rfl
    rw [e] at h0 h1
    rw [e]
    rw [BitVec.toInt_eq_toNat_cond] at h0 h1 ⊢
    split at h0 <;> split <;> omega
  have hn : c.toBitVec.toNat < 65536 := by omega
  have a1 := lo8_and c
  have a2 : (hi8 c &&& 255).toBitVec.toNat = c.toBitVec.toNat / 256 := by
    rw [hi8, lo8_and]
    have e : ((8 : Int32) &&& 31) = 8 := by decide
    rw [e, Int32.toBitVec_shiftRight]
    have e2 : ((8 : Int32).toBitVec.smod 32) = 8#32 := by decide
    rw [e2, BitVec.sshiftRight_eq', BitVec.toNat_sshiftRight_of_msb_false (by rw [BitVec.msb_eq_false_iff_two_mul_lt]; omega)]
    show c.toBitVec.toNat >>> 8 % 256 = _
    rw [Nat.shiftRight_eq_div_pow]
    omega
  unfold pairCh
  apply Int32.toBitVec_inj.mp
  apply BitVec.eq_of_toNat_eq
  have f0 : ((0 : Int32) &&& 31) = 0 := by decide
  have f8 : ((8 : Int32) &&& 31) = 8 := by decide
  rw [f0, f8]
  have g : (((lo8 c &&& 255) <<< (0 : Int32)) ||| ((hi8 c &&& 255) <<< (8 : Int32))).toBitVec.toNat = c.toBitVec.toNat := by
    rw [Int32.toBitVec_or, Int32.toBitVec_shiftLeft, Int32.toBitVec_shiftLeft]
    have s0 : ((0 : Int32).toBitVec.smod 32) = 0#32 := by decide
    have s8 : ((8 : Int32).toBitVec.smod 32) = 8#32 := by decide
    rw [s0, s8, BitVec.toNat_or]
    simp only [BitVec.shiftLeft_eq', BitVec.toNat_shiftLeft, a1, a2]
    show (c.toBitVec.toNat % 256) <<< 0 % 2 ^ 32 ||| (c.toBitVec.toNat / 256) <<< 8 % 2 ^ 32 = _
    rw [Nat.shiftLeft_zero, Nat.mod_eq_of_lt (show c.toBitVec.toNat % 256 < 2 ^ 32 by omega), Nat.mod_eq_of_lt (show (c.toBitVec.toNat / 256) <<< 8 < 2 ^ 32 by rw [Nat.shiftLeft_eq]; omega), Nat.or_comm, ← Nat.shiftLeft_add_eq_or_of_lt (by omega), Nat.shiftLeft_eq]
    omega
  show BitVec.toNat (((((lo8 c &&& 255) <<< (0 : Int32)) ||| ((hi8 c &&& 255) <<< (8 : Int32))).toBitVec.setWidth 16).setWidth 32) = _
  rw [BitVec.toNat_setWidth, BitVec.toNat_setWidth, g]
  omega
end StrChars
namespace StrChars
open Jvm Sem ClassFile Op Lib Jvm.Stand Jvm.Free.XT Jvm.Free.ALB Jvm.Free.JM Jvm.Free
open Jvm.Lib.Cold (StaticIs)
theorem shr1 {n : Nat} (h : 2 * n < 2 ^ 31) : Int32.ofNat (2 * n) >>> ((1 : Int32) &&& 31) = Int32.ofNat n := by
  have e : ((1 : Int32) &&& 31) = 1 := by decide
  rw [e]
  apply Int32.toBitVec_inj.mp
  rw [Int32.toBitVec_shiftRight]
  have e1 : ((1 : Int32).toBitVec.smod 32) = 1#32 := by decide
  have hm : (BitVec.ofNat 32 (2 * n)).toNat = 2 * n := by rw [BitVec.toNat_ofNat, Nat.mod_eq_of_lt (by omega)]
  rw [e1, BitVec.sshiftRight_eq']
  apply BitVec.eq_of_toNat_eq
  show ((BitVec.ofNat 32 (2 * n)).sshiftRight 1).toNat = (BitVec.ofNat 32 n).toNat
  rw [BitVec.toNat_sshiftRight_of_msb_false (by rw [BitVec.msb_eq_false_iff_two_mul_lt, hm]; omega), hm, BitVec.toNat_ofNat, Nat.shiftRight_eq_div_pow]
  omega
/-- charAt's cast of a byte read back -/
def chr8 (u : Int32) : Int32 := (u &&& 255).toUInt32.toUInt16.toUInt32.toInt32
theorem chr8_lo8 {c : Int32} (h0 : ¬ c < 0) (h1 : ¬ 255 < c) : chr8 (lo8 c) = c := by
  have t : ∀ k : Fin 256, (Int32.ofNat k.val).toUInt32.toUInt16.toUInt32.toInt32 = Int32.ofNat k.val := by decide +kernel
  unfold chr8
  rw [lo8_mask h0 h1]
  rw [Int32.lt_iff_toInt_lt] at h0 h1
  have e0 : (0 : Int32).toInt = 0 := rfl
  have e1 : (255 : Int32).toInt = 255 := rfl
  obtain ⟨k, hk⟩ : ∃ k : Nat, c.toInt = k := ⟨c.toInt.toNat, by omega⟩
  have hx : c = Int32.ofNat k := Int32.toInt_inj.mp (by rw [hk, Int32.toInt_ofNat_small (by omega)])
  rw [hx]
  exact t ⟨k, by omega⟩
/-- the array's cell V codes the n chars f 0 .. f (n - 1) by the coder cd, as the JDK does: coder 1 just where some char is above 255 -/
def Cod (cd : Int32) (n : Nat) (f : Nat → Int32) (V : Cell) : Prop := (cd = 0 ∧ V.slots.size = n ∧ ∀ j, j < n → V.slots[j]? = some (.int (lo8 (f j))) ∧ ¬ 255 < f j) ∨ (cd = 1 ∧ V.slots.size = 2 * n ∧ (∀ j, j < n → V.slots[2 * j]? = some (.int (lo8 (f j))) ∧ V.slots[2 * j + 1]? = some (.int (hi8 (f j)))) ∧ ∃ j, j < n ∧ 255 < f j)
theorem Cod.cd {cd : Int32} {n : Nat} {f : Nat → Int32} {V : Cell} (h : Cod cd n f V) : cd = 0 ∨ cd = 1 := h.imp (fun q => q.1) fun q => q.1
theorem Cod.len {cd : Int32} {n : Nat} {f : Nat → Int32} {V : Cell} (h : Cod cd n f V) (hs : V.slots.size < 2 ^ 31) : Int32.ofNat V.slots.size >>> (cd &&& 31) = Int32.ofNat n := by
  rcases h with ⟨rfl, h, -⟩ | ⟨rfl, h, -⟩
  · rw [shr0, h]
  · rw [h, shr1 (by omega)]
/-- **x is a String of the n chars f 0 .. f (n - 1)**, Latin-1 or UTF-16; its array at t has the cell V -/
def Txt (x t : Addr) (V : Cell) (cd : Int32) (n : Nat) (f : Nat → Int32) (U : State) : Prop := Exact "java/lang/String" x U ∧ Has x "java/lang/String" "value" "[B" (.ref t) U ∧ Has x "java/lang/String" "coder" "B" (.int cd) U ∧ XT.Arr .byte t V U ∧ Cod cd n f V ∧ ∀ j, j < n → ¬ f j < 0 ∧ ¬ 65535 < f j
theorem Txt.mv {x t : Addr} {V : Cell} {cd : Int32} {n : Nat} {f : Nat → Int32} {U U' : State} (h : Txt x t V cd n f U) (hal : U.vm.Alike U'.vm) (hh : U'.heap = U.heap) : Txt x t V cd n f U' := ⟨h.1.mv hal hh, h.2.1.mv hal hh, h.2.2.1.mv hal hh, h.2.2.2.1.mv hal hh, h.2.2.2.2⟩
namespace Cdr
def yN : MethodName := ⟨"java/lang/String", "coder", "()B"⟩
abbrev yB : ByteArray := jdk_42_method_152_code
theorem d0 : decode yB 0 = .ok (.getstatic 38, 3) := by decide +kernel
theorem d3 : decode yB 3 = .ok (.ifCond (.eq) 10, 3) := by decide +kernel
theorem d6 : decode yB 6 = .ok (.aload_n 0, 1) := by decide +kernel
theorem d7 : decode yB 7 = .ok (.getfield 15, 3) := by decide +kernel
theorem d10 : decode yB 10 = .ok (.goto 4, 3) := by decide +kernel
theorem d14 : decode yB 14 = .ok (.ireturn, 1) := by decide +kernel
def site : List Cond := [.fieldLink "java/lang/String" 38 "java/lang/String" "COMPACT_STRINGS" "Z", .fieldLink "java/lang/String" 15 "java/lang/String" "coder" "B"]
def tab : Cond := tabOf yN yB 1 (some .byte) site
def P (x : Addr) (cd z : Int32) (args : Array Value) (s : State) : Prop := args = #[.ref x] ∧ Has x "java/lang/String" "coder" "B" (.int cd) s ∧ (cd = 0 ∨ cd = 1) ∧ StaticIs s "java/lang/String" "COMPACT_STRINGS" "Z" (.int z) ∧ ¬ z = 0
def E (cd : Int32) (r : Option Value) (s u : State) : Prop := XT.PureE (some (.int cd)) r s u
theorem law (l : Launch) (x : Addr) (cd z : Int32) : Law l yN 1 0 0 0 yB 1 (some .byte) site (P x cd z) (E cd) [] 0 0 := by
  refine Law.of_walk (plainFor_of_name (by decide +kernel)) (by decide +kernel) (by decide +kernel) (by decide) (fun _ _ h => by rw [h.1]; rfl) (fun _ U U' hal hh h => ⟨h.1, h.2.1.mv hal hh, h.2.2.1, h.2.2.2.1.there hal hh, h.2.2.2.2⟩) (fun r U U' V V' h1 hal h2 h => XT.PureE.mv r U U' V V' h1 hal h2 h) ?_
  intro p e s m args below meth c s₁ X0 hexec hbytes hml hret hlk hnm hown hh0 W hP
  obtain ⟨rfl, hx, hc, s1, hz⟩ := hP
  have c1 : Steps p.tables e below (s₁.setTop (entryFrame m #[.ref x] 1)) (s₁.setTop (mkF m 0 #[.val (.ref x)] [])) := entry rfl
  obtain ⟨T2, X2, q2, st2⟩ := X0.sget hexec hown (wk W (.fieldLink "java/lang/String" 38 "java/lang/String" "COMPACT_STRINGS" "Z")) s1 (fun _ _ h => by rw [hh0]; exact h) (g := (mkF m 0 #[.val (.ref x)] [])) rfl (hb hbytes d0)
  have hh2 := q2.trans hh0
  have c3 : Steps p.tables e below (s₁.setTop (entryFrame m #[.ref x] 1)) (T2.setTop (mkF m 7 #[.val (.ref x)] [.ref x])) := (c1.trans (st2 _ (Steps.refl _))).trans (by
    refine XS.ifNo X2.here hexec rfl (hb hbytes d3) rfl (i0_eq_f hz) ?_
    refine XS.aloadN X2.here hexec rfl (hb hbytes d6) rfl rfl ?_
    exact Steps.refl _)
  obtain ⟨T4, X4, q4, st4⟩ := X2.hget hexec hown (wk W (.fieldLink "java/lang/String" 15 "java/lang/String" "coder" "B")) (hx.mv X2.warmed.alike hh2) (g := (mkF m 7 #[.val (.ref x)] [.ref x])) rfl (rest := []) rfl (hb hbytes d7)
  have c5 : Steps p.tables e below (s₁.setTop (entryFrame m #[.ref x] 1)) (T4.setTop (mkF m 14 #[.val (.ref x)] [.int cd])) := (c3.trans (st4 _ (Steps.refl _))).trans (by
    refine XS.goto X4.here hexec rfl (pc0 := 10) rfl (hb hbytes d10) (by decide) rfl ?_
    exact Steps.refl _)
  exact ⟨T4, some (.int cd), _, _, _, X4, rfl, rfl, rfl, (fun h => by cases h), ⟨rfl, q4.trans hh2⟩, fun fs hl => c5.trans (X4.ireturnOut hexec hret (by rcases hc with rfl | rfl <;> rfl) (Or.inr (Or.inr (Or.inl rfl))) (hb hbytes d14) hl)⟩
end Cdr
namespace Len
def yN : MethodName := ⟨"java/lang/String", "length", "()I"⟩
abbrev yB : ByteArray := jdk_42_method_54_code
theorem d0 : decode yB 0 = .ok (.aload_n 0, 1) := by decide +kernel
theorem d1 : decode yB 1 = .ok (.getfield 9, 3) := by decide +kernel
theorem d4 : decode yB 4 = .ok (.arraylength, 1) := by decide +kernel
theorem d5 : decode yB 5 = .ok (.aload_n 0, 1) := by decide +kernel
theorem d6 : decode yB 6 = .ok (.invokevirtual 335, 3) := by decide +kernel
theorem d9 : decode yB 9 = .ok (.ishr, 1) := by decide +kernel
theorem d10 : decode yB 10 = .ok (.ireturn, 1) := by decide +kernel
def site : List Cond := [.fieldLink "java/lang/String" 9 "java/lang/String" "value" "[B", Cdr.tab] ++ virtW "java/lang/String" 335 "java/lang/String" Cdr.yN Cdr.yN
def tab : Cond := tabOf yN yB 1 (some .int) site
def P (x t : Addr) (V : Cell) (cd : Int32) (n : Nat) (f : Nat → Int32) (z : Int32) (args : Array Value) (s : State) : Prop := args = #[.ref x] ∧ Txt x t V cd n f s ∧ StaticIs s "java/lang/String" "COMPACT_STRINGS" "Z" (.int z) ∧ ¬ z = 0
def E (n : Nat) (r : Option Value) (s u : State) : Prop := XT.PureE (some (.int (Int32.ofNat n))) r s u
/-- length() of a String of n chars, in either coding -/
theorem law (l : Launch) (x t : Addr) (V : Cell) (cd : Int32) (n : Nat) (f : Nat → Int32) (z : Int32) : Law l yN 1 0 1 13 yB 1 (some .int) site (P x t V cd n f z) (E n) [] 0 0 := by
  refine Law.of_walk (plainFor_of_name (by decide +kernel)) (by decide +kernel) (by decide +kernel) (by decide) (fun _ _ h => by rw [h.1]; rfl) (fun _ U U' hal hh h => ⟨h.1, h.2.1.mv hal hh, h.2.2.1.there hal hh, h.2.2.2⟩) (fun r U U' V V' h1 hal h2 h => XT.PureE.mv r U U' V V' h1 hal h2 h) ?_
  intro p e s m args below meth c s₁ X0 hexec hbytes hml hret hlk hnm hown hh0 W hP
  obtain ⟨rfl, hx, s1, hz⟩ := hP
  have v31 := hx.2.2.2.1.2.2.2
  have c1 : Steps p.tables e below (s₁.setTop (entryFrame m #[.ref x] 1)) (s₁.setTop (mkF m 1 #[.val (.ref x)] [.ref x])) := Steps.trans (entry rfl) (by
    show Steps p.tables e below (s₁.setTop (mkF m 0 #[.val (.ref x)] [])) _
    refine XS.aloadN X0.here hexec rfl (hb hbytes d0) rfl rfl ?_
    exact Steps.refl _)
  obtain ⟨T2, X2, q2, st2⟩ := X0.hget hexec hown (wk W (.fieldLink "java/lang/String" 9 "java/lang/String" "value" "[B")) (hx.mv X0.warmed.alike hh0).2.1 (g := (mkF m 1 #[.val (.ref x)] [.ref x])) rfl (rest := []) rfl (hb hbytes d1)
  have hh2 := q2.trans hh0
  have hx2 := hx.mv X2.warmed.alike hh2
  have c3 : Steps p.tables e below (s₁.setTop (entryFrame m #[.ref x] 1)) (T2.setTop (mkF m 6 #[.val (.ref x)] [.ref x, .int (Int32.ofNat V.slots.size)])) := (c1.trans (st2 _ (Steps.refl _))).trans (by
    refine X2.alen hexec hx2.2.2.2.1 rfl rfl (hb hbytes d4) ?_
    refine XS.aloadN X2.here hexec rfl (hb hbytes d5) rfl rfl ?_
    exact Steps.refl _)
  obtain ⟨v4, T4, X4, E4, g4⟩ := X2.callV hexec (Cdr.law l x cd z) hown (wks W (virtW "java/lang/String" 335 "java/lang/String" Cdr.yN Cdr.yN)) rfl (by decide) (wk W Cdr.tab) (W := 1) (Nat.le_of_ble_eq_true rfl) (Nat.le_of_ble_eq_true rfl) (Nat.le_refl _) (Nat.le_refl _) (hx2.1.fc X2.warmed.alike) hx2.1.is (g := (mkF m 6 #[.val (.ref x)] [.ref x, .int (Int32.ofNat V.slots.size)])) rfl (by rw [hml]; rfl) c3 (argsL := []) (rest := [.int (Int32.ofNat V.slots.size)]) rfl rfl (by show 2 * 0 + (1 + 0) ≤ _; decide) (hb hbytes d6) (⟨rfl, hx2.2.2.1, hx.2.2.2.2.1.cd, s1.there X2.warmed.alike hh2, hz⟩)
  obtain ⟨rfl, q4⟩ := E4
  have c5 : Steps p.tables e below (s₁.setTop (entryFrame m #[.ref x] 1)) (T4.setTop (mkF m 10 #[.val (.ref x)] [.int (Int32.ofNat V.slots.size >>> (cd &&& 31))])) := Steps.trans g4 (by
    refine ishr X4.here hexec rfl (hb hbytes d9) rfl ?_
    exact Steps.refl _)
  rw [hx.2.2.2.2.1.len v31] at c5
  exact ⟨T4, some (.int (Int32.ofNat n)), _, _, _, X4, rfl, rfl, rfl, (fun h => by cases h), ⟨rfl, q4.trans hh2⟩, fun fs hl => c5.trans (X4.ireturnOut hexec hret rfl (Or.inl rfl) (hb hbytes d10) hl)⟩
theorem pays {l : Launch} {R : Room} {p : Program} {e : Env} {below : List Frame} {s : State} {sargs : Array Value} {len W : Nat} (x t : Addr) (V : Cell) (cd : Int32) (n : Nat) (f : Nat → Int32) (z : Int32) (htab : tab.before sargs s = true) (hfr : 2 ≤ R.frames) (hlo : W + 25 ≤ R.locals) :
    Back l R p e below s sargs yN len W (fun A₁ a₁ => A₁.cells + 0 ≤ R.cells ∧ A₁.slots + 0 ≤ R.slots ∧ P x t V cd n f z a₁ A₁.U) (fun A₁ _ v₁ B₁ => E n v₁ A₁.U B₁.U ∧ B₁.locs = A₁.locs ++ [] ∧ B₁.cells = A₁.cells + 0 ∧ B₁.slots = A₁.slots + 0) :=
  (law l x t V cd n f z).pays htab hfr (by omega)
end Len
end StrChars
namespace StrChars.Road
open Jvm Sem ClassFile Op Lib Jvm.Stand Jvm.Free Jvm.Free.XT
open Jvm.Lib.Cold (StaticIs)
theorem consq {a : Array Value} {s : State} {c : Jvm.Cond} {L : List Jvm.Cond} (h0 : c.before a s = true) (h : ∀ w ∈ L, w.before a s = true) : ∀ w ∈ c :: L, w.before a s = true := fun w hw => (List.mem_cons.mp hw).elim (fun e => e ▸ h0) (h w)
/-- the words of String.length(), either coding -/
abbrev wordsLen : List Jvm.Cond := [.code Len.yN Len.yB 1 (some .int), .initialized ST, .fieldLink ST 9 ST "value" "[B", .fieldLink ST 38 ST "COMPACT_STRINGS" "Z", .fieldLink ST 15 ST "coder" "B", .code Cdr.yN Cdr.yB 1 (some .byte), .methodLink ST 335 Cdr.yN, .declares Cdr.yN, .selects ST Cdr.yN Cdr.yN, .instanceMethod Cdr.yN]
theorem tabLen_of {a : Array Value} {s : State} (h : ∀ w ∈ wordsLen, w.before a s = true) : Len.tab.before a s = true := by
  have hc : Cdr.tab.before a s = true := unparts (wk h (.code Cdr.yN Cdr.yB 1 (some .byte))) (wks h (.initialized Cdr.yN.cls :: Cdr.site))
  have q := consq hc h
  exact unparts (wk q (.code Len.yN Len.yB 1 (some .int))) (wks q (.initialized Len.yN.cls :: Len.site))
theorem movedLen {Z s : State} {a0 args : Array Value} (hZ : Z.Warmed39 s.vm) (hw : ∀ d ∈ wordsLen, d.before a0 Z = true) : ∀ d ∈ wordsLen, d.before args s = true := fun d hd => by
  have q := hw d hd
  have t : ∀ d ∈ wordsLen, d = .arrayClass .byte ∨ (d.onTables && d.keepsFace) = true := by decide +kernel
  rcases t d hd with rfl | t
  · exact RoadKit.mvA hZ q
  · exact RoadKit.mv hZ q t
/-- the bytes of the chars cs, low before high -/
def wideBytes : List Int32 → List Value
  | [] => []
  | c :: cs => .int (lo8 c) :: .int (hi8 c) :: wideBytes cs
theorem wide_lo (d : Value) : ∀ (cs : List Int32) (j : Nat), j < cs.length → (wideBytes cs).getD (2 * j) d = .int (lo8 (cs.getD j 0))
  | [], j, h => absurd h (Nat.not_lt_zero j)
  | c :: cs, 0, _ => rfl
  | c :: cs, j + 1, h => by
    have q := wide_lo d cs j (by simpa using h)
    rw [show 2 * (j + 1) = 2 * j + 1 + 1 from by omega]
    simpa [wideBytes] using q
theorem wide_hi (d : Value) : ∀ (cs : List Int32) (j : Nat), j < cs.length → (wideBytes cs).getD (2 * j + 1) d = .int (hi8 (cs.getD j 0))
  | [], j, h => absurd h (Nat.not_lt_zero j)
  | c :: cs, 0, _ => rfl
  | c :: cs, j + 1, h => by
    have q := wide_hi d cs j (by simpa using h)
    rw [show 2 * (j + 1) + 1 = 2 * j + 1 + 1 + 1 from by omega]
    simpa [wideBytes] using q
theorem low_at (d : Value) (cs : List Int32) (j : Nat) (h : j < cs.length) : (cs.map fun c => Value.int (lo8 c)).getD j d = .int (lo8 (cs.getD j 0)) := by
  simp [List.getD_eq_getElem?_getD, h]
/-- an array of N2 bytes vs codes the chars cs by the coder cd -/
def CodA (cs : List Int32) (cd N2 : Int32) (vs : List Value) : Prop := (cd = 0 ∧ N2 = Int32.ofNat cs.length ∧ vs = (cs.map fun c => Value.int (lo8 c)) ∧ ∀ c ∈ cs, ¬ 255 < c) ∨ (cd = 1 ∧ N2 = Int32.ofNat (2 * cs.length) ∧ vs = wideBytes cs ∧ ∃ c ∈ cs, 255 < c)
theorem CodA.cod {cs : List Int32} {cd N2 : Int32} {vs : List Value} {V : Cell} (h : CodA cs cd N2 vs) (hn : 2 * cs.length < 2 ^ 31) (hs : V.slots.size = N2.toNatClampNeg) (hv : RoadKit.Has V vs (.int 0)) : Cod cd cs.length (fun j => cs.getD j 0) V := by
  rcases h with ⟨rfl, rfl, rfl, h⟩ | ⟨rfl, rfl, rfl, c, hc, hw⟩
  · rw [n32 (by omega)] at hs
    exact Or.inl ⟨rfl, hs, fun j hj => ⟨by rw [hv j (by omega), low_at _ _ _ hj], by
      have e : cs.getD j 0 = cs[j] := by simp [List.getD_eq_getElem?_getD, hj]
      show ¬ 255 < cs.getD j 0
      rw [e]; exact h _ (List.getElem_mem _)⟩⟩
  · rw [n32 (by omega)] at hs
    obtain ⟨j, hj, rfl⟩ := List.getElem_of_mem hc
    exact Or.inr ⟨rfl, hs, fun j hj => ⟨by rw [hv _ (by omega), wide_lo _ _ _ hj], by rw [hv _ (by omega), wide_hi _ _ _ hj]⟩, j, hj, by
      have e : cs.getD j 0 = cs[j] := by simp [List.getD_eq_getElem?_getD, hj]
      show 255 < cs.getD j 0
      rw [e]; exact hw⟩
/-- an object of exactly java/lang/String, its two fields found: as the laws ask it -/
theorem strObj {Z U : State} {a0 : Array Value} {kI : Nat} (wi : (Jvm.Cond.instantiable ST kI).before a0 Z = true) (al : Z.vm.Alike U.vm) {x : Addr} {v0 c0 : Value} (E : RoadKit.Exa Z U.heap x ST) (V : RoadKit.Fld Z U.heap x ST "value" "[B" v0) (C : RoadKit.Fld Z U.heap x ST "coder" "B" c0) :
    ∃ (D : Cell) (fV fC : Field), Blank ST x D U ∧ Found ST "value" "[B" fV U ∧ Found ST "coder" "B" fC U ∧ D.slots[fV.slot]? = some v0 ∧ D.slots[fC.slot]? = some c0 ∧ RoadKit.slotOf Z ST "value" "[B" = fV.slot ∧ RoadKit.slotOf Z ST "coder" "B" = fC.slot := by
  obtain ⟨D, cfV, kV, iV, fV, hD, gV, stV, knV, obV, asV, slV⟩ := V
  obtain ⟨D', cfC, kC, iC, fC, hD', gC, stC, -, -, asC, slC⟩ := C
  cases hD.symm.trans hD'
  obtain ⟨D2, kD, e1, e2, e3, e4, e5⟩ := E
  cases hD.symm.trans e1
  obtain ⟨c2, k2, i1, i2, i3, -⟩ := Cond.instantiable_spec wi
  cases e2.symm.trans i1
  cases e3.symm.trans i2
  obtain ⟨kU, u1, u2⟩ := al.2.2 _ _ e3
  exact ⟨D, fV, fC, ⟨hD, ⟨knV, fun q hq => by rw [hq] at obV; cases obV⟩, by rw [al.findClass]; exact e2, kU, u1, by rw [u2]; exact i3, by rw [u2]; exact e5 i3⟩, ⟨SBG.found_only al ⟨cfV, kV, iV, gV⟩, stV⟩, ⟨SBG.found_only al ⟨cfC, kC, iC, gC⟩, stC⟩, slV, slC, by simp [RoadKit.slotOf, gV], by simp [RoadKit.slotOf, gC]⟩
theorem sta_is {Z U : State} (al : Z.vm.Alike U.vm) {C n d : String} {v : Value} (S : RoadKit.Sta Z U.heap C n d v) : StaticIs U C n d v := by
  obtain ⟨cfS, iS, kS, fS, st, cS, t1, t2, t3, t4, t5, t6, t7⟩ := S
  exact StaticIs.there (s := { Z with heap := U.heap }) ⟨cfS, iS, kS, fS, st, cS, t1, t2, t3, t4, t5, (fun q => by rw [q] at t6; cases t6), t7⟩ al rfl
/-- **length() OF SUCH A STRING** -/
theorem lenW {p : Program} {l : Launch} {e : Env} {R : Room} {s : State} {args : Array Value} {below : List Frame} {len W : Nat} {Z : State} {a0 : Array Value} {h : Heap} (hZ : Z.Warmed39 s.vm) (hw : ∀ d ∈ wordsLen, d.before a0 Z = true) {kI : Nat} (wi : (Jvm.Cond.instantiable ST kI).before a0 Z = true)
    {x t : Addr} {kb : ClassId} {cs : List Int32} {cd N2 z : Int32} {vs : List Value} (E : RoadKit.Exa Z h x ST) (V : RoadKit.Fld Z h x ST "value" "[B" (.ref t)) (C : RoadKit.Fld Z h x ST "coder" "B" (.int cd)) (K : RoadKit.Arv Z h t kb .byte N2 vs (.int 0)) (hc : CodA cs cd N2 vs) (hb : ∀ c ∈ cs, ¬ c < 0 ∧ ¬ (65535 : Int32) < c)
    (S : RoadKit.Sta Z h ST "COMPACT_STRINGS" "Z" (.int z)) (hz : ¬ z = 0) (l2 : cs.length ≤ 4000) (hfr : 2 ≤ R.frames) (hlo : W + 25 ≤ R.locals) :
    Back l R p e below s args (⟨"java/lang/String", "length", "()I"⟩ : MethodName) len W (fun P a => a = #[.ref x] ∧ P.U.heap = h ∧ P.cells + 0 ≤ R.cells ∧ P.slots + 0 ≤ R.slots)
      (fun P _ v B => ∃ L, (v = some (.int (Int32.ofNat cs.length)) ∧ L = [] ∧ B.U.heap = h) ∧ B.locs = P.locs ++ L ∧ B.cells = P.cells + 0 ∧ B.slots = P.slots + 0) := by
  obtain ⟨A, K1, K2, K3, K4, K5, K6⟩ := K
  have hcod := hc.cod (by omega) K3 K5
  intro m meth c P g ig mk a X hg hsize hdg hW hn hp'
  obtain ⟨rfl, rfl, r1, r2⟩ := hp'
  have al : Z.vm.Alike P.U.vm := hZ.alike.trans X.warmed.alike
  obtain ⟨D, fV, fC, hB, F1, F2, g1, g2, -, -⟩ := strObj wi al E V C
  have hx : Txt x t A cd cs.length (fun j => cs.getD j 0) P.U := ⟨⟨_, hB.2.2.1, D, hB.1, rfl, by cases q : D.vm <;> first | rfl | exact absurd q (hB.2.1.2 _)⟩, Has.of hB F1 g1, Has.of hB F2 g2, ⟨K1.1, State.isArrayOf_alike al K1.2.1, K1.2.2, by rcases hcod with ⟨-, q, -⟩ | ⟨-, q, -⟩ <;> omega⟩, hcod, fun j hj => by
    have e : cs.getD j 0 = cs[j] := by simp [List.getD_eq_getElem?_getD, hj]
    show ¬ cs.getD j 0 < 0 ∧ ¬ 65535 < cs.getD j 0
    rw [e]; exact hb _ (List.getElem_mem _)⟩
  obtain ⟨v, B, X', ⟨⟨hv, hh⟩, hl, hk, hs⟩, st⟩ := Len.pays x t A cd cs.length (fun j => cs.getD j 0) z (tabLen_of (movedLen hZ hw)) hfr hlo m meth c P g ig mk _ X hg hsize hdg hW hn ⟨r1, r2, rfl, hx, sta_is al S, hz⟩
  exact ⟨v, B, X', ⟨[], ⟨hv, rfl, hh⟩, hl, hk, hs⟩, st⟩
end StrChars.Road
namespace StrChars
open Jvm Sem ClassFile Op Lib Jvm.Stand Jvm.Free.XT Jvm.Free.ALB Jvm.Free.JM Jvm.Free
open Jvm.Lib.Cold (StaticIs)
namespace Emp
def yN : MethodName := ⟨"java/lang/String", "isEmpty", "()Z"⟩
abbrev yB : ByteArray := jdk_42_method_55_code
theorem d0 : decode yB 0 = .ok (.aload_n 0, 1) := by decide +kernel
theorem d1 : decode yB 1 = .ok (.getfield 9, 3) := by decide +kernel
theorem d4 : decode yB 4 = .ok (.arraylength, 1) := by decide +kernel
theorem d5 : decode yB 5 = .ok (.ifCond (.ne) 7, 3) := by decide +kernel
theorem d8 : decode yB 8 = .ok (.iconst 1, 1) := by decide +kernel
theorem d9 : decode yB 9 = .ok (.goto 4, 3) := by decide +kernel
theorem d12 : decode yB 12 = .ok (.iconst 0, 1) := by decide +kernel
theorem d13 : decode yB 13 = .ok (.ireturn, 1) := by decide +kernel
def site : List Cond := [.fieldLink "java/lang/String" 9 "java/lang/String" "value" "[B"]
def tab : Cond := tabOf yN yB 1 (some .boolean) site
def P (x t : Addr) (V : Cell) (cd : Int32) (n : Nat) (f : Nat → Int32) (args : Array Value) (s : State) : Prop := args = #[.ref x] ∧ Txt x t V cd n f s
def E (n : Nat) (r : Option Value) (s u : State) : Prop := XT.PureE (some (.int (if n = 0 then 1 else 0))) r s u
/-- isEmpty() of a String of n chars -/
theorem law (l : Launch) (x t : Addr) (V : Cell) (cd : Int32) (n : Nat) (f : Nat → Int32) : Law l yN 1 0 0 0 yB 1 (some .boolean) site (P x t V cd n f) (E n) [] 0 0 := by
  refine Law.of_walk (plainFor_of_name (by decide +kernel)) (by decide +kernel) (by decide +kernel) (by decide) (fun _ _ h => by rw [h.1]; rfl) (fun _ U U' hal hh h => ⟨h.1, h.2.mv hal hh⟩) (fun r U U' V V' h1 hal h2 h => XT.PureE.mv r U U' V V' h1 hal h2 h) ?_
  intro p e s m args below meth c s₁ X0 hexec hbytes hml hret hlk hnm hown hh0 W hP
  obtain ⟨rfl, hx⟩ := hP
  have v31 := hx.2.2.2.1.2.2.2
  have c1 : Steps p.tables e below (s₁.setTop (entryFrame m #[.ref x] 1)) (s₁.setTop (mkF m 1 #[.val (.ref x)] [.ref x])) := Steps.trans (entry rfl) (by
    show Steps p.tables e below (s₁.setTop (mkF m 0 #[.val (.ref x)] [])) _
    refine XS.aloadN X0.here hexec rfl (hb hbytes d0) rfl rfl ?_
    exact Steps.refl _)
  obtain ⟨T2, X2, q2, st2⟩ := X0.hget hexec hown (wk W (.fieldLink "java/lang/String" 9 "java/lang/String" "value" "[B")) (hx.mv X0.warmed.alike hh0).2.1 (g := (mkF m 1 #[.val (.ref x)] [.ref x])) rfl (rest := []) rfl (hb hbytes d1)
  have hh2 := q2.trans hh0
  have hx2 := hx.mv X2.warmed.alike hh2
  have c3 : Steps p.tables e below (s₁.setTop (entryFrame m #[.ref x] 1)) (T2.setTop (mkF m 5 #[.val (.ref x)] [.int (Int32.ofNat V.slots.size)])) := (c1.trans (st2 _ (Steps.refl _))).trans (by
    refine X2.alen hexec hx2.2.2.2.1 rfl rfl (hb hbytes d4) ?_
    exact Steps.refl _)
  have hz : V.slots.size = 0 ↔ n = 0 := by
    rcases hx.2.2.2.2.1 with ⟨-, q, -⟩ | ⟨-, q, -⟩ <;> omega
  by_cases h0 : n = 0
  · have c4 : Steps p.tables e below (s₁.setTop (entryFrame m #[.ref x] 1)) (T2.setTop (mkF m 13 #[.val (.ref x)] [.int 1])) := c3.trans (by
      refine XS.ifNo X2.here hexec rfl (hb hbytes d5) rfl (i0_ne_f (by rw [hz.mpr h0]; rfl)) ?_
      refine iconstV X2.here hexec rfl 1 (hb hbytes d8) (by decide) ?_
      refine XS.goto X2.here hexec rfl (pc0 := 9) rfl (hb hbytes d9) (by decide) rfl ?_
      exact Steps.refl _)
    exact ⟨T2, some (.int 1), _, _, _, X2, rfl, rfl, rfl, (fun h => by cases h), ⟨by rw [if_pos h0], hh2⟩, fun fs hl => c4.trans (X2.ireturnOut hexec hret rfl (Or.inr (Or.inl rfl)) (hb hbytes d13) hl)⟩
  · have c4 : Steps p.tables e below (s₁.setTop (entryFrame m #[.ref x] 1)) (T2.setTop (mkF m 13 #[.val (.ref x)] [.int 0])) := c3.trans (by
      refine XS.ifYes X2.here hexec rfl (pc0 := 5) rfl (hb hbytes d5) rfl (i0_ne_t (nz32 v31 (by omega))) (by decide) rfl ?_
      refine iconstV X2.here hexec rfl 0 (hb hbytes d12) (by decide) ?_
      exact Steps.refl _)
    exact ⟨T2, some (.int 0), _, _, _, X2, rfl, rfl, rfl, (fun h => by cases h), ⟨by rw [if_neg h0], hh2⟩, fun fs hl => c4.trans (X2.ireturnOut hexec hret rfl (Or.inr (Or.inl rfl)) (hb hbytes d13) hl)⟩
theorem pays {l : Launch} {R : Room} {p : Program} {e : Env} {below : List Frame} {s : State} {sargs : Array Value} {len W : Nat} (x t : Addr) (V : Cell) (cd : Int32) (n : Nat) (f : Nat → Int32) (htab : tab.before sargs s = true) (hfr : 1 ≤ R.frames) (hlo : W + 12 ≤ R.locals) :
    Back l R p e below s sargs yN len W (fun A₁ a₁ => A₁.cells + 0 ≤ R.cells ∧ A₁.slots + 0 ≤ R.slots ∧ P x t V cd n f a₁ A₁.U) (fun A₁ _ v₁ B₁ => E n v₁ A₁.U B₁.U ∧ B₁.locs = A₁.locs ++ [] ∧ B₁.cells = A₁.cells + 0 ∧ B₁.slots = A₁.slots + 0) :=
  (law l x t V cd n f).pays htab hfr (by omega)
end Emp
end StrChars
namespace StrChars.Road
open Jvm Sem ClassFile Op Lib Jvm.Stand Jvm.Free Jvm.Free.XT
open Jvm.Lib.Cold (StaticIs)
/-- the words of String.isEmpty() -/
abbrev wordsEmp : List Jvm.Cond := [.code Emp.yN Emp.yB 1 (some .boolean), .initialized ST, .fieldLink ST 9 ST "value" "[B"]
theorem tabEmp_of {a : Array Value} {s : State} (h : ∀ w ∈ wordsEmp, w.before a s = true) : Emp.tab.before a s = true := unparts (wk h (.code Emp.yN Emp.yB 1 (some .boolean))) (wks h (.initialized Emp.yN.cls :: Emp.site))
theorem movedEmp {Z s : State} {a0 args : Array Value} (hZ : Z.Warmed39 s.vm) (hw : ∀ d ∈ wordsEmp, d.before a0 Z = true) : ∀ d ∈ wordsEmp, d.before args s = true := fun d hd => by
  have t : ∀ d ∈ wordsEmp, (d.onTables && d.keepsFace) = true := by decide +kernel
  exact RoadKit.mv hZ (hw d hd) (t d hd)
/-- the road's facts of a String, as the laws ask it -/
theorem txt_of {Z U : State} {a0 : Array Value} {kI : Nat} (wi : (Jvm.Cond.instantiable ST kI).before a0 Z = true) (al : Z.vm.Alike U.vm) {x t : Addr} {kb : ClassId} {cs : List Int32} {cd N2 : Int32} {vs : List Value} (E : RoadKit.Exa Z U.heap x ST) (V : RoadKit.Fld Z U.heap x ST "value" "[B" (.ref t)) (C : RoadKit.Fld Z U.heap x ST "coder" "B" (.int cd)) (K : RoadKit.Arv Z U.heap t kb .byte N2 vs (.int 0)) (hc : CodA cs cd N2 vs) (hb : ∀ c ∈ cs, ¬ c < 0 ∧ ¬ (65535 : Int32) < c) (l2 : cs.length ≤ 4000) :
    ∃ A, Txt x t A cd cs.length (fun j => cs.getD j 0) U := by
  obtain ⟨A, K1, K2, K3, K4, K5, K6⟩ := K
  have hcod := hc.cod (by omega) K3 K5
  obtain ⟨D, fV, fC, hB, F1, F2, g1, g2, -, -⟩ := strObj wi al E V C
  exact ⟨A, ⟨_, hB.2.2.1, D, hB.1, rfl, by cases q : D.vm <;> first | rfl | exact absurd q (hB.2.1.2 _)⟩, Has.of hB F1 g1, Has.of hB F2 g2, ⟨K1.1, State.isArrayOf_alike al K1.2.1, K1.2.2, by rcases hcod with ⟨-, q, -⟩ | ⟨-, q, -⟩ <;> omega⟩, hcod, fun j hj => by
    have e : cs.getD j 0 = cs[j] := by simp [List.getD_eq_getElem?_getD, hj]
    show ¬ cs.getD j 0 < 0 ∧ ¬ 65535 < cs.getD j 0
    rw [e]; exact hb _ (List.getElem_mem _)⟩
/-- **isEmpty() OF SUCH A STRING** -/
theorem empW {p : Program} {l : Launch} {e : Env} {R : Room} {s : State} {args : Array Value} {below : List Frame} {len W : Nat} {Z : State} {a0 : Array Value} {h : Heap} (hZ : Z.Warmed39 s.vm) (hw : ∀ d ∈ wordsEmp, d.before a0 Z = true) {kI : Nat} (wi : (Jvm.Cond.instantiable ST kI).before a0 Z = true)
    {x t : Addr} {kb : ClassId} {cs : List Int32} {cd N2 : Int32} {vs : List Value} (E : RoadKit.Exa Z h x ST) (V : RoadKit.Fld Z h x ST "value" "[B" (.ref t)) (C : RoadKit.Fld Z h x ST "coder" "B" (.int cd)) (K : RoadKit.Arv Z h t kb .byte N2 vs (.int 0)) (hc : CodA cs cd N2 vs) (hb : ∀ c ∈ cs, ¬ c < 0 ∧ ¬ (65535 : Int32) < c) (l2 : cs.length ≤ 4000) (hfr : 1 ≤ R.frames) (hlo : W + 12 ≤ R.locals) :
    Back l R p e below s args (⟨"java/lang/String", "isEmpty", "()Z"⟩ : MethodName) len W (fun P a => a = #[.ref x] ∧ P.U.heap = h ∧ P.cells + 0 ≤ R.cells ∧ P.slots + 0 ≤ R.slots)
      (fun P _ v B => ∃ L, (v = some (.int (if cs.length = 0 then 1 else 0)) ∧ L = [] ∧ B.U.heap = h) ∧ B.locs = P.locs ++ L ∧ B.cells = P.cells + 0 ∧ B.slots = P.slots + 0) := by
  intro m meth c P g ig mk a X hg hsize hdg hW hn hp'
  obtain ⟨rfl, rfl, r1, r2⟩ := hp'
  have al : Z.vm.Alike P.U.vm := hZ.alike.trans X.warmed.alike
  obtain ⟨A, hx⟩ := txt_of wi al E V C K hc hb l2
  obtain ⟨v, B, X', ⟨⟨hv, hh⟩, hl, hk, hs⟩, st⟩ := Emp.pays x t A cd cs.length (fun j => cs.getD j 0) (tabEmp_of (movedEmp hZ hw)) hfr hlo m meth c P g ig mk _ X hg hsize hdg hW hn ⟨r1, r2, rfl, hx⟩
  exact ⟨v, B, X', ⟨[], ⟨hv, rfl, hh⟩, hl, hk, hs⟩, st⟩
end StrChars.Road
end Jvm.Pilot.@@N@@
namespace Jvm.Pilot.@@N@@
open Jvm Jvm.ClassFile Sem Op Lib Jvm.Free Jvm.Stand Jvm.LawKit Jvm.RoadKit Bundle Jvm.Pilot.@@N@@.Jvm.D
section OwnKit
variable {p : Program} {l : Launch} {e : Env} {R : Room} {s : State} {m : MethodId} {args : Array Value} {below : List Frame} {meth : Method} {c : Code} {T : State} {locs : List Loc} {cells slots : Nat}
theorem own_retI (X : Stand p l e R s m args below meth c T locs cells slots) (hx : p.tables.exec = Jvm.exec) {pc : Nat} {Ls : Array Slot} {z : Int32} {rest : List Value} (hret : meth.sig.returnType = some .int) (hd : decode c.code pc = .ok (.ireturn, 1)) {fs : List Frame}
    (hl : ∀ (f : JFrame) (acts : List Action), f.method = m → f.locked = none → f.entered = [] → (doReturn e (T.setTop f) acts (some (.int z))).1 = T.setFrames fs) : Steps p.tables e below (T.setTop (mkF m pc Ls (.int z :: rest))) (T.setFrames fs) :=
  retOut X hx hret rfl (Or.inl ⟨rfl, Or.inl rfl, z, rfl⟩) hd hl
theorem own_retL (X : Stand p l e R s m args below meth c T locs cells slots) (hx : p.tables.exec = Jvm.exec) {pc : Nat} {Ls : Array Slot} {z : Int64} {rest : List Value} (hret : meth.sig.returnType = some .long) (hd : decode c.code pc = .ok (.lreturn, 1)) {fs : List Frame}
    (hl : ∀ (f : JFrame) (acts : List Action), f.method = m → f.locked = none → f.entered = [] → (doReturn e (T.setTop f) acts (some (.long z))).1 = T.setFrames fs) : Steps p.tables e below (T.setTop (mkF m pc Ls (.long z :: rest))) (T.setFrames fs) :=
  retOut X hx hret rfl (Or.inr (Or.inl ⟨rfl, rfl, z, rfl⟩)) hd hl
theorem own_retD (X : Stand p l e R s m args below meth c T locs cells slots) (hx : p.tables.exec = Jvm.exec) {pc : Nat} {Ls : Array Slot} {z : UInt64} {rest : List Value} (hret : meth.sig.returnType = some .double) (hd : decode c.code pc = .ok (.dreturn, 1)) {fs : List Frame}
    (hl : ∀ (f : JFrame) (acts : List Action), f.method = m → f.locked = none → f.entered = [] → (doReturn e (T.setTop f) acts (some (.double z))).1 = T.setFrames fs) : Steps p.tables e below (T.setTop (mkF m pc Ls (.double z :: rest))) (T.setFrames fs) :=
  retOut X hx hret rfl (Or.inr (Or.inr (Or.inl ⟨rfl, rfl, z, rfl⟩))) hd hl
theorem own_retA (X : Stand p l e R s m args below meth c T locs cells slots) (hx : p.tables.exec = Jvm.exec) {pc : Nat} {Ls : Array Slot} {t : FieldType} {v : Value} {rest : List Value} (hret : meth.sig.returnType = some t) (ht : t.isReference = true) (hv : v.isRef = true) (hn : narrow t v = v) (hd : decode c.code pc = .ok (.areturn, 1)) {fs : List Frame}
    (hl : ∀ (f : JFrame) (acts : List Action), f.method = m → f.locked = none → f.entered = [] → (doReturn e (T.setTop f) acts (some v)).1 = T.setFrames fs) : Steps p.tables e below (T.setTop (mkF m pc Ls (v :: rest))) (T.setFrames fs) :=
  retOut X hx hret hn (Or.inr (Or.inr (Or.inr (Or.inr ⟨rfl, ht, hv⟩)))) hd hl
theorem own_ns_exa {Z : State} {h : Heap} {a : Addr} {C : String} (F : Exa Z h a C) : ∃ c : Cell, h[a]? = some c ∧ c.vm.isStatics = false := by
  obtain ⟨c, _, h1, -, -, h4, -⟩ := F; exact ⟨c, h1, h4⟩
theorem own_ns_arv {Z : State} {h : Heap} {a : Addr} {k : ClassId} {ty : FieldType} {z : Int32} {vs : List Value} {dv : Value} (F : Arv Z h a k ty z vs dv) : ∃ c : Cell, h[a]? = some c ∧ c.vm.isStatics = false := by
  obtain ⟨c, A, -⟩ := F; exact ⟨c, A.1, A.plain⟩
theorem own_sta_keep {Z : State} {h h' : Heap} {C n d : String} {v : Value} {ws : List Addr} (F : Sta Z h C n d v) (K : Keep h h' ws) (q : ∀ x ∈ ws, ∃ c : Cell, h[x]? = some c ∧ c.vm.isStatics = false) : Sta Z h' C n d v := by
  obtain ⟨cf, i, k, f, st, cell, h1, h2, h3, h4, h5, h6, h7⟩ := F
  refine ⟨cf, i, k, f, st, cell, h1, h2, h3, h4, K.2.1 st cell h5 (fun m => ?_), h6, h7⟩
  obtain ⟨c, e1, e2⟩ := q st m; cases h5.symm.trans e1; rw [e2] at h6; cases h6
theorem own_pad {Z : State} {h : Heap} {a : Addr} {k : ClassId} {ty : FieldType} {z : Int32} (A : Arr Z h a (newA k ty z) ty) (q : ¬ z < 0) : Arv Z h a k ty z (List.replicate z.toNatClampNeg (defaultValue ty)) (defaultValue ty) := by
  have r := (Arv.new A q).pad (pad_rep [] (defaultValue ty) z.toNatClampNeg)
  rwa [List.nil_append] at r
/-- from A the run ends, and then P -/
def OwnGo (tb : Tables) (e : Env) (below : List Frame) (P : Outcome → State → Prop) (A : State) : Prop := ∃ s₂ o, Steps tb e below A s₂ ∧ s₂.status = .running ∧ Ended s₂ below o ∧ P o s₂
theorem OwnGo.of {tb : Tables} {P : Outcome → State → Prop} {A B : State} (k : ∀ t, Steps tb e below B t → Steps tb e below A t) (g : OwnGo tb e below P B) : OwnGo tb e below P A := by
  obtain ⟨s2, o, h1, h2⟩ := g; exact ⟨s2, o, k _ h1, h2⟩
abbrev OwnPre (R : Room) (as' : Array Value) (h : Heap) (rc rs : Nat) : Pt → Array Value → Prop := fun A a => a = as' ∧ A.U.heap = h ∧ A.cells + rc ≤ R.cells ∧ A.slots + rs ≤ R.slots
abbrev OwnPost (Q : Option Value → Heap → List Loc → Prop) (rc rs : Nat) : Pt → Array Value → Option Value → Pt → Prop := fun A _ v B => ∃ L, Q v B.U.heap L ∧ B.locs = A.locs ++ L ∧ B.cells = A.cells + rc ∧ B.slots = A.slots + rs
theorem own_callS (X : Stand p l e R s m args below meth c T locs cells slots) (hexec : p.tables.exec = Jvm.exec) {own : String} {index : Nat} {y : MethodName} {bytes : ByteArray} {maxL : Nat} {ret : Option FieldType}
    (hown : s.vm.findClass own = some m.cls) (hlink : (Jvm.Cond.methodLink own index y).before args s = true) (hstat : (Jvm.Cond.static y).before args s = true) (hinit : (Jvm.Cond.initialized y.cls).before args s = true)
    (hcode : (Jvm.Cond.code y bytes maxL ret).before args s = true) (hy : y.cls ≠ "java/lang/invoke/MethodHandle" ∧ y.cls ≠ "java/lang/invoke/VarHandle")
    {W : Nat} {as' : Array Value} {h : Heap} {Q : Option Value → Heap → List Loc → Prop} {rc rs : Nat} (hK : Back l R p e below s args y 3 W (OwnPre R as' h rc rs) (OwnPost Q rc rs))
    {g : JFrame} (hg : g.method = m) (hsize : g.locals.size = c.maxLocals) {argsL rest : List Value} (hlen : ∀ sig, parseMethodDescriptor y.desc = some sig → argsL.length = sig.parameters.length)
    (hstack : g.stack = argsL.reverse ++ rest) (hW : 2 * g.monitorRoom + (rest.map fun v => v.category).sum ≤ W) (hdg : decode c.code g.pc = .ok (.invokestatic index, 3))
    (ha : argsL.toArray = as') (eT : T.heap = h) (hc : cells + rc ≤ R.cells) (hs : slots + rs ≤ R.slots) :
    ∃ (T' : State) (L : List Loc) (v : Option Value), Stand p l e R s m args below meth c T' (locs ++ L) (cells + rc) (slots + rs) ∧ Q v T'.heap L ∧ ∀ target, Steps p.tables e below (T'.setTop { g with pc := g.pc + 3, stack := v.toList ++ rest }) target → Steps p.tables e below (T.setTop g) target := by
  obtain ⟨v, _, ⟨T1, L1, k1, n1⟩, -, X1, ⟨Lc, hQ, l1, y1, z1⟩, st⟩ := Jvm.LawKit.callS X hexec hown hlink hstat hinit hcode hy hK hg hsize hlen hstack hW hdg (fun _ _ => ⟨ha, eT, hc, hs⟩)
  dsimp only [Pt.U, Pt.locs, Pt.cells, Pt.slots] at X1 l1 y1 z1 st hQ
  subst l1 y1 z1
  exact ⟨T1, Lc, v, X1, hQ, st⟩
theorem own_callI (X : Stand p l e R s m args below meth c T locs cells slots) (hexec : p.tables.exec = Jvm.exec) {own : String} {index : Nat} {y : MethodName} (hy1 : y.name = "<init>")
    (hown : s.vm.findClass own = some m.cls) (hlink : (Jvm.Cond.methodLink own index y).before args s = true) (hinst : (Jvm.Cond.instanceMethod y).before args s = true)
    {bytes : ByteArray} {maxL : Nat} (hcode : (Jvm.Cond.code y bytes maxL none).before args s = true) (hy : y.cls ≠ "java/lang/invoke/MethodHandle" ∧ y.cls ≠ "java/lang/invoke/VarHandle")
    {W : Nat} {as' : Array Value} {h : Heap} {Q : Option Value → Heap → List Loc → Prop} {rc rs : Nat} (hK : Back l R p e below s args y 3 W (OwnPre R as' h rc rs) (OwnPost Q rc rs))
    {g : JFrame} (hg : g.method = m) (hsize : g.locals.size = c.maxLocals) {a : Addr} {argsL rest : List Value}
    (hlen : ∀ sig, parseMethodDescriptor y.desc = some sig → argsL.length = sig.parameters.length) (hstack : g.stack = argsL.reverse ++ .ref a :: rest) (hW : 2 * g.monitorRoom + (rest.map fun v => v.category).sum ≤ W)
    (hdg : decode c.code g.pc = .ok (.invokespecial index, 3)) (ha : (Value.ref a :: argsL).toArray = as') (eT : T.heap = h) (hc : cells + rc ≤ R.cells) (hs : slots + rs ≤ R.slots) :
    ∃ (T' : State) (L : List Loc) (v : Option Value), Stand p l e R s m args below meth c T' (locs ++ L) (cells + rc) (slots + rs) ∧ Q v T'.heap L ∧ ∀ target, Steps p.tables e below (T'.setTop { g with pc := g.pc + 3, stack := v.toList ++ rest }) target → Steps p.tables e below (T.setTop g) target := by
  obtain ⟨v, _, ⟨T1, L1, k1, n1⟩, -, X1, ⟨Lc, hQ, l1, y1, z1⟩, st⟩ := X.specialBack hexec hy1 hown hlink hinst hcode hy hK hg hsize (Steps.refl _) hlen hstack hW hdg (fun _ _ => ⟨ha, eT, hc, hs⟩)
  dsimp only [Pt.U, Pt.locs, Pt.cells, Pt.slots] at X1 l1 y1 z1 st hQ
  subst l1 y1 z1
  exact ⟨T1, Lc, v, X1, hQ, fun t k => st.trans k⟩
theorem own_callV (X : Stand p l e R s m args below meth c T locs cells slots) (hexec : p.tables.exec = Jvm.exec) {own C : String} {index : Nat} {y z : MethodName}
    (hown : s.vm.findClass own = some m.cls) (hlink : (Jvm.Cond.methodLink own index y).before args s = true) (hdecl : (Jvm.Cond.declares y).before args s = true) (hnf : NotFace s y)
    (hsel : (Jvm.Cond.selects C y z).before args s = true) (hinst : (Jvm.Cond.instanceMethod z).before args s = true) (hy : y.cls ≠ "java/lang/invoke/MethodHandle" ∧ y.cls ≠ "java/lang/invoke/VarHandle")
    {W : Nat} {as' : Array Value} {h : Heap} {Q : Option Value → Heap → List Loc → Prop} {rc rs : Nat} (hK : Back l R p e below s args z 3 W (OwnPre R as' h rc rs) (OwnPost Q rc rs))
    {b : Addr} {cB : ClassId} (hcB : s.vm.findClass C = some cB) (hrecv : IsOf cB T b)
    {g : JFrame} (hg : g.method = m) (hsize : g.locals.size = c.maxLocals) {argsL rest : List Value}
    (hlen : ∀ sig, parseMethodDescriptor y.desc = some sig → argsL.length = sig.parameters.length) (hstack : g.stack = argsL.reverse ++ .ref b :: rest) (hW : 2 * g.monitorRoom + (rest.map fun v => v.category).sum ≤ W)
    (hdg : decode c.code g.pc = .ok (.invokevirtual index, 3)) (ha : (Value.ref b :: argsL).toArray = as') (eT : T.heap = h) (hc : cells + rc ≤ R.cells) (hs : slots + rs ≤ R.slots) :
    ∃ (T' : State) (L : List Loc) (v : Option Value), Stand p l e R s m args below meth c T' (locs ++ L) (cells + rc) (slots + rs) ∧ Q v T'.heap L ∧ ∀ target, Steps p.tables e below (T'.setTop { g with pc := g.pc + 3, stack := v.toList ++ rest }) target → Steps p.tables e below (T.setTop g) target := by
  obtain ⟨v, _, ⟨T1, L1, k1, n1⟩, -, X1, ⟨Lc, hQ, l1, y1, z1⟩, st⟩ := X.virtualBack hexec hown hlink hdecl hnf hsel hinst hy hK hcB hrecv hg hsize (Steps.refl _) hlen hstack hW hdg (fun _ _ => ⟨ha, eT, hc, hs⟩)
  dsimp only [Pt.U, Pt.locs, Pt.cells, Pt.slots] at X1 l1 y1 z1 st hQ
  subst l1 y1 z1
  exact ⟨T1, Lc, v, X1, hQ, fun t k => st.trans k⟩
end OwnKit
abbrev OwnHW (aw : Array Value) (Z : State) : Prop := ∀ d ∈ tables_1, d.before aw Z = true
theorem w19 {Z aw} (hw : OwnHW aw Z) : Cond.before (Jvm.Cond.stringLink "java/lang/String" (7 : Nat) "") aw Z = true := hw _ (List.mem_of_getElem? (i := 19) rfl)
theorem w85 {Z aw} (hw : OwnHW aw Z) : Cond.before (Jvm.Cond.stringLink "dev/boundaryline/model/HeaderValue" (117 : Nat) "!#$%&'*+-.^_`|~") aw Z = true := hw _ (List.mem_of_getElem? (i := 85) rfl)
section OwnWide
variable {p : Program} {l : Launch} {e : Env} {R : Room} {s b : State} {m : MethodId} {args : Array Value} {below : List Frame} {meth : Method} {c : Code} {T : State} {locs : List Loc} {cells slots : Nat} {Z : State} {a0 : Array Value} {EL : List (String × Nat)} {h h' : Heap}
/-- b: the base of a walk from s that may have interned -/
def OwnB (s b : State) (h : Heap) : Prop := ∃ (vm0 : Vm) (k0 : Nat), b = s.setVm vm0 ∧ s.Since vm0 k0 ∧ k0 ≤ h.size
theorem OwnB.start (s : State) (h : Heap) : OwnB s s h := ⟨s.vm, 0, rfl, (State.WarmedH.refl s).since 0, Nat.zero_le _⟩
theorem OwnB.grow (B : OwnB s b h) (g : h.size ≤ h'.size) : OwnB s b h' := by obtain ⟨v, k, e, S, q⟩ := B; exact ⟨v, k, e, S, Nat.le_trans q g⟩
theorem OwnB.ext (B : OwnB s b h) (E : Ext h h') : OwnB s b h' := B.grow E.1
theorem OwnB.wr {a : Addr} {sl : Nat} {v : Value} (B : OwnB s b h) (W : Wr h h' a sl v) : OwnB s b h' := B.grow (Keep.of_wr W).1
theorem OwnB.keep {ws : List Addr} (B : OwnB s b h) (K : Keep h h' ws) : OwnB s b h' := B.grow K.1
theorem own_ldc (X : Stand p l e R b m args below meth c T locs cells slots) (hx : p.tables.exec = Jvm.exec) (hZ : Z.Warmed39 b.vm) {own text : String} {index : Nat} (hown : b.vm.findClass own = some m.cls) (w : (Jvm.Cond.stringLink own index text).before a0 Z = true) (wS : ∀ a ∈ Bundle.stringAtoms, a.before a0 Z = true)
    (eT : T.heap = h) (B : OwnB s b h) (hEL : EW Z a0 EL) (hmem : (own, index) ∈ EL) (H : CHv Z EL b.vm h)
    {vs : List Value} {z : Int32} (ht : (∀ c ∈ text.toList, c.toNat < 256) ∧ text.toList.map (fun c => Value.int (Jvm.Lit.byteI c.toNat.toUInt16)) = vs) (hz : ¬ z < 0) (hl : z.toNatClampNeg = vs.length)
    {g : JFrame} (hg : g.method = m) (hd : decode c.code g.pc = .ok (.ldc index, 2)) {n : Nat} (hn : 4 * text.toList.length ≤ n) (hbig : n ≤ 536870912) (hc : cells + 2 ≤ R.cells) (hl' : slots + (n + 4) ≤ R.slots) :
    ∃ (b' : State) (a : Addr) (T' : State) (h' : Heap) (t : Addr) (k : ClassId), Stand p l e R b' m args below meth c T' locs (cells + 2) (slots + (n + 4)) ∧ T'.heap = h' ∧ Ext h h' ∧ OwnB s b' h' ∧ Z.Warmed39 b'.vm ∧ b'.vm.findClass own = some m.cls ∧
      Exa Z h' a "java/lang/String" ∧ Fld Z h' a "java/lang/String" "coder" "B" (.int 0) ∧ Fld Z h' a "java/lang/String" "value" "[B" (.ref t) ∧ Arv Z h' t k .byte z vs (.int 0) ∧ CHr Z EL b.vm h b'.vm h' ∧ (∀ x, Safe Z EL b'.vm h' x → x ≠ a ∧ x ≠ t) ∧
      ∀ target, Steps p.tables e below (T'.setTop { g with pc := g.pc + 2, stack := .ref a :: g.stack }) target → Steps p.tables e below (T.setTop g) target := by
  obtain ⟨vm0, k0, rfl, hS, hk⟩ := B
  obtain ⟨a, T', h', k1, t, k, X', e', E', S', q', Z', o', A1, A2, A3, A4, -, -, C', -, ne', st⟩ := ldcCH X hx hZ hown w wS eT hS hk hEL hmem H ht hz hl hg hd hn hbig hc hl'
  exact ⟨s.setVm T'.vm, a, T', h', t, k, X', e', E', ⟨T'.vm, k1, rfl, S', q'⟩, Z', o', A1, A2, A3, A4, C', ne', st⟩
abbrev OwnPostW (Z : State) (EL : List (String × Nat)) (vm : Vm) (h : Heap) (Q : Option Value → Heap → List Loc → Prop) (rc rs : Nat) : Pt → Array Value → Option Value → Pt → Prop := fun A _ v B => ∃ L, Q v B.U.heap L ∧ B.locs = A.locs ++ L ∧ B.cells = A.cells + rc ∧ B.slots = A.slots + rs ∧ CHr Z EL vm h B.U.vm B.U.heap
theorem own_at (X : Stand p l e R b m args below meth c T locs cells slots) (hZ : Z.Warmed39 b.vm) (w : EW Z a0 EL) (H : CHv Z EL b.vm h) : CHr Z EL b.vm h T.vm h := CHv.at (s := b) (vm0 := b.vm) X hZ w H
/-- the contract of a callee that may intern, at a call -/
theorem own_backW {y : MethodName} {bytes : ByteArray} {maxL : Nat} {ret : Option FieldType} {rm : Room} {len W : Nat} {as' : Array Value} {Q : Option Value → Heap → List Loc → Prop} {ws : List Addr}
    (hM : MetFree l y (head1 [Jvm.Cond.code y bytes maxL ret] rm) (fun a U => a = as' ∧ Z.Warmed39 U.vm ∧ U.heap = h ∧ CHv Z EL U.vm h ∧ ∀ x ∈ ws, Safe Z EL U.vm h x) (fun _ _ _ _ _ => True) (fun _ U o U' => ∃ v L, o = .returned v ∧ Q v U'.heap L ∧ CHr Z EL U.vm U.heap U'.vm U'.heap ∧ ReturnedEndW U o U' L rm.cells rm.slots))
    (hZ : Z.Warmed39 b.vm) (wc : (Jvm.Cond.code y bytes maxL ret).before a0 Z = true) (wz : (Jvm.Cond.initialized y.cls).before a0 Z = true) (hf : rm.frames + 1 ≤ R.frames) (hl : W + (maxL + 11) + rm.locals ≤ R.locals) (hEL : EW Z a0 EL) (H : CHv Z EL b.vm h) (hs : ∀ x ∈ ws, x < h.size ∧ Safe Z EL b.vm h x) :
    BackS l R p e below b args y len W (OwnPre R as' h rm.cells rm.slots) (OwnPostW Z EL b.vm h Q rm.cells rm.slots) := by
  refine BackS.of_freeW (bytes := bytes) (maxL := maxL) (ret := ret) (E := fun _ first o t L k n => (∃ v, o = .returned v ∧ Q v t.heap L) ∧ CHr Z EL first.vm first.heap t.vm t.heap ∧ k = rm.cells ∧ n = rm.slots) hM hf hl ?_ ?_ (fun _ _ _ _ _ _ _ _ _ => trivial) ?_ ?_
  · intro m meth c A a Y hp
    have hU : Z.Warmed39 A.U.vm := wtrans (s := b) hZ Y.warmed
    refine ⟨?_, mv hU wc, mv hU wz, hp.2.2.1, hp.2.2.2⟩
    show (Jvm.Cond.and _ .tt).before a A.U = true
    rw [Cond.before_and, mv hU wc]; rfl
  · intro m meth c A a g mk Y hp
    have q := own_at Y hZ hEL H
    exact ⟨hp.1, wtrans (s := b) hZ Y.warmed, hp.2.1, q.1, fun x hx => q.safe (hs x hx).1 (hs x hx).2⟩
  · rintro _ _ _ _ ⟨v, L, h1, h2, h3, h4⟩
    exact ⟨L, _, _, h4, ⟨v, h1, h2⟩, h3, rfl, rfl⟩
  · rintro m meth c A a g mk v t L k n Y hp - - ⟨⟨v', e3, e4⟩, e5, rfl, rfl⟩
    cases e3
    refine ⟨L, e4, rfl, rfl, rfl, (own_at Y hZ hEL H).trans ?_⟩
    have e6 : CHr Z EL A.U.vm A.U.heap t.vm t.heap := e5
    rw [hp.2.1] at e6; exact e6
theorem own_callSW (X : Stand p l e R b m args below meth c T locs cells slots) (hexec : p.tables.exec = Jvm.exec) {own : String} {index : Nat} {y : MethodName} {bytes : ByteArray} {maxL : Nat} {ret : Option FieldType}
    (hown : b.vm.findClass own = some m.cls) (hlink : (Jvm.Cond.methodLink own index y).before args b = true) (hstat : (Jvm.Cond.static y).before args b = true) (hinit : (Jvm.Cond.initialized y.cls).before args b = true)
    (hcode : (Jvm.Cond.code y bytes maxL ret).before args b = true) (hy : y.cls ≠ "java/lang/invoke/MethodHandle" ∧ y.cls ≠ "java/lang/invoke/VarHandle") (hZ : Z.Warmed39 b.vm) (B : OwnB s b h)
    {W : Nat} {as' : Array Value} {Q : Option Value → Heap → List Loc → Prop} {rc rs : Nat} (hK : BackS l R p e below b args y 3 W (OwnPre R as' h rc rs) (OwnPostW Z EL b.vm h Q rc rs))
    {g : JFrame} (hg : g.method = m) (hsize : g.locals.size = c.maxLocals) {argsL rest : List Value} (hlen : ∀ sig, parseMethodDescriptor y.desc = some sig → argsL.length = sig.parameters.length)
    (hstack : g.stack = argsL.reverse ++ rest) (hW : 2 * g.monitorRoom + (rest.map fun v => v.category).sum ≤ W) (hdg : decode c.code g.pc = .ok (.invokestatic index, 3))
    (ha : argsL.toArray = as') (eT : T.heap = h) (hc : cells + rc ≤ R.cells) (hs : slots + rs ≤ R.slots) :
    ∃ (b' T' : State) (L : List Loc) (v : Option Value), Stand p l e R b' m args below meth c T' (locs ++ L) (cells + rc) (slots + rs) ∧ Q v T'.heap L ∧ OwnB s b' T'.heap ∧ Z.Warmed39 b'.vm ∧ b'.vm.findClass own = some m.cls ∧ CHr Z EL b.vm h b'.vm T'.heap ∧
      ∀ target, Steps p.tables e below (T'.setTop { g with pc := g.pc + 3, stack := v.toList ++ rest }) target → Steps p.tables e below (T.setTop g) target := by
  obtain ⟨v, _, ⟨T1, L1, k1, n1⟩, -, X1, S1, g1, ⟨Lc, hQ, l1, y1, z1, C1⟩, st⟩ := callSS X hexec hown hlink hstat hinit hcode hy hK hg hsize hlen hstack hW hdg (fun _ _ => ⟨ha, eT, hc, hs⟩)
  dsimp only [Pt.U, Pt.locs, Pt.cells, Pt.slots] at X1 l1 y1 z1 st hQ C1 S1 g1
  subst l1 y1 z1
  obtain ⟨vm0, k0, rfl, hS, hk⟩ := B
  exact ⟨(s.setVm vm0).setVm T1.vm, T1, Lc, v, X1, hQ, ⟨T1.vm, T1.heap.size, rfl, hS.trans S1 (Nat.le_trans hk (eT ▸ g1)), Nat.le_refl _⟩, State.Warmed39.trans (t := s.setVm vm0) hZ S1.1, by show T1.vm.findClass own = _; rw [S1.1.alike.findClass]; exact hown, C1, fun t k => st.trans k⟩
theorem own_callIW (X : Stand p l e R b m args below meth c T locs cells slots) (hexec : p.tables.exec = Jvm.exec) {own : String} {index : Nat} {y : MethodName} (hy1 : y.name = "<init>")
    (hown : b.vm.findClass own = some m.cls) (hlink : (Jvm.Cond.methodLink own index y).before args b = true) (hinst : (Jvm.Cond.instanceMethod y).before args b = true)
    {bytes : ByteArray} {maxL : Nat} (hcode : (Jvm.Cond.code y bytes maxL none).before args b = true) (hy : y.cls ≠ "java/lang/invoke/MethodHandle" ∧ y.cls ≠ "java/lang/invoke/VarHandle") (hZ : Z.Warmed39 b.vm) (B : OwnB s b h)
    {W : Nat} {as' : Array Value} {Q : Option Value → Heap → List Loc → Prop} {rc rs : Nat} (hK : BackS l R p e below b args y 3 W (OwnPre R as' h rc rs) (OwnPostW Z EL b.vm h Q rc rs))
    {g : JFrame} (hg : g.method = m) (hsize : g.locals.size = c.maxLocals) {a : Addr} {argsL rest : List Value}
    (hlen : ∀ sig, parseMethodDescriptor y.desc = some sig → argsL.length = sig.parameters.length) (hstack : g.stack = argsL.reverse ++ .ref a :: rest) (hW : 2 * g.monitorRoom + (rest.map fun v => v.category).sum ≤ W)
    (hdg : decode c.code g.pc = .ok (.invokespecial index, 3)) (ha : (Value.ref a :: argsL).toArray = as') (eT : T.heap = h) (hc : cells + rc ≤ R.cells) (hs : slots + rs ≤ R.slots) :
    ∃ (b' T' : State) (L : List Loc) (v : Option Value), Stand p l e R b' m args below meth c T' (locs ++ L) (cells + rc) (slots + rs) ∧ Q v T'.heap L ∧ OwnB s b' T'.heap ∧ Z.Warmed39 b'.vm ∧ b'.vm.findClass own = some m.cls ∧ CHr Z EL b.vm h b'.vm T'.heap ∧
      ∀ target, Steps p.tables e below (T'.setTop { g with pc := g.pc + 3, stack := v.toList ++ rest }) target → Steps p.tables e below (T.setTop g) target := by
  obtain ⟨v, _, ⟨T1, L1, k1, n1⟩, -, X1, S1, g1, ⟨Lc, hQ, l1, y1, z1, C1⟩, st⟩ := X.specialBackS hexec hy1 hown hlink hinst hcode hy hK hg hsize (Steps.refl _) hlen hstack hW hdg (fun _ _ => ⟨ha, eT, hc, hs⟩)
  dsimp only [Pt.U, Pt.locs, Pt.cells, Pt.slots] at X1 l1 y1 z1 st hQ C1 S1 g1
  subst l1 y1 z1
  obtain ⟨vm0, k0, rfl, hS, hk⟩ := B
  exact ⟨(s.setVm vm0).setVm T1.vm, T1, Lc, v, X1, hQ, ⟨T1.vm, T1.heap.size, rfl, hS.trans S1 (Nat.le_trans hk (eT ▸ g1)), Nat.le_refl _⟩, State.Warmed39.trans (t := s.setVm vm0) hZ S1.1, by show T1.vm.findClass own = _; rw [S1.1.alike.findClass]; exact hown, C1, fun t k => st.trans k⟩
theorem own_callVW (X : Stand p l e R b m args below meth c T locs cells slots) (hexec : p.tables.exec = Jvm.exec) {own C : String} {index : Nat} {y z : MethodName}
    (hown : b.vm.findClass own = some m.cls) (hlink : (Jvm.Cond.methodLink own index y).before args b = true) (hdecl : (Jvm.Cond.declares y).before args b = true) (hnf : NotFace b y)
    (hsel : (Jvm.Cond.selects C y z).before args b = true) (hinst : (Jvm.Cond.instanceMethod z).before args b = true) (hy : y.cls ≠ "java/lang/invoke/MethodHandle" ∧ y.cls ≠ "java/lang/invoke/VarHandle") (hZ : Z.Warmed39 b.vm) (B : OwnB s b h)
    {W : Nat} {as' : Array Value} {Q : Option Value → Heap → List Loc → Prop} {rc rs : Nat} (hK : BackS l R p e below b args z 3 W (OwnPre R as' h rc rs) (OwnPostW Z EL b.vm h Q rc rs))
    {x : Addr} {cB : ClassId} (hcB : b.vm.findClass C = some cB) (hrecv : IsOf cB T x)
    {g : JFrame} (hg : g.method = m) (hsize : g.locals.size = c.maxLocals) {argsL rest : List Value}
    (hlen : ∀ sig, parseMethodDescriptor y.desc = some sig → argsL.length = sig.parameters.length) (hstack : g.stack = argsL.reverse ++ .ref x :: rest) (hW : 2 * g.monitorRoom + (rest.map fun v => v.category).sum ≤ W)
    (hdg : decode c.code g.pc = .ok (.invokevirtual index, 3)) (ha : (Value.ref x :: argsL).toArray = as') (eT : T.heap = h) (hc : cells + rc ≤ R.cells) (hs : slots + rs ≤ R.slots) :
    ∃ (b' T' : State) (L : List Loc) (v : Option Value), Stand p l e R b' m args below meth c T' (locs ++ L) (cells + rc) (slots + rs) ∧ Q v T'.heap L ∧ OwnB s b' T'.heap ∧ Z.Warmed39 b'.vm ∧ b'.vm.findClass own = some m.cls ∧ CHr Z EL b.vm h b'.vm T'.heap ∧
      ∀ target, Steps p.tables e below (T'.setTop { g with pc := g.pc + 3, stack := v.toList ++ rest }) target → Steps p.tables e below (T.setTop g) target := by
  obtain ⟨v, _, ⟨T1, L1, k1, n1⟩, -, X1, S1, g1, ⟨Lc, hQ, l1, y1, z1, C1⟩, st⟩ := X.virtualBackS hexec hown hlink hdecl hnf hsel hinst hy hK hcB hrecv hg hsize (Steps.refl _) hlen hstack hW hdg (fun _ _ => ⟨ha, eT, hc, hs⟩)
  dsimp only [Pt.U, Pt.locs, Pt.cells, Pt.slots] at X1 l1 y1 z1 st hQ C1 S1 g1
  subst l1 y1 z1
  obtain ⟨vm0, k0, rfl, hS, hk⟩ := B
  exact ⟨(s.setVm vm0).setVm T1.vm, T1, Lc, v, X1, hQ, ⟨T1.vm, T1.heap.size, rfl, hS.trans S1 (Nat.le_trans hk (eT ▸ g1)), Nat.le_refl _⟩, State.Warmed39.trans (t := s.setVm vm0) hZ S1.1, by show T1.vm.findClass own = _; rw [S1.1.alike.findClass]; exact hown, C1, fun t k => st.trans k⟩
theorem own_leaveW (X : Stand p l e R b m args below meth c T locs cells slots) (B : OwnB s b h) (eT : T.heap = h) {v : Option Value} (hv : meth.sig.returnType = none → v = none) (hlk : meth.locks = false) :
    ∃ fs, (∀ (f : JFrame) (acts : List Action), f.method = m → f.locked = none → f.entered = [] → (doReturn e (T.setTop f) acts v).1 = T.setFrames fs) ∧
      (T.setFrames fs).status = .running ∧ Ended (T.setFrames fs) below (.returned v) ∧ ReturnedEndW s (.returned v) (T.setFrames fs) locs cells slots := by
  obtain ⟨vm0, k0, rfl, hS, hk⟩ := B
  exact X.leaveW hS (by rw [eT]; exact hk) hv hlk
theorem own_endW (X : Stand p l e R b m args below meth c T locs cells slots) (hZ : Z.Warmed39 b.vm) (w : EW Z a0 EL) (eT : T.heap = h) {h0 : Heap} (e0 : s.heap = h0) (C : CHr Z EL s.vm h0 b.vm h) (fs : List Frame) : CHr Z EL s.vm s.heap (T.setFrames fs).vm (T.setFrames fs).heap := by
  show CHr Z EL s.vm s.heap T.vm T.heap
  rw [e0, eT]; exact C.trans (own_at X hZ w C.1)
theorem own_monoW {o : Outcome} {t : State} {L : List Loc} {k n k' n' : Nat} (h : ReturnedEndW s o t L k n) (hk : k ≤ k') (hn : n ≤ n') : ReturnedEndW s o t L k' n' := ⟨h.1, h.2.1, h.2.2.1, h.2.2.2.mono hk hn⟩
end OwnWide

theorem own_EW {Z : State} {aw : Array Value} (hw : ∀ d ∈ tables_1, d.before aw Z = true) : EW Z aw consts_1 := (EW.cons (own := "dev/boundaryline/model/HeaderValue") (index := 117) (w85 hw) (by decide +kernel) (EW.cons (own := "java/lang/String") (index := 7) (w19 hw) (by decide +kernel) EW.nil))
theorem own_wS {Z : State} {aw : Array Value} (hw : ∀ d ∈ tables_1, d.before aw Z = true) : ∀ a ∈ Bundle.stringAtoms, a.before aw Z = true := fun a ha => hw a ((by decide +kernel : ∀ a ∈ Bundle.stringAtoms, a ∈ tables_1) a ha)
theorem own_wL {Z : State} {aw : Array Value} (hw : ∀ d ∈ tables_1, d.before aw Z = true) : ∀ a ∈ StrChars.Road.wordsLen, a.before aw Z = true := fun a ha => hw a ((by decide +kernel : ∀ a ∈ StrChars.Road.wordsLen, a ∈ tables_1) a ha)
theorem own_wE {Z : State} {aw : Array Value} (hw : ∀ d ∈ tables_1, d.before aw Z = true) : ∀ a ∈ StrChars.Road.wordsEmp, a.before aw Z = true := fun a ha => hw a ((by decide +kernel : ∀ a ∈ StrChars.Road.wordsEmp, a ∈ tables_1) a ha)

def OwnC16 (x : Int32) : Prop := ¬ x < 0 ∧ ¬ (65535 : Int32) < x
theorem own_c16I (x : Int32) : OwnC16 x ↔ 0 ≤ x.toInt ∧ x.toInt ≤ 65535 := by
  rw [OwnC16, Int32.lt_iff_toInt_lt, Int32.lt_iff_toInt_lt, show (0 : Int32).toInt = 0 from by decide, show (65535 : Int32).toInt = 65535 from by decide]; omega
theorem own_c16 (x : Int32) : OwnC16 (x.toUInt32.toUInt16.toUInt32.toInt32) := by
  rw [own_c16I]; have := c_i2c x; omega
theorem own_c16E {x : Int32} (h : OwnC16 x) : x.toUInt32.toUInt16.toUInt32.toInt32 = x := by
  rw [own_c16I] at h; have := c_i2c x; exact Int32.toInt_inj.mp (by omega)
theorem own_ll (x : Int32) : (x.toInt8.toInt32).toInt8.toInt32 = x.toInt8.toInt32 := by rw [Int8.toInt8_toInt32]
theorem own_h0 {P : Int32 → Prop} : ∀ x ∈ ([] : List Int32), P x := fun _ q => nomatch q
theorem own_hS {P : Int32 → Prop} {y : Int32} {L : List Int32} (q : P y) (r : ∀ x ∈ L, P x) : ∀ x ∈ y :: L, P x := fun x z => (List.mem_cons.mp z).elim (fun u => u ▸ q) (r x)
/-- x is a String of the chars cs -/
def OwnStr (Z : State) (h : Heap) (x : Addr) (cs : List Int32) : Prop := ∃ (t : Addr) (kb : ClassId) (cd N : Int32) (vs : List Value), Exa Z h x "java/lang/String" ∧ Fld Z h x "java/lang/String" "value" "[B" (.ref t) ∧ Fld Z h x "java/lang/String" "coder" "B" (.int cd) ∧ Arv Z h t kb .byte N vs (.int 0) ∧ StrChars.Road.CodA cs cd N vs ∧ (∀ c ∈ cs, OwnC16 c) ∧ cs.length ≤ 4000
theorem own_suc (i : Nat) : Int32.ofNat i + (1 : Int32) = Int32.ofNat (i + 1) := by rw [Int32.ofNat_add]; rfl
theorem own_ofltN {i n : Nat} (h : i < n) (hn : n ≤ 4000) : Int32.ofNat i < Int32.ofNat n := by
  rw [Int32.lt_iff_toInt_lt, Int32.toInt_ofNat_of_lt (by omega), Int32.toInt_ofNat_of_lt (by omega)]; omega
theorem own_ofge0 {i : Nat} (hn : i ≤ 8000) : ¬ Int32.ofNat i < 0 := by
  rw [Int32.lt_iff_toInt_lt, Int32.toInt_ofNat_of_lt (by omega)]; show ¬ ((i : Int) < 0); omega
theorem own_irr {i n : Nat} (h : i + 0 = n) : ¬ Int32.ofNat i < Int32.ofNat n := by
  rw [show i = n from h, Int32.lt_iff_toInt_lt]; omega

theorem w7 {Z aw} (hw : OwnHW aw Z) : Cond.before (Jvm.Cond.instantiable "java/lang/String" (4 : Nat)) aw Z = true := hw _ (List.mem_of_getElem? (i := 7) rfl)
def own_draw (p0 : Int32) : Int32 := (if (p0 &&& (128 : Int32)) = (0 : Int32) then (nar .char ((p0 &&& (127 : Int32)).toUInt32.toUInt16.toUInt32.toInt32)) else (nar .char (((p0.toUInt32 >>> ((16 : Int32) &&& 31).toUInt32).toInt32).toUInt32.toUInt16.toUInt32.toInt32)))
theorem pn_4 : plainName "dev/boundaryline/model/HeaderValueIsTokenPinLaw" = true := by first | (simp [plainName, overriddenIn]; done) | decide +kernel
theorem d1_0 : decode method_3_code 0 = .ok (.iload_n 0, 1) := by decide +kernel
theorem d1_1 : decode method_3_code 1 = .ok (.sipush 128, 3) := by decide +kernel
theorem d1_4 : decode method_3_code 4 = .ok (.iand, 1) := by decide +kernel
theorem d1_5 : decode method_3_code 5 = .ok (.ifCond .eq 9, 3) := by decide +kernel
theorem d1_8 : decode method_3_code 8 = .ok (.iload_n 0, 1) := by decide +kernel
theorem d1_9 : decode method_3_code 9 = .ok (.bipush 16, 2) := by decide +kernel
theorem d1_11 : decode method_3_code 11 = .ok (.iushr, 1) := by decide +kernel
theorem d1_12 : decode method_3_code 12 = .ok (.i2c, 1) := by decide +kernel
theorem d1_13 : decode method_3_code 13 = .ok (.ireturn, 1) := by decide +kernel
theorem d1_14 : decode method_3_code 14 = .ok (.iload_n 0, 1) := by decide +kernel
theorem d1_15 : decode method_3_code 15 = .ok (.bipush 127, 2) := by decide +kernel
theorem d1_17 : decode method_3_code 17 = .ok (.iand, 1) := by decide +kernel
theorem d1_18 : decode method_3_code 18 = .ok (.i2c, 1) := by decide +kernel
theorem d1_19 : decode method_3_code 19 = .ok (.ireturn, 1) := by decide +kernel
theorem ef_rm1 (m : MethodId) (p0 : Int32) : entryFrame m #[(.int p0)] 1 = mkF m 0 #[.val (.int p0)] [] := by first | (simp [entryFrame, mkF, argsToLocals, Value.category]; done) | rfl
def Qrm1 (Z : State) (p0 : Int32) (h0 : Heap) (n0 : Nat) (v : Option Value) (h : Heap) (L : List Loc) : Prop := v = some (.int (own_draw p0)) ∧ Fr n0 L ∧ h = h0
set_option maxRecDepth 65536 in
set_option maxHeartbeats 40000000 in
theorem rm1 (l : Launch) (Z : State) (aw : Array Value) (hw : ∀ d ∈ tables_1, d.before aw Z = true) (ws : List Jvm.Cond) (p0 : Int32) (h0 : Heap) (n0 : Nat) (Z0 : n0 ≤ h0.size) :
    MetFree l (⟨"dev/boundaryline/model/HeaderValueIsTokenPinLaw", "draw", "(I)C"⟩ : MethodName) (head1 (Jvm.Cond.code (⟨"dev/boundaryline/model/HeaderValueIsTokenPinLaw", "draw", "(I)C"⟩ : MethodName) method_3_code 1 (some .char) :: ws) ({ frames := 0, cells := 0, slots := 0, locals := 0 } : Room)) (fun a U => a = #[(.int p0)] ∧ Z.Warmed39 U.vm ∧ U.heap = h0) (fun _ _ _ _ _ => True) (fun _ U o U' => ∃ v L, o = .returned v ∧ Qrm1 Z p0 h0 n0 v U'.heap L ∧ FrameEnd U o U' L ({ frames := 0, cells := 0, slots := 0, locals := 0 } : Room).cells ({ frames := 0, cells := 0, slots := 0, locals := 0 } : Room).slots) := by
  refine MetFree.of_bodySF (plainFor_of_name pn_4) hisR ?_
  intro p e s m args below meth c s₁ Bd hml0 hP hK
  obtain ⟨rfl, hZ, hh⟩ := hP
  have hx := Bd.exec
  have hby := Bd.bytes
  have hml : c.maxLocals = 1 := hml0
  have hown : s.vm.findClass "dev/boundaryline/model/HeaderValueIsTokenPinLaw" = some m.cls := findClass_of_methodNamed Bd.named
  have hnm := (name_of_methodNamed Bd.named Bd.method).1
  have X0 : Stand p l e ({ frames := 0, cells := 0, slots := 0, locals := 0 } : Room) s m #[(.int p0)] below meth c s₁ [] 0 0 := Stand.of_body Bd
  have e0 : s₁.heap = h0 := by rw [← hh, Bd.state]; rfl
  have N0 := Fr.nil n0
  have hlk := Bd.notSynchronized
  show OwnGo p.tables e below _ (s₁.setTop (entryFrame m #[(.int p0)] 1))
  rw [ef_rm1 m p0]
  show OwnGo p.tables e below _ (s₁.setTop (mkF m 0 #[.val (.int p0)] []))
  refine OwnGo.of (B := s₁.setTop (mkF m 5 #[.val (.int p0)] [(.int (p0 &&& (128 : Int32)))])) (fun t k => ?_) ?_
  · show Steps p.tables e below (s₁.setTop (mkF m 0 #[.val (.int p0)] [])) t
    refine XS.iloadN X0.here hx rfl (hb hby d1_0) rfl ?_
    refine XS.sipush X0.here hx rfl (hb hby d1_1) ?_
    refine XS.iand X0.here hx rfl (hb hby d1_4) rfl ?_
    exact k
  by_cases hc1 : (p0 &&& (128 : Int32)) = (0 : Int32)
  · refine OwnGo.of (B := s₁.setTop (mkF m 19 #[.val (.int p0)] [(.int ((p0 &&& (127 : Int32)).toUInt32.toUInt16.toUInt32.toInt32))])) (fun t k => ?_) ?_
    · show Steps p.tables e below (s₁.setTop (mkF m 5 #[.val (.int p0)] [(.int (p0 &&& (128 : Int32)))])) t
      refine XS.ifYes X0.here hx rfl (pc0 := 5) (pc' := 14) rfl (hb hby d1_5) rfl ((if0 _ _).trans (teq hc1).1) (by decide) (by decide) ?_
      refine XS.iloadN X0.here hx rfl (hb hby d1_14) rfl ?_
      refine XS.bipush X0.here hx rfl (hb hby d1_15) ?_
      refine XS.iand X0.here hx rfl (hb hby d1_17) rfl ?_
      refine XS.i2c X0.here hx rfl (hb hby d1_18) rfl ?_
      exact k
    obtain ⟨fs, hr, hrun, hended, hW, hsame⟩ := X0.leave (v := some (.int (nar .char ((p0 &&& (127 : Int32)).toUInt32.toUInt16.toUInt32.toInt32)))) (fun h => by rw [Bd.returns] at h; cases h) hlk
    refine ⟨_, _, ?_, hrun, hended, _, _, rfl, ?_, ⟨_, rfl⟩, hW, hsame.mono (by decide) (by decide)⟩
    · show Steps p.tables e below (s₁.setTop (mkF m 19 #[.val (.int p0)] [(.int ((p0 &&& (127 : Int32)).toUInt32.toUInt16.toUInt32.toInt32))])) _
      exact retN X0 hx (t := .char) Bd.returns (by simp) (hb hby d1_19) hr
    · show Qrm1 Z p0 h0 n0 _ (s₁.setFrames fs).heap _
      rw [show (s₁.setFrames fs).heap = h0 from e0]
      exact ⟨congrArg (fun z => some (Value.int z)) (by rw [own_draw, if_pos hc1]; try rfl), N0, rfl⟩
  · refine OwnGo.of (B := s₁.setTop (mkF m 13 #[.val (.int p0)] [(.int (((p0.toUInt32 >>> ((16 : Int32) &&& 31).toUInt32).toInt32).toUInt32.toUInt16.toUInt32.toInt32))])) (fun t k => ?_) ?_
    · show Steps p.tables e below (s₁.setTop (mkF m 5 #[.val (.int p0)] [(.int (p0 &&& (128 : Int32)))])) t
      refine XS.ifNo X0.here hx rfl (hb hby d1_5) rfl ((if0 _ _).trans (feq hc1).1) ?_
      refine XS.iloadN X0.here hx rfl (hb hby d1_8) rfl ?_
      refine XS.bipush X0.here hx rfl (hb hby d1_9) ?_
      refine XS.iushr X0.here hx rfl (hb hby d1_11) rfl ?_
      refine XS.i2c X0.here hx rfl (hb hby d1_12) rfl ?_
      exact k
    obtain ⟨fs, hr, hrun, hended, hW, hsame⟩ := X0.leave (v := some (.int (nar .char (((p0.toUInt32 >>> ((16 : Int32) &&& 31).toUInt32).toInt32).toUInt32.toUInt16.toUInt32.toInt32)))) (fun h => by rw [Bd.returns] at h; cases h) hlk
    refine ⟨_, _, ?_, hrun, hended, _, _, rfl, ?_, ⟨_, rfl⟩, hW, hsame.mono (by decide) (by decide)⟩
    · show Steps p.tables e below (s₁.setTop (mkF m 13 #[.val (.int p0)] [(.int (((p0.toUInt32 >>> ((16 : Int32) &&& 31).toUInt32).toInt32).toUInt32.toUInt16.toUInt32.toInt32))])) _
      exact retN X0 hx (t := .char) Bd.returns (by simp) (hb hby d1_13) hr
    · show Qrm1 Z p0 h0 n0 _ (s₁.setFrames fs).heap _
      rw [show (s₁.setFrames fs).heap = h0 from e0]
      exact ⟨congrArg (fun z => some (Value.int z)) (by rw [own_draw, if_neg hc1]; try rfl), N0, rfl⟩

def own_rg (c a b : Int32) : Prop := ¬ c < a ∧ ¬ b < c
instance (c a b : Int32) : Decidable (own_rg c a b) := inferInstanceAs (Decidable (_ ∧ _))
def own_al (c : Int32) : Prop := own_rg c 97 122 ∨ own_rg c 65 90 ∨ own_rg c 48 57
instance (c : Int32) : Decidable (own_al c) := inferInstanceAs (Decidable (_ ∨ _))
def own_sy (c : Int32) : Prop := c = 33 ∨ c = 35 ∨ c = 36 ∨ c = 37 ∨ c = 38 ∨ c = 39 ∨ c = 42 ∨ c = 43 ∨ c = 45 ∨ c = 46 ∨ c = 94 ∨ c = 95 ∨ c = 96 ∨ c = 124 ∨ c = 126
instance (c : Int32) : Decidable (own_sy c) := inferInstanceAs (Decidable (_ ∨ _))
def own_b (p : Prop) [Decidable p] : Int32 := if p then 1 else 0
theorem own_bT {p : Prop} [Decidable p] (h : p) : (some (Value.int (nar .boolean (1 : Int32)))) = some (.int (own_b p)) := by rw [own_b, if_pos h]; rfl
theorem own_bF {p : Prop} [Decidable p] (h : ¬ p) : (some (Value.int (nar .boolean (0 : Int32)))) = some (.int (own_b p)) := by rw [own_b, if_neg h]; rfl
theorem own_b0 {p : Prop} [Decidable p] (h : own_b p = (0 : Int32)) : ¬ p := fun q => by rw [own_b, if_pos q] at h; exact absurd h (by decide)
theorem own_b1 {p : Prop} [Decidable p] (h : ¬ own_b p = (0 : Int32)) : p := by
  by_cases q : p
  · exact q
  · rw [own_b, if_neg q] at h; exact absurd rfl h
def own_tok (c : Int32) : Prop := own_al c ∨ own_sy c
instance (c : Int32) : Decidable (own_tok c) := inferInstanceAs (Decidable (_ ∨ _))

theorem d7_0 : decode method_4_code 0 = .ok (.iload_n 0, 1) := by decide +kernel
theorem d7_1 : decode method_4_code 1 = .ok (.bipush 48, 2) := by decide +kernel
theorem d7_3 : decode method_4_code 3 = .ok (.if_icmp .lt 11, 3) := by decide +kernel
theorem d7_6 : decode method_4_code 6 = .ok (.iload_n 0, 1) := by decide +kernel
theorem d7_7 : decode method_4_code 7 = .ok (.bipush 57, 2) := by decide +kernel
theorem d7_9 : decode method_4_code 9 = .ok (.if_icmp .gt 5, 3) := by decide +kernel
theorem d7_12 : decode method_4_code 12 = .ok (.iconst 1, 1) := by decide +kernel
theorem d7_13 : decode method_4_code 13 = .ok (.ireturn, 1) := by decide +kernel
theorem d7_14 : decode method_4_code 14 = .ok (.iload_n 0, 1) := by decide +kernel
theorem d7_15 : decode method_4_code 15 = .ok (.bipush 97, 2) := by decide +kernel
theorem d7_17 : decode method_4_code 17 = .ok (.if_icmp .lt 11, 3) := by decide +kernel
theorem d7_20 : decode method_4_code 20 = .ok (.iload_n 0, 1) := by decide +kernel
theorem d7_21 : decode method_4_code 21 = .ok (.bipush 122, 2) := by decide +kernel
theorem d7_23 : decode method_4_code 23 = .ok (.if_icmp .gt 5, 3) := by decide +kernel
theorem d7_26 : decode method_4_code 26 = .ok (.iconst 1, 1) := by decide +kernel
theorem d7_27 : decode method_4_code 27 = .ok (.ireturn, 1) := by decide +kernel
theorem d7_28 : decode method_4_code 28 = .ok (.iload_n 0, 1) := by decide +kernel
theorem d7_29 : decode method_4_code 29 = .ok (.bipush 65, 2) := by decide +kernel
theorem d7_31 : decode method_4_code 31 = .ok (.if_icmp .lt 11, 3) := by decide +kernel
theorem d7_34 : decode method_4_code 34 = .ok (.iload_n 0, 1) := by decide +kernel
theorem d7_35 : decode method_4_code 35 = .ok (.bipush 90, 2) := by decide +kernel
theorem d7_37 : decode method_4_code 37 = .ok (.if_icmp .gt 5, 3) := by decide +kernel
theorem d7_40 : decode method_4_code 40 = .ok (.iconst 1, 1) := by decide +kernel
theorem d7_41 : decode method_4_code 41 = .ok (.ireturn, 1) := by decide +kernel
theorem d7_42 : decode method_4_code 42 = .ok (.iload_n 0, 1) := by decide +kernel
theorem d7_43 : decode method_4_code 43 = .ok (.bipush 33, 2) := by decide +kernel
theorem d7_45 : decode method_4_code 45 = .ok (.if_icmp .eq 87, 3) := by decide +kernel
theorem d7_48 : decode method_4_code 48 = .ok (.iload_n 0, 1) := by decide +kernel
theorem d7_49 : decode method_4_code 49 = .ok (.bipush 35, 2) := by decide +kernel
theorem d7_51 : decode method_4_code 51 = .ok (.if_icmp .eq 81, 3) := by decide +kernel
theorem d7_54 : decode method_4_code 54 = .ok (.iload_n 0, 1) := by decide +kernel
theorem d7_55 : decode method_4_code 55 = .ok (.bipush 36, 2) := by decide +kernel
theorem d7_57 : decode method_4_code 57 = .ok (.if_icmp .eq 75, 3) := by decide +kernel
theorem d7_60 : decode method_4_code 60 = .ok (.iload_n 0, 1) := by decide +kernel
theorem d7_61 : decode method_4_code 61 = .ok (.bipush 37, 2) := by decide +kernel
theorem d7_63 : decode method_4_code 63 = .ok (.if_icmp .eq 69, 3) := by decide +kernel
theorem d7_66 : decode method_4_code 66 = .ok (.iload_n 0, 1) := by decide +kernel
theorem d7_67 : decode method_4_code 67 = .ok (.bipush 38, 2) := by decide +kernel
theorem d7_69 : decode method_4_code 69 = .ok (.if_icmp .eq 63, 3) := by decide +kernel
theorem d7_72 : decode method_4_code 72 = .ok (.iload_n 0, 1) := by decide +kernel
theorem d7_73 : decode method_4_code 73 = .ok (.bipush 39, 2) := by decide +kernel
theorem d7_75 : decode method_4_code 75 = .ok (.if_icmp .eq 57, 3) := by decide +kernel
theorem d7_78 : decode method_4_code 78 = .ok (.iload_n 0, 1) := by decide +kernel
theorem d7_79 : decode method_4_code 79 = .ok (.bipush 42, 2) := by decide +kernel
theorem d7_81 : decode method_4_code 81 = .ok (.if_icmp .eq 51, 3) := by decide +kernel
theorem d7_84 : decode method_4_code 84 = .ok (.iload_n 0, 1) := by decide +kernel
theorem d7_85 : decode method_4_code 85 = .ok (.bipush 43, 2) := by decide +kernel
theorem d7_87 : decode method_4_code 87 = .ok (.if_icmp .eq 45, 3) := by decide +kernel
theorem d7_90 : decode method_4_code 90 = .ok (.iload_n 0, 1) := by decide +kernel
theorem d7_91 : decode method_4_code 91 = .ok (.bipush 45, 2) := by decide +kernel
theorem d7_93 : decode method_4_code 93 = .ok (.if_icmp .eq 39, 3) := by decide +kernel
theorem d7_96 : decode method_4_code 96 = .ok (.iload_n 0, 1) := by decide +kernel
theorem d7_97 : decode method_4_code 97 = .ok (.bipush 46, 2) := by decide +kernel
theorem d7_99 : decode method_4_code 99 = .ok (.if_icmp .eq 33, 3) := by decide +kernel
theorem d7_102 : decode method_4_code 102 = .ok (.iload_n 0, 1) := by decide +kernel
theorem d7_103 : decode method_4_code 103 = .ok (.bipush 94, 2) := by decide +kernel
theorem d7_105 : decode method_4_code 105 = .ok (.if_icmp .eq 27, 3) := by decide +kernel
theorem d7_108 : decode method_4_code 108 = .ok (.iload_n 0, 1) := by decide +kernel
theorem d7_109 : decode method_4_code 109 = .ok (.bipush 95, 2) := by decide +kernel
theorem d7_111 : decode method_4_code 111 = .ok (.if_icmp .eq 21, 3) := by decide +kernel
theorem d7_114 : decode method_4_code 114 = .ok (.iload_n 0, 1) := by decide +kernel
theorem d7_115 : decode method_4_code 115 = .ok (.bipush 96, 2) := by decide +kernel
theorem d7_117 : decode method_4_code 117 = .ok (.if_icmp .eq 15, 3) := by decide +kernel
theorem d7_120 : decode method_4_code 120 = .ok (.iload_n 0, 1) := by decide +kernel
theorem d7_121 : decode method_4_code 121 = .ok (.bipush 124, 2) := by decide +kernel
theorem d7_123 : decode method_4_code 123 = .ok (.if_icmp .eq 9, 3) := by decide +kernel
theorem d7_126 : decode method_4_code 126 = .ok (.iload_n 0, 1) := by decide +kernel
theorem d7_127 : decode method_4_code 127 = .ok (.bipush 126, 2) := by decide +kernel
theorem d7_129 : decode method_4_code 129 = .ok (.if_icmp .ne 7, 3) := by decide +kernel
theorem d7_132 : decode method_4_code 132 = .ok (.iconst 1, 1) := by decide +kernel
theorem d7_133 : decode method_4_code 133 = .ok (.goto 4, 3) := by decide +kernel
theorem d7_136 : decode method_4_code 136 = .ok (.iconst 0, 1) := by decide +kernel
theorem d7_137 : decode method_4_code 137 = .ok (.ireturn, 1) := by decide +kernel
theorem ef_rm7 (m : MethodId) (p0 : Int32) : entryFrame m #[(.int p0)] 1 = mkF m 0 #[.val (.int p0)] [] := by first | (simp [entryFrame, mkF, argsToLocals, Value.category]; done) | rfl
def Qrm7 (Z : State) (p0 : Int32) (h0 : Heap) (n0 : Nat) (v : Option Value) (h : Heap) (L : List Loc) : Prop := v = some (.int (own_b (own_tok p0))) ∧ Fr n0 L ∧ h = h0
set_option maxRecDepth 65536 in
set_option maxHeartbeats 40000000 in
theorem rm7 (l : Launch) (Z : State) (aw : Array Value) (hw : ∀ d ∈ tables_1, d.before aw Z = true) (ws : List Jvm.Cond) (p0 : Int32) (h0 : Heap) (n0 : Nat) (Z0 : n0 ≤ h0.size) :
    MetFree l (⟨"dev/boundaryline/model/HeaderValueIsTokenPinLaw", "tokenChar", "(C)Z"⟩ : MethodName) (head1 (Jvm.Cond.code (⟨"dev/boundaryline/model/HeaderValueIsTokenPinLaw", "tokenChar", "(C)Z"⟩ : MethodName) method_4_code 1 (some .boolean) :: ws) ({ frames := 0, cells := 0, slots := 0, locals := 0 } : Room)) (fun a U => a = #[(.int p0)] ∧ Z.Warmed39 U.vm ∧ U.heap = h0) (fun _ _ _ _ _ => True) (fun _ U o U' => ∃ v L, o = .returned v ∧ Qrm7 Z p0 h0 n0 v U'.heap L ∧ FrameEnd U o U' L ({ frames := 0, cells := 0, slots := 0, locals := 0 } : Room).cells ({ frames := 0, cells := 0, slots := 0, locals := 0 } : Room).slots) := by
  refine MetFree.of_bodySF (plainFor_of_name pn_4) hisR ?_
  intro p e s m args below meth c s₁ Bd hml0 hP hK
  obtain ⟨rfl, hZ, hh⟩ := hP
  have hx := Bd.exec
  have hby := Bd.bytes
  have hml : c.maxLocals = 1 := hml0
  have hown : s.vm.findClass "dev/boundaryline/model/HeaderValueIsTokenPinLaw" = some m.cls := findClass_of_methodNamed Bd.named
  have hnm := (name_of_methodNamed Bd.named Bd.method).1
  have X0 : Stand p l e ({ frames := 0, cells := 0, slots := 0, locals := 0 } : Room) s m #[(.int p0)] below meth c s₁ [] 0 0 := Stand.of_body Bd
  have e0 : s₁.heap = h0 := by rw [← hh, Bd.state]; rfl
  have N0 := Fr.nil n0
  have hlk := Bd.notSynchronized
  show OwnGo p.tables e below _ (s₁.setTop (entryFrame m #[(.int p0)] 1))
  rw [ef_rm7 m p0]
  have J42 : ∀ (ng0 : ¬ own_rg p0 48 57) (ng1 : ¬ own_rg p0 97 122) (ng2 : ¬ own_rg p0 65 90), OwnGo p.tables e below (fun o U' => ∃ v L, o = .returned v ∧ Qrm7 Z p0 h0 n0 v U'.heap L ∧ FrameEnd s o U' L ({ frames := 0, cells := 0, slots := 0, locals := 0 } : Room).cells ({ frames := 0, cells := 0, slots := 0, locals := 0 } : Room).slots) (s₁.setTop (mkF m 42 #[.val (.int p0)] [])) := by
    intro ng0 ng1 ng2
    show OwnGo p.tables e below _ (s₁.setTop (mkF m 42 #[.val (.int p0)] []))
    refine OwnGo.of (B := s₁.setTop (mkF m 45 #[.val (.int p0)] [(.int (33 : Int32)), (.int p0)])) (fun t k => ?_) ?_
    · show Steps p.tables e below (s₁.setTop (mkF m 42 #[.val (.int p0)] [])) t
      refine XS.iloadN X0.here hx rfl (hb hby d7_42) rfl ?_
      refine XS.bipush X0.here hx rfl (hb hby d7_43) ?_
      exact k
    by_cases hc1 : p0 = (33 : Int32)
    · refine OwnGo.of (B := s₁.setTop (mkF m 137 #[.val (.int p0)] [(.int (1 : Int32))])) (fun t k => ?_) ?_
      · show Steps p.tables e below (s₁.setTop (mkF m 45 #[.val (.int p0)] [(.int (33 : Int32)), (.int p0)])) t
        refine XS.icmpYes X0.here hx rfl (pc0 := 45) (pc' := 132) rfl (hb hby d7_45) rfl (teq hc1).1 (by decide) (by decide) ?_
        refine XS.iconst X0.here hx rfl (hb hby d7_132) ?_
        refine XS.goto X0.here hx rfl (pc0 := 133) (pc' := 137) rfl (hb hby d7_133) (by decide) (by decide) ?_
        exact k
      obtain ⟨fs, hr, hrun, hended, hW, hsame⟩ := X0.leave (v := some (.int (nar .boolean (1 : Int32)))) (fun h => by rw [Bd.returns] at h; cases h) hlk
      refine ⟨_, _, ?_, hrun, hended, _, _, rfl, ?_, ⟨_, rfl⟩, hW, hsame.mono (by decide) (by decide)⟩
      · show Steps p.tables e below (s₁.setTop (mkF m 137 #[.val (.int p0)] [(.int (1 : Int32))])) _
        exact retN X0 hx (t := .boolean) Bd.returns (by simp) (hb hby d7_137) hr
      · show Qrm7 Z p0 h0 n0 _ (s₁.setFrames fs).heap _
        rw [show (s₁.setFrames fs).heap = h0 from e0]
        exact ⟨own_bT (Or.inr (Or.inl hc1)), N0, rfl⟩
    · refine OwnGo.of (B := s₁.setTop (mkF m 51 #[.val (.int p0)] [(.int (35 : Int32)), (.int p0)])) (fun t k => ?_) ?_
      · show Steps p.tables e below (s₁.setTop (mkF m 45 #[.val (.int p0)] [(.int (33 : Int32)), (.int p0)])) t
        refine XS.icmpNo X0.here hx rfl (hb hby d7_45) rfl (feq hc1).1 ?_
        refine XS.iloadN X0.here hx rfl (hb hby d7_48) rfl ?_
        refine XS.bipush X0.here hx rfl (hb hby d7_49) ?_
        exact k
      by_cases hc2 : p0 = (35 : Int32)
      · refine OwnGo.of (B := s₁.setTop (mkF m 137 #[.val (.int p0)] [(.int (1 : Int32))])) (fun t k => ?_) ?_
        · show Steps p.tables e below (s₁.setTop (mkF m 51 #[.val (.int p0)] [(.int (35 : Int32)), (.int p0)])) t
          refine XS.icmpYes X0.here hx rfl (pc0 := 51) (pc' := 132) rfl (hb hby d7_51) rfl (teq hc2).1 (by decide) (by decide) ?_
          refine XS.iconst X0.here hx rfl (hb hby d7_132) ?_
          refine XS.goto X0.here hx rfl (pc0 := 133) (pc' := 137) rfl (hb hby d7_133) (by decide) (by decide) ?_
          exact k
        obtain ⟨fs, hr, hrun, hended, hW, hsame⟩ := X0.leave (v := some (.int (nar .boolean (1 : Int32)))) (fun h => by rw [Bd.returns] at h; cases h) hlk
        refine ⟨_, _, ?_, hrun, hended, _, _, rfl, ?_, ⟨_, rfl⟩, hW, hsame.mono (by decide) (by decide)⟩
        · show Steps p.tables e below (s₁.setTop (mkF m 137 #[.val (.int p0)] [(.int (1 : Int32))])) _
          exact retN X0 hx (t := .boolean) Bd.returns (by simp) (hb hby d7_137) hr
        · show Qrm7 Z p0 h0 n0 _ (s₁.setFrames fs).heap _
          rw [show (s₁.setFrames fs).heap = h0 from e0]
          exact ⟨own_bT (Or.inr (Or.inr (Or.inl hc2))), N0, rfl⟩
      · refine OwnGo.of (B := s₁.setTop (mkF m 57 #[.val (.int p0)] [(.int (36 : Int32)), (.int p0)])) (fun t k => ?_) ?_
        · show Steps p.tables e below (s₁.setTop (mkF m 51 #[.val (.int p0)] [(.int (35 : Int32)), (.int p0)])) t
          refine XS.icmpNo X0.here hx rfl (hb hby d7_51) rfl (feq hc2).1 ?_
          refine XS.iloadN X0.here hx rfl (hb hby d7_54) rfl ?_
          refine XS.bipush X0.here hx rfl (hb hby d7_55) ?_
          exact k
        by_cases hc3 : p0 = (36 : Int32)
        · refine OwnGo.of (B := s₁.setTop (mkF m 137 #[.val (.int p0)] [(.int (1 : Int32))])) (fun t k => ?_) ?_
          · show Steps p.tables e below (s₁.setTop (mkF m 57 #[.val (.int p0)] [(.int (36 : Int32)), (.int p0)])) t
            refine XS.icmpYes X0.here hx rfl (pc0 := 57) (pc' := 132) rfl (hb hby d7_57) rfl (teq hc3).1 (by decide) (by decide) ?_
            refine XS.iconst X0.here hx rfl (hb hby d7_132) ?_
            refine XS.goto X0.here hx rfl (pc0 := 133) (pc' := 137) rfl (hb hby d7_133) (by decide) (by decide) ?_
            exact k
          obtain ⟨fs, hr, hrun, hended, hW, hsame⟩ := X0.leave (v := some (.int (nar .boolean (1 : Int32)))) (fun h => by rw [Bd.returns] at h; cases h) hlk
          refine ⟨_, _, ?_, hrun, hended, _, _, rfl, ?_, ⟨_, rfl⟩, hW, hsame.mono (by decide) (by decide)⟩
          · show Steps p.tables e below (s₁.setTop (mkF m 137 #[.val (.int p0)] [(.int (1 : Int32))])) _
            exact retN X0 hx (t := .boolean) Bd.returns (by simp) (hb hby d7_137) hr
          · show Qrm7 Z p0 h0 n0 _ (s₁.setFrames fs).heap _
            rw [show (s₁.setFrames fs).heap = h0 from e0]
            exact ⟨own_bT (Or.inr (Or.inr (Or.inr (Or.inl hc3)))), N0, rfl⟩
        · refine OwnGo.of (B := s₁.setTop (mkF m 63 #[.val (.int p0)] [(.int (37 : Int32)), (.int p0)])) (fun t k => ?_) ?_
          · show Steps p.tables e below (s₁.setTop (mkF m 57 #[.val (.int p0)] [(.int (36 : Int32)), (.int p0)])) t
            refine XS.icmpNo X0.here hx rfl (hb hby d7_57) rfl (feq hc3).1 ?_
            refine XS.iloadN X0.here hx rfl (hb hby d7_60) rfl ?_
            refine XS.bipush X0.here hx rfl (hb hby d7_61) ?_
            exact k
          by_cases hc4 : p0 = (37 : Int32)
          · refine OwnGo.of (B := s₁.setTop (mkF m 137 #[.val (.int p0)] [(.int (1 : Int32))])) (fun t k => ?_) ?_
            · show Steps p.tables e below (s₁.setTop (mkF m 63 #[.val (.int p0)] [(.int (37 : Int32)), (.int p0)])) t
              refine XS.icmpYes X0.here hx rfl (pc0 := 63) (pc' := 132) rfl (hb hby d7_63) rfl (teq hc4).1 (by decide) (by decide) ?_
              refine XS.iconst X0.here hx rfl (hb hby d7_132) ?_
              refine XS.goto X0.here hx rfl (pc0 := 133) (pc' := 137) rfl (hb hby d7_133) (by decide) (by decide) ?_
              exact k
            obtain ⟨fs, hr, hrun, hended, hW, hsame⟩ := X0.leave (v := some (.int (nar .boolean (1 : Int32)))) (fun h => by rw [Bd.returns] at h; cases h) hlk
            refine ⟨_, _, ?_, hrun, hended, _, _, rfl, ?_, ⟨_, rfl⟩, hW, hsame.mono (by decide) (by decide)⟩
            · show Steps p.tables e below (s₁.setTop (mkF m 137 #[.val (.int p0)] [(.int (1 : Int32))])) _
              exact retN X0 hx (t := .boolean) Bd.returns (by simp) (hb hby d7_137) hr
            · show Qrm7 Z p0 h0 n0 _ (s₁.setFrames fs).heap _
              rw [show (s₁.setFrames fs).heap = h0 from e0]
              exact ⟨own_bT (Or.inr (Or.inr (Or.inr (Or.inr (Or.inl hc4))))), N0, rfl⟩
          · refine OwnGo.of (B := s₁.setTop (mkF m 69 #[.val (.int p0)] [(.int (38 : Int32)), (.int p0)])) (fun t k => ?_) ?_
            · show Steps p.tables e below (s₁.setTop (mkF m 63 #[.val (.int p0)] [(.int (37 : Int32)), (.int p0)])) t
              refine XS.icmpNo X0.here hx rfl (hb hby d7_63) rfl (feq hc4).1 ?_
              refine XS.iloadN X0.here hx rfl (hb hby d7_66) rfl ?_
              refine XS.bipush X0.here hx rfl (hb hby d7_67) ?_
              exact k
            by_cases hc5 : p0 = (38 : Int32)
            · refine OwnGo.of (B := s₁.setTop (mkF m 137 #[.val (.int p0)] [(.int (1 : Int32))])) (fun t k => ?_) ?_
              · show Steps p.tables e below (s₁.setTop (mkF m 69 #[.val (.int p0)] [(.int (38 : Int32)), (.int p0)])) t
                refine XS.icmpYes X0.here hx rfl (pc0 := 69) (pc' := 132) rfl (hb hby d7_69) rfl (teq hc5).1 (by decide) (by decide) ?_
                refine XS.iconst X0.here hx rfl (hb hby d7_132) ?_
                refine XS.goto X0.here hx rfl (pc0 := 133) (pc' := 137) rfl (hb hby d7_133) (by decide) (by decide) ?_
                exact k
              obtain ⟨fs, hr, hrun, hended, hW, hsame⟩ := X0.leave (v := some (.int (nar .boolean (1 : Int32)))) (fun h => by rw [Bd.returns] at h; cases h) hlk
              refine ⟨_, _, ?_, hrun, hended, _, _, rfl, ?_, ⟨_, rfl⟩, hW, hsame.mono (by decide) (by decide)⟩
              · show Steps p.tables e below (s₁.setTop (mkF m 137 #[.val (.int p0)] [(.int (1 : Int32))])) _
                exact retN X0 hx (t := .boolean) Bd.returns (by simp) (hb hby d7_137) hr
              · show Qrm7 Z p0 h0 n0 _ (s₁.setFrames fs).heap _
                rw [show (s₁.setFrames fs).heap = h0 from e0]
                exact ⟨own_bT (Or.inr (Or.inr (Or.inr (Or.inr (Or.inr (Or.inl hc5)))))), N0, rfl⟩
            · refine OwnGo.of (B := s₁.setTop (mkF m 75 #[.val (.int p0)] [(.int (39 : Int32)), (.int p0)])) (fun t k => ?_) ?_
              · show Steps p.tables e below (s₁.setTop (mkF m 69 #[.val (.int p0)] [(.int (38 : Int32)), (.int p0)])) t
                refine XS.icmpNo X0.here hx rfl (hb hby d7_69) rfl (feq hc5).1 ?_
                refine XS.iloadN X0.here hx rfl (hb hby d7_72) rfl ?_
                refine XS.bipush X0.here hx rfl (hb hby d7_73) ?_
                exact k
              by_cases hc6 : p0 = (39 : Int32)
              · refine OwnGo.of (B := s₁.setTop (mkF m 137 #[.val (.int p0)] [(.int (1 : Int32))])) (fun t k => ?_) ?_
                · show Steps p.tables e below (s₁.setTop (mkF m 75 #[.val (.int p0)] [(.int (39 : Int32)), (.int p0)])) t
                  refine XS.icmpYes X0.here hx rfl (pc0 := 75) (pc' := 132) rfl (hb hby d7_75) rfl (teq hc6).1 (by decide) (by decide) ?_
                  refine XS.iconst X0.here hx rfl (hb hby d7_132) ?_
                  refine XS.goto X0.here hx rfl (pc0 := 133) (pc' := 137) rfl (hb hby d7_133) (by decide) (by decide) ?_
                  exact k
                obtain ⟨fs, hr, hrun, hended, hW, hsame⟩ := X0.leave (v := some (.int (nar .boolean (1 : Int32)))) (fun h => by rw [Bd.returns] at h; cases h) hlk
                refine ⟨_, _, ?_, hrun, hended, _, _, rfl, ?_, ⟨_, rfl⟩, hW, hsame.mono (by decide) (by decide)⟩
                · show Steps p.tables e below (s₁.setTop (mkF m 137 #[.val (.int p0)] [(.int (1 : Int32))])) _
                  exact retN X0 hx (t := .boolean) Bd.returns (by simp) (hb hby d7_137) hr
                · show Qrm7 Z p0 h0 n0 _ (s₁.setFrames fs).heap _
                  rw [show (s₁.setFrames fs).heap = h0 from e0]
                  exact ⟨own_bT (Or.inr (Or.inr (Or.inr (Or.inr (Or.inr (Or.inr (Or.inl hc6))))))), N0, rfl⟩
              · refine OwnGo.of (B := s₁.setTop (mkF m 81 #[.val (.int p0)] [(.int (42 : Int32)), (.int p0)])) (fun t k => ?_) ?_
                · show Steps p.tables e below (s₁.setTop (mkF m 75 #[.val (.int p0)] [(.int (39 : Int32)), (.int p0)])) t
                  refine XS.icmpNo X0.here hx rfl (hb hby d7_75) rfl (feq hc6).1 ?_
                  refine XS.iloadN X0.here hx rfl (hb hby d7_78) rfl ?_
                  refine XS.bipush X0.here hx rfl (hb hby d7_79) ?_
                  exact k
                by_cases hc7 : p0 = (42 : Int32)
                · refine OwnGo.of (B := s₁.setTop (mkF m 137 #[.val (.int p0)] [(.int (1 : Int32))])) (fun t k => ?_) ?_
                  · show Steps p.tables e below (s₁.setTop (mkF m 81 #[.val (.int p0)] [(.int (42 : Int32)), (.int p0)])) t
                    refine XS.icmpYes X0.here hx rfl (pc0 := 81) (pc' := 132) rfl (hb hby d7_81) rfl (teq hc7).1 (by decide) (by decide) ?_
                    refine XS.iconst X0.here hx rfl (hb hby d7_132) ?_
                    refine XS.goto X0.here hx rfl (pc0 := 133) (pc' := 137) rfl (hb hby d7_133) (by decide) (by decide) ?_
                    exact k
                  obtain ⟨fs, hr, hrun, hended, hW, hsame⟩ := X0.leave (v := some (.int (nar .boolean (1 : Int32)))) (fun h => by rw [Bd.returns] at h; cases h) hlk
                  refine ⟨_, _, ?_, hrun, hended, _, _, rfl, ?_, ⟨_, rfl⟩, hW, hsame.mono (by decide) (by decide)⟩
                  · show Steps p.tables e below (s₁.setTop (mkF m 137 #[.val (.int p0)] [(.int (1 : Int32))])) _
                    exact retN X0 hx (t := .boolean) Bd.returns (by simp) (hb hby d7_137) hr
                  · show Qrm7 Z p0 h0 n0 _ (s₁.setFrames fs).heap _
                    rw [show (s₁.setFrames fs).heap = h0 from e0]
                    exact ⟨own_bT (Or.inr (Or.inr (Or.inr (Or.inr (Or.inr (Or.inr (Or.inr (Or.inl hc7)))))))), N0, rfl⟩
                · refine OwnGo.of (B := s₁.setTop (mkF m 87 #[.val (.int p0)] [(.int (43 : Int32)), (.int p0)])) (fun t k => ?_) ?_
                  · show Steps p.tables e below (s₁.setTop (mkF m 81 #[.val (.int p0)] [(.int (42 : Int32)), (.int p0)])) t
                    refine XS.icmpNo X0.here hx rfl (hb hby d7_81) rfl (feq hc7).1 ?_
                    refine XS.iloadN X0.here hx rfl (hb hby d7_84) rfl ?_
                    refine XS.bipush X0.here hx rfl (hb hby d7_85) ?_
                    exact k
                  by_cases hc8 : p0 = (43 : Int32)
                  · refine OwnGo.of (B := s₁.setTop (mkF m 137 #[.val (.int p0)] [(.int (1 : Int32))])) (fun t k => ?_) ?_
                    · show Steps p.tables e below (s₁.setTop (mkF m 87 #[.val (.int p0)] [(.int (43 : Int32)), (.int p0)])) t
                      refine XS.icmpYes X0.here hx rfl (pc0 := 87) (pc' := 132) rfl (hb hby d7_87) rfl (teq hc8).1 (by decide) (by decide) ?_
                      refine XS.iconst X0.here hx rfl (hb hby d7_132) ?_
                      refine XS.goto X0.here hx rfl (pc0 := 133) (pc' := 137) rfl (hb hby d7_133) (by decide) (by decide) ?_
                      exact k
                    obtain ⟨fs, hr, hrun, hended, hW, hsame⟩ := X0.leave (v := some (.int (nar .boolean (1 : Int32)))) (fun h => by rw [Bd.returns] at h; cases h) hlk
                    refine ⟨_, _, ?_, hrun, hended, _, _, rfl, ?_, ⟨_, rfl⟩, hW, hsame.mono (by decide) (by decide)⟩
                    · show Steps p.tables e below (s₁.setTop (mkF m 137 #[.val (.int p0)] [(.int (1 : Int32))])) _
                      exact retN X0 hx (t := .boolean) Bd.returns (by simp) (hb hby d7_137) hr
                    · show Qrm7 Z p0 h0 n0 _ (s₁.setFrames fs).heap _
                      rw [show (s₁.setFrames fs).heap = h0 from e0]
                      exact ⟨own_bT (Or.inr (Or.inr (Or.inr (Or.inr (Or.inr (Or.inr (Or.inr (Or.inr (Or.inl hc8))))))))), N0, rfl⟩
                  · refine OwnGo.of (B := s₁.setTop (mkF m 93 #[.val (.int p0)] [(.int (45 : Int32)), (.int p0)])) (fun t k => ?_) ?_
                    · show Steps p.tables e below (s₁.setTop (mkF m 87 #[.val (.int p0)] [(.int (43 : Int32)), (.int p0)])) t
                      refine XS.icmpNo X0.here hx rfl (hb hby d7_87) rfl (feq hc8).1 ?_
                      refine XS.iloadN X0.here hx rfl (hb hby d7_90) rfl ?_
                      refine XS.bipush X0.here hx rfl (hb hby d7_91) ?_
                      exact k
                    by_cases hc9 : p0 = (45 : Int32)
                    · refine OwnGo.of (B := s₁.setTop (mkF m 137 #[.val (.int p0)] [(.int (1 : Int32))])) (fun t k => ?_) ?_
                      · show Steps p.tables e below (s₁.setTop (mkF m 93 #[.val (.int p0)] [(.int (45 : Int32)), (.int p0)])) t
                        refine XS.icmpYes X0.here hx rfl (pc0 := 93) (pc' := 132) rfl (hb hby d7_93) rfl (teq hc9).1 (by decide) (by decide) ?_
                        refine XS.iconst X0.here hx rfl (hb hby d7_132) ?_
                        refine XS.goto X0.here hx rfl (pc0 := 133) (pc' := 137) rfl (hb hby d7_133) (by decide) (by decide) ?_
                        exact k
                      obtain ⟨fs, hr, hrun, hended, hW, hsame⟩ := X0.leave (v := some (.int (nar .boolean (1 : Int32)))) (fun h => by rw [Bd.returns] at h; cases h) hlk
                      refine ⟨_, _, ?_, hrun, hended, _, _, rfl, ?_, ⟨_, rfl⟩, hW, hsame.mono (by decide) (by decide)⟩
                      · show Steps p.tables e below (s₁.setTop (mkF m 137 #[.val (.int p0)] [(.int (1 : Int32))])) _
                        exact retN X0 hx (t := .boolean) Bd.returns (by simp) (hb hby d7_137) hr
                      · show Qrm7 Z p0 h0 n0 _ (s₁.setFrames fs).heap _
                        rw [show (s₁.setFrames fs).heap = h0 from e0]
                        exact ⟨own_bT (Or.inr (Or.inr (Or.inr (Or.inr (Or.inr (Or.inr (Or.inr (Or.inr (Or.inr (Or.inl hc9)))))))))), N0, rfl⟩
                    · refine OwnGo.of (B := s₁.setTop (mkF m 99 #[.val (.int p0)] [(.int (46 : Int32)), (.int p0)])) (fun t k => ?_) ?_
                      · show Steps p.tables e below (s₁.setTop (mkF m 93 #[.val (.int p0)] [(.int (45 : Int32)), (.int p0)])) t
                        refine XS.icmpNo X0.here hx rfl (hb hby d7_93) rfl (feq hc9).1 ?_
                        refine XS.iloadN X0.here hx rfl (hb hby d7_96) rfl ?_
                        refine XS.bipush X0.here hx rfl (hb hby d7_97) ?_
                        exact k
                      by_cases hc10 : p0 = (46 : Int32)
                      · refine OwnGo.of (B := s₁.setTop (mkF m 137 #[.val (.int p0)] [(.int (1 : Int32))])) (fun t k => ?_) ?_
                        · show Steps p.tables e below (s₁.setTop (mkF m 99 #[.val (.int p0)] [(.int (46 : Int32)), (.int p0)])) t
                          refine XS.icmpYes X0.here hx rfl (pc0 := 99) (pc' := 132) rfl (hb hby d7_99) rfl (teq hc10).1 (by decide) (by decide) ?_
                          refine XS.iconst X0.here hx rfl (hb hby d7_132) ?_
                          refine XS.goto X0.here hx rfl (pc0 := 133) (pc' := 137) rfl (hb hby d7_133) (by decide) (by decide) ?_
                          exact k
                        obtain ⟨fs, hr, hrun, hended, hW, hsame⟩ := X0.leave (v := some (.int (nar .boolean (1 : Int32)))) (fun h => by rw [Bd.returns] at h; cases h) hlk
                        refine ⟨_, _, ?_, hrun, hended, _, _, rfl, ?_, ⟨_, rfl⟩, hW, hsame.mono (by decide) (by decide)⟩
                        · show Steps p.tables e below (s₁.setTop (mkF m 137 #[.val (.int p0)] [(.int (1 : Int32))])) _
                          exact retN X0 hx (t := .boolean) Bd.returns (by simp) (hb hby d7_137) hr
                        · show Qrm7 Z p0 h0 n0 _ (s₁.setFrames fs).heap _
                          rw [show (s₁.setFrames fs).heap = h0 from e0]
                          exact ⟨own_bT (Or.inr (Or.inr (Or.inr (Or.inr (Or.inr (Or.inr (Or.inr (Or.inr (Or.inr (Or.inr (Or.inl hc10))))))))))), N0, rfl⟩
                      · refine OwnGo.of (B := s₁.setTop (mkF m 105 #[.val (.int p0)] [(.int (94 : Int32)), (.int p0)])) (fun t k => ?_) ?_
                        · show Steps p.tables e below (s₁.setTop (mkF m 99 #[.val (.int p0)] [(.int (46 : Int32)), (.int p0)])) t
                          refine XS.icmpNo X0.here hx rfl (hb hby d7_99) rfl (feq hc10).1 ?_
                          refine XS.iloadN X0.here hx rfl (hb hby d7_102) rfl ?_
                          refine XS.bipush X0.here hx rfl (hb hby d7_103) ?_
                          exact k
                        by_cases hc11 : p0 = (94 : Int32)
                        · refine OwnGo.of (B := s₁.setTop (mkF m 137 #[.val (.int p0)] [(.int (1 : Int32))])) (fun t k => ?_) ?_
                          · show Steps p.tables e below (s₁.setTop (mkF m 105 #[.val (.int p0)] [(.int (94 : Int32)), (.int p0)])) t
                            refine XS.icmpYes X0.here hx rfl (pc0 := 105) (pc' := 132) rfl (hb hby d7_105) rfl (teq hc11).1 (by decide) (by decide) ?_
                            refine XS.iconst X0.here hx rfl (hb hby d7_132) ?_
                            refine XS.goto X0.here hx rfl (pc0 := 133) (pc' := 137) rfl (hb hby d7_133) (by decide) (by decide) ?_
                            exact k
                          obtain ⟨fs, hr, hrun, hended, hW, hsame⟩ := X0.leave (v := some (.int (nar .boolean (1 : Int32)))) (fun h => by rw [Bd.returns] at h; cases h) hlk
                          refine ⟨_, _, ?_, hrun, hended, _, _, rfl, ?_, ⟨_, rfl⟩, hW, hsame.mono (by decide) (by decide)⟩
                          · show Steps p.tables e below (s₁.setTop (mkF m 137 #[.val (.int p0)] [(.int (1 : Int32))])) _
                            exact retN X0 hx (t := .boolean) Bd.returns (by simp) (hb hby d7_137) hr
                          · show Qrm7 Z p0 h0 n0 _ (s₁.setFrames fs).heap _
                            rw [show (s₁.setFrames fs).heap = h0 from e0]
                            exact ⟨own_bT (Or.inr (Or.inr (Or.inr (Or.inr (Or.inr (Or.inr (Or.inr (Or.inr (Or.inr (Or.inr (Or.inr (Or.inl hc11)))))))))))), N0, rfl⟩
                        · refine OwnGo.of (B := s₁.setTop (mkF m 111 #[.val (.int p0)] [(.int (95 : Int32)), (.int p0)])) (fun t k => ?_) ?_
                          · show Steps p.tables e below (s₁.setTop (mkF m 105 #[.val (.int p0)] [(.int (94 : Int32)), (.int p0)])) t
                            refine XS.icmpNo X0.here hx rfl (hb hby d7_105) rfl (feq hc11).1 ?_
                            refine XS.iloadN X0.here hx rfl (hb hby d7_108) rfl ?_
                            refine XS.bipush X0.here hx rfl (hb hby d7_109) ?_
                            exact k
                          by_cases hc12 : p0 = (95 : Int32)
                          · refine OwnGo.of (B := s₁.setTop (mkF m 137 #[.val (.int p0)] [(.int (1 : Int32))])) (fun t k => ?_) ?_
                            · show Steps p.tables e below (s₁.setTop (mkF m 111 #[.val (.int p0)] [(.int (95 : Int32)), (.int p0)])) t
                              refine XS.icmpYes X0.here hx rfl (pc0 := 111) (pc' := 132) rfl (hb hby d7_111) rfl (teq hc12).1 (by decide) (by decide) ?_
                              refine XS.iconst X0.here hx rfl (hb hby d7_132) ?_
                              refine XS.goto X0.here hx rfl (pc0 := 133) (pc' := 137) rfl (hb hby d7_133) (by decide) (by decide) ?_
                              exact k
                            obtain ⟨fs, hr, hrun, hended, hW, hsame⟩ := X0.leave (v := some (.int (nar .boolean (1 : Int32)))) (fun h => by rw [Bd.returns] at h; cases h) hlk
                            refine ⟨_, _, ?_, hrun, hended, _, _, rfl, ?_, ⟨_, rfl⟩, hW, hsame.mono (by decide) (by decide)⟩
                            · show Steps p.tables e below (s₁.setTop (mkF m 137 #[.val (.int p0)] [(.int (1 : Int32))])) _
                              exact retN X0 hx (t := .boolean) Bd.returns (by simp) (hb hby d7_137) hr
                            · show Qrm7 Z p0 h0 n0 _ (s₁.setFrames fs).heap _
                              rw [show (s₁.setFrames fs).heap = h0 from e0]
                              exact ⟨own_bT (Or.inr (Or.inr (Or.inr (Or.inr (Or.inr (Or.inr (Or.inr (Or.inr (Or.inr (Or.inr (Or.inr (Or.inr (Or.inl hc12))))))))))))), N0, rfl⟩
                          · refine OwnGo.of (B := s₁.setTop (mkF m 117 #[.val (.int p0)] [(.int (96 : Int32)), (.int p0)])) (fun t k => ?_) ?_
                            · show Steps p.tables e below (s₁.setTop (mkF m 111 #[.val (.int p0)] [(.int (95 : Int32)), (.int p0)])) t
                              refine XS.icmpNo X0.here hx rfl (hb hby d7_111) rfl (feq hc12).1 ?_
                              refine XS.iloadN X0.here hx rfl (hb hby d7_114) rfl ?_
                              refine XS.bipush X0.here hx rfl (hb hby d7_115) ?_
                              exact k
                            by_cases hc13 : p0 = (96 : Int32)
                            · refine OwnGo.of (B := s₁.setTop (mkF m 137 #[.val (.int p0)] [(.int (1 : Int32))])) (fun t k => ?_) ?_
                              · show Steps p.tables e below (s₁.setTop (mkF m 117 #[.val (.int p0)] [(.int (96 : Int32)), (.int p0)])) t
                                refine XS.icmpYes X0.here hx rfl (pc0 := 117) (pc' := 132) rfl (hb hby d7_117) rfl (teq hc13).1 (by decide) (by decide) ?_
                                refine XS.iconst X0.here hx rfl (hb hby d7_132) ?_
                                refine XS.goto X0.here hx rfl (pc0 := 133) (pc' := 137) rfl (hb hby d7_133) (by decide) (by decide) ?_
                                exact k
                              obtain ⟨fs, hr, hrun, hended, hW, hsame⟩ := X0.leave (v := some (.int (nar .boolean (1 : Int32)))) (fun h => by rw [Bd.returns] at h; cases h) hlk
                              refine ⟨_, _, ?_, hrun, hended, _, _, rfl, ?_, ⟨_, rfl⟩, hW, hsame.mono (by decide) (by decide)⟩
                              · show Steps p.tables e below (s₁.setTop (mkF m 137 #[.val (.int p0)] [(.int (1 : Int32))])) _
                                exact retN X0 hx (t := .boolean) Bd.returns (by simp) (hb hby d7_137) hr
                              · show Qrm7 Z p0 h0 n0 _ (s₁.setFrames fs).heap _
                                rw [show (s₁.setFrames fs).heap = h0 from e0]
                                exact ⟨own_bT (Or.inr (Or.inr (Or.inr (Or.inr (Or.inr (Or.inr (Or.inr (Or.inr (Or.inr (Or.inr (Or.inr (Or.inr (Or.inr (Or.inl hc13)))))))))))))), N0, rfl⟩
                            · refine OwnGo.of (B := s₁.setTop (mkF m 123 #[.val (.int p0)] [(.int (124 : Int32)), (.int p0)])) (fun t k => ?_) ?_
                              · show Steps p.tables e below (s₁.setTop (mkF m 117 #[.val (.int p0)] [(.int (96 : Int32)), (.int p0)])) t
                                refine XS.icmpNo X0.here hx rfl (hb hby d7_117) rfl (feq hc13).1 ?_
                                refine XS.iloadN X0.here hx rfl (hb hby d7_120) rfl ?_
                                refine XS.bipush X0.here hx rfl (hb hby d7_121) ?_
                                exact k
                              by_cases hc14 : p0 = (124 : Int32)
                              · refine OwnGo.of (B := s₁.setTop (mkF m 137 #[.val (.int p0)] [(.int (1 : Int32))])) (fun t k => ?_) ?_
                                · show Steps p.tables e below (s₁.setTop (mkF m 123 #[.val (.int p0)] [(.int (124 : Int32)), (.int p0)])) t
                                  refine XS.icmpYes X0.here hx rfl (pc0 := 123) (pc' := 132) rfl (hb hby d7_123) rfl (teq hc14).1 (by decide) (by decide) ?_
                                  refine XS.iconst X0.here hx rfl (hb hby d7_132) ?_
                                  refine XS.goto X0.here hx rfl (pc0 := 133) (pc' := 137) rfl (hb hby d7_133) (by decide) (by decide) ?_
                                  exact k
                                obtain ⟨fs, hr, hrun, hended, hW, hsame⟩ := X0.leave (v := some (.int (nar .boolean (1 : Int32)))) (fun h => by rw [Bd.returns] at h; cases h) hlk
                                refine ⟨_, _, ?_, hrun, hended, _, _, rfl, ?_, ⟨_, rfl⟩, hW, hsame.mono (by decide) (by decide)⟩
                                · show Steps p.tables e below (s₁.setTop (mkF m 137 #[.val (.int p0)] [(.int (1 : Int32))])) _
                                  exact retN X0 hx (t := .boolean) Bd.returns (by simp) (hb hby d7_137) hr
                                · show Qrm7 Z p0 h0 n0 _ (s₁.setFrames fs).heap _
                                  rw [show (s₁.setFrames fs).heap = h0 from e0]
                                  exact ⟨own_bT (Or.inr (Or.inr (Or.inr (Or.inr (Or.inr (Or.inr (Or.inr (Or.inr (Or.inr (Or.inr (Or.inr (Or.inr (Or.inr (Or.inr (Or.inl hc14))))))))))))))), N0, rfl⟩
                              · refine OwnGo.of (B := s₁.setTop (mkF m 129 #[.val (.int p0)] [(.int (126 : Int32)), (.int p0)])) (fun t k => ?_) ?_
                                · show Steps p.tables e below (s₁.setTop (mkF m 123 #[.val (.int p0)] [(.int (124 : Int32)), (.int p0)])) t
                                  refine XS.icmpNo X0.here hx rfl (hb hby d7_123) rfl (feq hc14).1 ?_
                                  refine XS.iloadN X0.here hx rfl (hb hby d7_126) rfl ?_
                                  refine XS.bipush X0.here hx rfl (hb hby d7_127) ?_
                                  exact k
                                by_cases hc15 : p0 = (126 : Int32)
                                · refine OwnGo.of (B := s₁.setTop (mkF m 137 #[.val (.int p0)] [(.int (1 : Int32))])) (fun t k => ?_) ?_
                                  · show Steps p.tables e below (s₁.setTop (mkF m 129 #[.val (.int p0)] [(.int (126 : Int32)), (.int p0)])) t
                                    refine XS.icmpNo X0.here hx rfl (hb hby d7_129) rfl (teq hc15).2 ?_
                                    refine XS.iconst X0.here hx rfl (hb hby d7_132) ?_
                                    refine XS.goto X0.here hx rfl (pc0 := 133) (pc' := 137) rfl (hb hby d7_133) (by decide) (by decide) ?_
                                    exact k
                                  obtain ⟨fs, hr, hrun, hended, hW, hsame⟩ := X0.leave (v := some (.int (nar .boolean (1 : Int32)))) (fun h => by rw [Bd.returns] at h; cases h) hlk
                                  refine ⟨_, _, ?_, hrun, hended, _, _, rfl, ?_, ⟨_, rfl⟩, hW, hsame.mono (by decide) (by decide)⟩
                                  · show Steps p.tables e below (s₁.setTop (mkF m 137 #[.val (.int p0)] [(.int (1 : Int32))])) _
                                    exact retN X0 hx (t := .boolean) Bd.returns (by simp) (hb hby d7_137) hr
                                  · show Qrm7 Z p0 h0 n0 _ (s₁.setFrames fs).heap _
                                    rw [show (s₁.setFrames fs).heap = h0 from e0]
                                    exact ⟨own_bT (Or.inr (Or.inr (Or.inr (Or.inr (Or.inr (Or.inr (Or.inr (Or.inr (Or.inr (Or.inr (Or.inr (Or.inr (Or.inr (Or.inr (Or.inr hc15))))))))))))))), N0, rfl⟩
                                · refine OwnGo.of (B := s₁.setTop (mkF m 137 #[.val (.int p0)] [(.int (0 : Int32))])) (fun t k => ?_) ?_
                                  · show Steps p.tables e below (s₁.setTop (mkF m 129 #[.val (.int p0)] [(.int (126 : Int32)), (.int p0)])) t
                                    refine XS.icmpYes X0.here hx rfl (pc0 := 129) (pc' := 136) rfl (hb hby d7_129) rfl (feq hc15).2 (by decide) (by decide) ?_
                                    refine XS.iconst X0.here hx rfl (hb hby d7_136) ?_
                                    exact k
                                  obtain ⟨fs, hr, hrun, hended, hW, hsame⟩ := X0.leave (v := some (.int (nar .boolean (0 : Int32)))) (fun h => by rw [Bd.returns] at h; cases h) hlk
                                  refine ⟨_, _, ?_, hrun, hended, _, _, rfl, ?_, ⟨_, rfl⟩, hW, hsame.mono (by decide) (by decide)⟩
                                  · show Steps p.tables e below (s₁.setTop (mkF m 137 #[.val (.int p0)] [(.int (0 : Int32))])) _
                                    exact retN X0 hx (t := .boolean) Bd.returns (by simp) (hb hby d7_137) hr
                                  · show Qrm7 Z p0 h0 n0 _ (s₁.setFrames fs).heap _
                                    rw [show (s₁.setFrames fs).heap = h0 from e0]
                                    refine ⟨own_bF ?_, N0, rfl⟩
                                    rintro ((q | q | q) | q | q | q | q | q | q | q | q | q | q | q | q | q | q | q)
                                    · exact ng1 q
                                    · exact ng2 q
                                    · exact ng0 q
                                    · exact hc1 q
                                    · exact hc2 q
                                    · exact hc3 q
                                    · exact hc4 q
                                    · exact hc5 q
                                    · exact hc6 q
                                    · exact hc7 q
                                    · exact hc8 q
                                    · exact hc9 q
                                    · exact hc10 q
                                    · exact hc11 q
                                    · exact hc12 q
                                    · exact hc13 q
                                    · exact hc14 q
                                    · exact hc15 q
  have J28 : ∀ (ng0 : ¬ own_rg p0 48 57) (ng1 : ¬ own_rg p0 97 122), OwnGo p.tables e below (fun o U' => ∃ v L, o = .returned v ∧ Qrm7 Z p0 h0 n0 v U'.heap L ∧ FrameEnd s o U' L ({ frames := 0, cells := 0, slots := 0, locals := 0 } : Room).cells ({ frames := 0, cells := 0, slots := 0, locals := 0 } : Room).slots) (s₁.setTop (mkF m 28 #[.val (.int p0)] [])) := by
    intro ng0 ng1
    show OwnGo p.tables e below _ (s₁.setTop (mkF m 28 #[.val (.int p0)] []))
    refine OwnGo.of (B := s₁.setTop (mkF m 31 #[.val (.int p0)] [(.int (65 : Int32)), (.int p0)])) (fun t k => ?_) ?_
    · show Steps p.tables e below (s₁.setTop (mkF m 28 #[.val (.int p0)] [])) t
      refine XS.iloadN X0.here hx rfl (hb hby d7_28) rfl ?_
      refine XS.bipush X0.here hx rfl (hb hby d7_29) ?_
      exact k
    by_cases hc16 : p0 < (65 : Int32)
    · refine OwnGo.of (B := s₁.setTop (mkF m 42 #[.val (.int p0)] [])) (fun t k => ?_) ?_
      · show Steps p.tables e below (s₁.setTop (mkF m 31 #[.val (.int p0)] [(.int (65 : Int32)), (.int p0)])) t
        refine XS.icmpYes X0.here hx rfl (pc0 := 31) (pc' := 42) rfl (hb hby d7_31) rfl (tlt hc16).1 (by decide) (by decide) ?_
        exact k
      exact J42 ng0 ng1 (fun q => q.1 hc16)
    · refine OwnGo.of (B := s₁.setTop (mkF m 37 #[.val (.int p0)] [(.int (90 : Int32)), (.int p0)])) (fun t k => ?_) ?_
      · show Steps p.tables e below (s₁.setTop (mkF m 31 #[.val (.int p0)] [(.int (65 : Int32)), (.int p0)])) t
        refine XS.icmpNo X0.here hx rfl (hb hby d7_31) rfl (flt hc16).1 ?_
        refine XS.iloadN X0.here hx rfl (hb hby d7_34) rfl ?_
        refine XS.bipush X0.here hx rfl (hb hby d7_35) ?_
        exact k
      by_cases hc17 : (90 : Int32) < p0
      · refine OwnGo.of (B := s₁.setTop (mkF m 42 #[.val (.int p0)] [])) (fun t k => ?_) ?_
        · show Steps p.tables e below (s₁.setTop (mkF m 37 #[.val (.int p0)] [(.int (90 : Int32)), (.int p0)])) t
          refine XS.icmpYes X0.here hx rfl (pc0 := 37) (pc' := 42) rfl (hb hby d7_37) rfl (tlt hc17).2.2.1 (by decide) (by decide) ?_
          exact k
        exact J42 ng0 ng1 (fun q => q.2 hc17)
      · refine OwnGo.of (B := s₁.setTop (mkF m 41 #[.val (.int p0)] [(.int (1 : Int32))])) (fun t k => ?_) ?_
        · show Steps p.tables e below (s₁.setTop (mkF m 37 #[.val (.int p0)] [(.int (90 : Int32)), (.int p0)])) t
          refine XS.icmpNo X0.here hx rfl (hb hby d7_37) rfl (flt hc17).2.2.1 ?_
          refine XS.iconst X0.here hx rfl (hb hby d7_40) ?_
          exact k
        obtain ⟨fs, hr, hrun, hended, hW, hsame⟩ := X0.leave (v := some (.int (nar .boolean (1 : Int32)))) (fun h => by rw [Bd.returns] at h; cases h) hlk
        refine ⟨_, _, ?_, hrun, hended, _, _, rfl, ?_, ⟨_, rfl⟩, hW, hsame.mono (by decide) (by decide)⟩
        · show Steps p.tables e below (s₁.setTop (mkF m 41 #[.val (.int p0)] [(.int (1 : Int32))])) _
          exact retN X0 hx (t := .boolean) Bd.returns (by simp) (hb hby d7_41) hr
        · show Qrm7 Z p0 h0 n0 _ (s₁.setFrames fs).heap _
          rw [show (s₁.setFrames fs).heap = h0 from e0]
          exact ⟨own_bT (Or.inl (Or.inr (Or.inl ⟨hc16, hc17⟩))), N0, rfl⟩
  have J14 : ∀ (ng0 : ¬ own_rg p0 48 57), OwnGo p.tables e below (fun o U' => ∃ v L, o = .returned v ∧ Qrm7 Z p0 h0 n0 v U'.heap L ∧ FrameEnd s o U' L ({ frames := 0, cells := 0, slots := 0, locals := 0 } : Room).cells ({ frames := 0, cells := 0, slots := 0, locals := 0 } : Room).slots) (s₁.setTop (mkF m 14 #[.val (.int p0)] [])) := by
    intro ng0
    show OwnGo p.tables e below _ (s₁.setTop (mkF m 14 #[.val (.int p0)] []))
    refine OwnGo.of (B := s₁.setTop (mkF m 17 #[.val (.int p0)] [(.int (97 : Int32)), (.int p0)])) (fun t k => ?_) ?_
    · show Steps p.tables e below (s₁.setTop (mkF m 14 #[.val (.int p0)] [])) t
      refine XS.iloadN X0.here hx rfl (hb hby d7_14) rfl ?_
      refine XS.bipush X0.here hx rfl (hb hby d7_15) ?_
      exact k
    by_cases hc18 : p0 < (97 : Int32)
    · refine OwnGo.of (B := s₁.setTop (mkF m 28 #[.val (.int p0)] [])) (fun t k => ?_) ?_
      · show Steps p.tables e below (s₁.setTop (mkF m 17 #[.val (.int p0)] [(.int (97 : Int32)), (.int p0)])) t
        refine XS.icmpYes X0.here hx rfl (pc0 := 17) (pc' := 28) rfl (hb hby d7_17) rfl (tlt hc18).1 (by decide) (by decide) ?_
        exact k
      exact J28 ng0 (fun q => q.1 hc18)
    · refine OwnGo.of (B := s₁.setTop (mkF m 23 #[.val (.int p0)] [(.int (122 : Int32)), (.int p0)])) (fun t k => ?_) ?_
      · show Steps p.tables e below (s₁.setTop (mkF m 17 #[.val (.int p0)] [(.int (97 : Int32)), (.int p0)])) t
        refine XS.icmpNo X0.here hx rfl (hb hby d7_17) rfl (flt hc18).1 ?_
        refine XS.iloadN X0.here hx rfl (hb hby d7_20) rfl ?_
        refine XS.bipush X0.here hx rfl (hb hby d7_21) ?_
        exact k
      by_cases hc19 : (122 : Int32) < p0
      · refine OwnGo.of (B := s₁.setTop (mkF m 28 #[.val (.int p0)] [])) (fun t k => ?_) ?_
        · show Steps p.tables e below (s₁.setTop (mkF m 23 #[.val (.int p0)] [(.int (122 : Int32)), (.int p0)])) t
          refine XS.icmpYes X0.here hx rfl (pc0 := 23) (pc' := 28) rfl (hb hby d7_23) rfl (tlt hc19).2.2.1 (by decide) (by decide) ?_
          exact k
        exact J28 ng0 (fun q => q.2 hc19)
      · refine OwnGo.of (B := s₁.setTop (mkF m 27 #[.val (.int p0)] [(.int (1 : Int32))])) (fun t k => ?_) ?_
        · show Steps p.tables e below (s₁.setTop (mkF m 23 #[.val (.int p0)] [(.int (122 : Int32)), (.int p0)])) t
          refine XS.icmpNo X0.here hx rfl (hb hby d7_23) rfl (flt hc19).2.2.1 ?_
          refine XS.iconst X0.here hx rfl (hb hby d7_26) ?_
          exact k
        obtain ⟨fs, hr, hrun, hended, hW, hsame⟩ := X0.leave (v := some (.int (nar .boolean (1 : Int32)))) (fun h => by rw [Bd.returns] at h; cases h) hlk
        refine ⟨_, _, ?_, hrun, hended, _, _, rfl, ?_, ⟨_, rfl⟩, hW, hsame.mono (by decide) (by decide)⟩
        · show Steps p.tables e below (s₁.setTop (mkF m 27 #[.val (.int p0)] [(.int (1 : Int32))])) _
          exact retN X0 hx (t := .boolean) Bd.returns (by simp) (hb hby d7_27) hr
        · show Qrm7 Z p0 h0 n0 _ (s₁.setFrames fs).heap _
          rw [show (s₁.setFrames fs).heap = h0 from e0]
          exact ⟨own_bT (Or.inl (Or.inl ⟨hc18, hc19⟩)), N0, rfl⟩
  show OwnGo p.tables e below _ (s₁.setTop (mkF m 0 #[.val (.int p0)] []))
  refine OwnGo.of (B := s₁.setTop (mkF m 3 #[.val (.int p0)] [(.int (48 : Int32)), (.int p0)])) (fun t k => ?_) ?_
  · show Steps p.tables e below (s₁.setTop (mkF m 0 #[.val (.int p0)] [])) t
    refine XS.iloadN X0.here hx rfl (hb hby d7_0) rfl ?_
    refine XS.bipush X0.here hx rfl (hb hby d7_1) ?_
    exact k
  by_cases hc20 : p0 < (48 : Int32)
  · refine OwnGo.of (B := s₁.setTop (mkF m 14 #[.val (.int p0)] [])) (fun t k => ?_) ?_
    · show Steps p.tables e below (s₁.setTop (mkF m 3 #[.val (.int p0)] [(.int (48 : Int32)), (.int p0)])) t
      refine XS.icmpYes X0.here hx rfl (pc0 := 3) (pc' := 14) rfl (hb hby d7_3) rfl (tlt hc20).1 (by decide) (by decide) ?_
      exact k
    exact J14 (fun q => q.1 hc20)
  · refine OwnGo.of (B := s₁.setTop (mkF m 9 #[.val (.int p0)] [(.int (57 : Int32)), (.int p0)])) (fun t k => ?_) ?_
    · show Steps p.tables e below (s₁.setTop (mkF m 3 #[.val (.int p0)] [(.int (48 : Int32)), (.int p0)])) t
      refine XS.icmpNo X0.here hx rfl (hb hby d7_3) rfl (flt hc20).1 ?_
      refine XS.iloadN X0.here hx rfl (hb hby d7_6) rfl ?_
      refine XS.bipush X0.here hx rfl (hb hby d7_7) ?_
      exact k
    by_cases hc21 : (57 : Int32) < p0
    · refine OwnGo.of (B := s₁.setTop (mkF m 14 #[.val (.int p0)] [])) (fun t k => ?_) ?_
      · show Steps p.tables e below (s₁.setTop (mkF m 9 #[.val (.int p0)] [(.int (57 : Int32)), (.int p0)])) t
        refine XS.icmpYes X0.here hx rfl (pc0 := 9) (pc' := 14) rfl (hb hby d7_9) rfl (tlt hc21).2.2.1 (by decide) (by decide) ?_
        exact k
      exact J14 (fun q => q.2 hc21)
    · refine OwnGo.of (B := s₁.setTop (mkF m 13 #[.val (.int p0)] [(.int (1 : Int32))])) (fun t k => ?_) ?_
      · show Steps p.tables e below (s₁.setTop (mkF m 9 #[.val (.int p0)] [(.int (57 : Int32)), (.int p0)])) t
        refine XS.icmpNo X0.here hx rfl (hb hby d7_9) rfl (flt hc21).2.2.1 ?_
        refine XS.iconst X0.here hx rfl (hb hby d7_12) ?_
        exact k
      obtain ⟨fs, hr, hrun, hended, hW, hsame⟩ := X0.leave (v := some (.int (nar .boolean (1 : Int32)))) (fun h => by rw [Bd.returns] at h; cases h) hlk
      refine ⟨_, _, ?_, hrun, hended, _, _, rfl, ?_, ⟨_, rfl⟩, hW, hsame.mono (by decide) (by decide)⟩
      · show Steps p.tables e below (s₁.setTop (mkF m 13 #[.val (.int p0)] [(.int (1 : Int32))])) _
        exact retN X0 hx (t := .boolean) Bd.returns (by simp) (hb hby d7_13) hr
      · show Qrm7 Z p0 h0 n0 _ (s₁.setFrames fs).heap _
        rw [show (s₁.setFrames fs).heap = h0 from e0]
        exact ⟨own_bT (Or.inl (Or.inr (Or.inr ⟨hc20, hc21⟩))), N0, rfl⟩
theorem pn_5 : plainName "dev/boundaryline/model/HeaderValue" = true := by first | (simp [plainName, overriddenIn]; done) | decide +kernel
theorem d18_0 : decode prog_32_method_7_code 0 = .ok (.iload_n 0, 1) := by decide +kernel
theorem d18_1 : decode prog_32_method_7_code 1 = .ok (.bipush 97, 2) := by decide +kernel
theorem d18_3 : decode prog_32_method_7_code 3 = .ok (.if_icmp .lt 9, 3) := by decide +kernel
theorem d18_6 : decode prog_32_method_7_code 6 = .ok (.iload_n 0, 1) := by decide +kernel
theorem d18_7 : decode prog_32_method_7_code 7 = .ok (.bipush 122, 2) := by decide +kernel
theorem d18_9 : decode prog_32_method_7_code 9 = .ok (.if_icmp .le 27, 3) := by decide +kernel
theorem d18_12 : decode prog_32_method_7_code 12 = .ok (.iload_n 0, 1) := by decide +kernel
theorem d18_13 : decode prog_32_method_7_code 13 = .ok (.bipush 65, 2) := by decide +kernel
theorem d18_15 : decode prog_32_method_7_code 15 = .ok (.if_icmp .lt 9, 3) := by decide +kernel
theorem d18_18 : decode prog_32_method_7_code 18 = .ok (.iload_n 0, 1) := by decide +kernel
theorem d18_19 : decode prog_32_method_7_code 19 = .ok (.bipush 90, 2) := by decide +kernel
theorem d18_21 : decode prog_32_method_7_code 21 = .ok (.if_icmp .le 15, 3) := by decide +kernel
theorem d18_24 : decode prog_32_method_7_code 24 = .ok (.iload_n 0, 1) := by decide +kernel
theorem d18_25 : decode prog_32_method_7_code 25 = .ok (.bipush 48, 2) := by decide +kernel
theorem d18_27 : decode prog_32_method_7_code 27 = .ok (.if_icmp .lt 13, 3) := by decide +kernel
theorem d18_30 : decode prog_32_method_7_code 30 = .ok (.iload_n 0, 1) := by decide +kernel
theorem d18_31 : decode prog_32_method_7_code 31 = .ok (.bipush 57, 2) := by decide +kernel
theorem d18_33 : decode prog_32_method_7_code 33 = .ok (.if_icmp .gt 7, 3) := by decide +kernel
theorem d18_36 : decode prog_32_method_7_code 36 = .ok (.iconst 1, 1) := by decide +kernel
theorem d18_37 : decode prog_32_method_7_code 37 = .ok (.goto 4, 3) := by decide +kernel
theorem d18_40 : decode prog_32_method_7_code 40 = .ok (.iconst 0, 1) := by decide +kernel
theorem d18_41 : decode prog_32_method_7_code 41 = .ok (.ireturn, 1) := by decide +kernel
theorem ef_rm18 (m : MethodId) (p0 : Int32) : entryFrame m #[(.int p0)] 1 = mkF m 0 #[.val (.int p0)] [] := by first | (simp [entryFrame, mkF, argsToLocals, Value.category]; done) | rfl
def Qrm18 (Z : State) (p0 : Int32) (h0 : Heap) (n0 : Nat) (v : Option Value) (h : Heap) (L : List Loc) : Prop := v = some (.int (own_b (own_al p0))) ∧ Fr n0 L ∧ h = h0
set_option maxRecDepth 65536 in
set_option maxHeartbeats 40000000 in
theorem rm18 (l : Launch) (Z : State) (aw : Array Value) (hw : ∀ d ∈ tables_1, d.before aw Z = true) (ws : List Jvm.Cond) (p0 : Int32) (h0 : Heap) (n0 : Nat) (Z0 : n0 ≤ h0.size) :
    MetFree l (⟨"dev/boundaryline/model/HeaderValue", "isAsciiAlphanumeric", "(C)Z"⟩ : MethodName) (head1 (Jvm.Cond.code (⟨"dev/boundaryline/model/HeaderValue", "isAsciiAlphanumeric", "(C)Z"⟩ : MethodName) prog_32_method_7_code 1 (some .boolean) :: ws) ({ frames := 0, cells := 0, slots := 0, locals := 0 } : Room)) (fun a U => a = #[(.int p0)] ∧ Z.Warmed39 U.vm ∧ U.heap = h0) (fun _ _ _ _ _ => True) (fun _ U o U' => ∃ v L, o = .returned v ∧ Qrm18 Z p0 h0 n0 v U'.heap L ∧ FrameEnd U o U' L ({ frames := 0, cells := 0, slots := 0, locals := 0 } : Room).cells ({ frames := 0, cells := 0, slots := 0, locals := 0 } : Room).slots) := by
  refine MetFree.of_bodySF (plainFor_of_name pn_5) hisR ?_
  intro p e s m args below meth c s₁ Bd hml0 hP hK
  obtain ⟨rfl, hZ, hh⟩ := hP
  have hx := Bd.exec
  have hby := Bd.bytes
  have hml : c.maxLocals = 1 := hml0
  have hown : s.vm.findClass "dev/boundaryline/model/HeaderValue" = some m.cls := findClass_of_methodNamed Bd.named
  have hnm := (name_of_methodNamed Bd.named Bd.method).1
  have X0 : Stand p l e ({ frames := 0, cells := 0, slots := 0, locals := 0 } : Room) s m #[(.int p0)] below meth c s₁ [] 0 0 := Stand.of_body Bd
  have e0 : s₁.heap = h0 := by rw [← hh, Bd.state]; rfl
  have N0 := Fr.nil n0
  have hlk := Bd.notSynchronized
  show OwnGo p.tables e below _ (s₁.setTop (entryFrame m #[(.int p0)] 1))
  rw [ef_rm18 m p0]
  have J40 : ∀ (ng0 : ¬ own_rg p0 97 122) (ng1 : ¬ own_rg p0 65 90) (ng2 : ¬ own_rg p0 48 57), OwnGo p.tables e below (fun o U' => ∃ v L, o = .returned v ∧ Qrm18 Z p0 h0 n0 v U'.heap L ∧ FrameEnd s o U' L ({ frames := 0, cells := 0, slots := 0, locals := 0 } : Room).cells ({ frames := 0, cells := 0, slots := 0, locals := 0 } : Room).slots) (s₁.setTop (mkF m 40 #[.val (.int p0)] [])) := by
    intro ng0 ng1 ng2
    show OwnGo p.tables e below _ (s₁.setTop (mkF m 40 #[.val (.int p0)] []))
    refine OwnGo.of (B := s₁.setTop (mkF m 41 #[.val (.int p0)] [(.int (0 : Int32))])) (fun t k => ?_) ?_
    · show Steps p.tables e below (s₁.setTop (mkF m 40 #[.val (.int p0)] [])) t
      refine XS.iconst X0.here hx rfl (hb hby d18_40) ?_
      exact k
    obtain ⟨fs, hr, hrun, hended, hW, hsame⟩ := X0.leave (v := some (.int (nar .boolean (0 : Int32)))) (fun h => by rw [Bd.returns] at h; cases h) hlk
    refine ⟨_, _, ?_, hrun, hended, _, _, rfl, ?_, ⟨_, rfl⟩, hW, hsame.mono (by decide) (by decide)⟩
    · show Steps p.tables e below (s₁.setTop (mkF m 41 #[.val (.int p0)] [(.int (0 : Int32))])) _
      exact retN X0 hx (t := .boolean) Bd.returns (by simp) (hb hby d18_41) hr
    · show Qrm18 Z p0 h0 n0 _ (s₁.setFrames fs).heap _
      rw [show (s₁.setFrames fs).heap = h0 from e0]
      refine ⟨own_bF ?_, N0, rfl⟩
      rintro (q | q | q)
      · exact ng0 q
      · exact ng1 q
      · exact ng2 q
  have J24 : ∀ (ng0 : ¬ own_rg p0 97 122) (ng1 : ¬ own_rg p0 65 90), OwnGo p.tables e below (fun o U' => ∃ v L, o = .returned v ∧ Qrm18 Z p0 h0 n0 v U'.heap L ∧ FrameEnd s o U' L ({ frames := 0, cells := 0, slots := 0, locals := 0 } : Room).cells ({ frames := 0, cells := 0, slots := 0, locals := 0 } : Room).slots) (s₁.setTop (mkF m 24 #[.val (.int p0)] [])) := by
    intro ng0 ng1
    show OwnGo p.tables e below _ (s₁.setTop (mkF m 24 #[.val (.int p0)] []))
    refine OwnGo.of (B := s₁.setTop (mkF m 27 #[.val (.int p0)] [(.int (48 : Int32)), (.int p0)])) (fun t k => ?_) ?_
    · show Steps p.tables e below (s₁.setTop (mkF m 24 #[.val (.int p0)] [])) t
      refine XS.iloadN X0.here hx rfl (hb hby d18_24) rfl ?_
      refine XS.bipush X0.here hx rfl (hb hby d18_25) ?_
      exact k
    by_cases hc1 : p0 < (48 : Int32)
    · refine OwnGo.of (B := s₁.setTop (mkF m 40 #[.val (.int p0)] [])) (fun t k => ?_) ?_
      · show Steps p.tables e below (s₁.setTop (mkF m 27 #[.val (.int p0)] [(.int (48 : Int32)), (.int p0)])) t
        refine XS.icmpYes X0.here hx rfl (pc0 := 27) (pc' := 40) rfl (hb hby d18_27) rfl (tlt hc1).1 (by decide) (by decide) ?_
        exact k
      exact J40 ng0 ng1 (fun q => q.1 hc1)
    · refine OwnGo.of (B := s₁.setTop (mkF m 33 #[.val (.int p0)] [(.int (57 : Int32)), (.int p0)])) (fun t k => ?_) ?_
      · show Steps p.tables e below (s₁.setTop (mkF m 27 #[.val (.int p0)] [(.int (48 : Int32)), (.int p0)])) t
        refine XS.icmpNo X0.here hx rfl (hb hby d18_27) rfl (flt hc1).1 ?_
        refine XS.iloadN X0.here hx rfl (hb hby d18_30) rfl ?_
        refine XS.bipush X0.here hx rfl (hb hby d18_31) ?_
        exact k
      by_cases hc2 : (57 : Int32) < p0
      · refine OwnGo.of (B := s₁.setTop (mkF m 40 #[.val (.int p0)] [])) (fun t k => ?_) ?_
        · show Steps p.tables e below (s₁.setTop (mkF m 33 #[.val (.int p0)] [(.int (57 : Int32)), (.int p0)])) t
          refine XS.icmpYes X0.here hx rfl (pc0 := 33) (pc' := 40) rfl (hb hby d18_33) rfl (tlt hc2).2.2.1 (by decide) (by decide) ?_
          exact k
        exact J40 ng0 ng1 (fun q => q.2 hc2)
      · refine OwnGo.of (B := s₁.setTop (mkF m 41 #[.val (.int p0)] [(.int (1 : Int32))])) (fun t k => ?_) ?_
        · show Steps p.tables e below (s₁.setTop (mkF m 33 #[.val (.int p0)] [(.int (57 : Int32)), (.int p0)])) t
          refine XS.icmpNo X0.here hx rfl (hb hby d18_33) rfl (flt hc2).2.2.1 ?_
          refine XS.iconst X0.here hx rfl (hb hby d18_36) ?_
          refine XS.goto X0.here hx rfl (pc0 := 37) (pc' := 41) rfl (hb hby d18_37) (by decide) (by decide) ?_
          exact k
        obtain ⟨fs, hr, hrun, hended, hW, hsame⟩ := X0.leave (v := some (.int (nar .boolean (1 : Int32)))) (fun h => by rw [Bd.returns] at h; cases h) hlk
        refine ⟨_, _, ?_, hrun, hended, _, _, rfl, ?_, ⟨_, rfl⟩, hW, hsame.mono (by decide) (by decide)⟩
        · show Steps p.tables e below (s₁.setTop (mkF m 41 #[.val (.int p0)] [(.int (1 : Int32))])) _
          exact retN X0 hx (t := .boolean) Bd.returns (by simp) (hb hby d18_41) hr
        · show Qrm18 Z p0 h0 n0 _ (s₁.setFrames fs).heap _
          rw [show (s₁.setFrames fs).heap = h0 from e0]
          exact ⟨own_bT (Or.inr (Or.inr ⟨hc1, hc2⟩)), N0, rfl⟩
  have J12 : ∀ (ng0 : ¬ own_rg p0 97 122), OwnGo p.tables e below (fun o U' => ∃ v L, o = .returned v ∧ Qrm18 Z p0 h0 n0 v U'.heap L ∧ FrameEnd s o U' L ({ frames := 0, cells := 0, slots := 0, locals := 0 } : Room).cells ({ frames := 0, cells := 0, slots := 0, locals := 0 } : Room).slots) (s₁.setTop (mkF m 12 #[.val (.int p0)] [])) := by
    intro ng0
    show OwnGo p.tables e below _ (s₁.setTop (mkF m 12 #[.val (.int p0)] []))
    refine OwnGo.of (B := s₁.setTop (mkF m 15 #[.val (.int p0)] [(.int (65 : Int32)), (.int p0)])) (fun t k => ?_) ?_
    · show Steps p.tables e below (s₁.setTop (mkF m 12 #[.val (.int p0)] [])) t
      refine XS.iloadN X0.here hx rfl (hb hby d18_12) rfl ?_
      refine XS.bipush X0.here hx rfl (hb hby d18_13) ?_
      exact k
    by_cases hc3 : p0 < (65 : Int32)
    · refine OwnGo.of (B := s₁.setTop (mkF m 24 #[.val (.int p0)] [])) (fun t k => ?_) ?_
      · show Steps p.tables e below (s₁.setTop (mkF m 15 #[.val (.int p0)] [(.int (65 : Int32)), (.int p0)])) t
        refine XS.icmpYes X0.here hx rfl (pc0 := 15) (pc' := 24) rfl (hb hby d18_15) rfl (tlt hc3).1 (by decide) (by decide) ?_
        exact k
      exact J24 ng0 (fun q => q.1 hc3)
    · refine OwnGo.of (B := s₁.setTop (mkF m 21 #[.val (.int p0)] [(.int (90 : Int32)), (.int p0)])) (fun t k => ?_) ?_
      · show Steps p.tables e below (s₁.setTop (mkF m 15 #[.val (.int p0)] [(.int (65 : Int32)), (.int p0)])) t
        refine XS.icmpNo X0.here hx rfl (hb hby d18_15) rfl (flt hc3).1 ?_
        refine XS.iloadN X0.here hx rfl (hb hby d18_18) rfl ?_
        refine XS.bipush X0.here hx rfl (hb hby d18_19) ?_
        exact k
      by_cases hc4 : (90 : Int32) < p0
      · refine OwnGo.of (B := s₁.setTop (mkF m 24 #[.val (.int p0)] [])) (fun t k => ?_) ?_
        · show Steps p.tables e below (s₁.setTop (mkF m 21 #[.val (.int p0)] [(.int (90 : Int32)), (.int p0)])) t
          refine XS.icmpNo X0.here hx rfl (hb hby d18_21) rfl (tlt hc4).2.2.2 ?_
          exact k
        exact J24 ng0 (fun q => q.2 hc4)
      · refine OwnGo.of (B := s₁.setTop (mkF m 41 #[.val (.int p0)] [(.int (1 : Int32))])) (fun t k => ?_) ?_
        · show Steps p.tables e below (s₁.setTop (mkF m 21 #[.val (.int p0)] [(.int (90 : Int32)), (.int p0)])) t
          refine XS.icmpYes X0.here hx rfl (pc0 := 21) (pc' := 36) rfl (hb hby d18_21) rfl (flt hc4).2.2.2 (by decide) (by decide) ?_
          refine XS.iconst X0.here hx rfl (hb hby d18_36) ?_
          refine XS.goto X0.here hx rfl (pc0 := 37) (pc' := 41) rfl (hb hby d18_37) (by decide) (by decide) ?_
          exact k
        obtain ⟨fs, hr, hrun, hended, hW, hsame⟩ := X0.leave (v := some (.int (nar .boolean (1 : Int32)))) (fun h => by rw [Bd.returns] at h; cases h) hlk
        refine ⟨_, _, ?_, hrun, hended, _, _, rfl, ?_, ⟨_, rfl⟩, hW, hsame.mono (by decide) (by decide)⟩
        · show Steps p.tables e below (s₁.setTop (mkF m 41 #[.val (.int p0)] [(.int (1 : Int32))])) _
          exact retN X0 hx (t := .boolean) Bd.returns (by simp) (hb hby d18_41) hr
        · show Qrm18 Z p0 h0 n0 _ (s₁.setFrames fs).heap _
          rw [show (s₁.setFrames fs).heap = h0 from e0]
          exact ⟨own_bT (Or.inr (Or.inl ⟨hc3, hc4⟩)), N0, rfl⟩
  show OwnGo p.tables e below _ (s₁.setTop (mkF m 0 #[.val (.int p0)] []))
  refine OwnGo.of (B := s₁.setTop (mkF m 3 #[.val (.int p0)] [(.int (97 : Int32)), (.int p0)])) (fun t k => ?_) ?_
  · show Steps p.tables e below (s₁.setTop (mkF m 0 #[.val (.int p0)] [])) t
    refine XS.iloadN X0.here hx rfl (hb hby d18_0) rfl ?_
    refine XS.bipush X0.here hx rfl (hb hby d18_1) ?_
    exact k
  by_cases hc5 : p0 < (97 : Int32)
  · refine OwnGo.of (B := s₁.setTop (mkF m 12 #[.val (.int p0)] [])) (fun t k => ?_) ?_
    · show Steps p.tables e below (s₁.setTop (mkF m 3 #[.val (.int p0)] [(.int (97 : Int32)), (.int p0)])) t
      refine XS.icmpYes X0.here hx rfl (pc0 := 3) (pc' := 12) rfl (hb hby d18_3) rfl (tlt hc5).1 (by decide) (by decide) ?_
      exact k
    exact J12 (fun q => q.1 hc5)
  · refine OwnGo.of (B := s₁.setTop (mkF m 9 #[.val (.int p0)] [(.int (122 : Int32)), (.int p0)])) (fun t k => ?_) ?_
    · show Steps p.tables e below (s₁.setTop (mkF m 3 #[.val (.int p0)] [(.int (97 : Int32)), (.int p0)])) t
      refine XS.icmpNo X0.here hx rfl (hb hby d18_3) rfl (flt hc5).1 ?_
      refine XS.iloadN X0.here hx rfl (hb hby d18_6) rfl ?_
      refine XS.bipush X0.here hx rfl (hb hby d18_7) ?_
      exact k
    by_cases hc6 : (122 : Int32) < p0
    · refine OwnGo.of (B := s₁.setTop (mkF m 12 #[.val (.int p0)] [])) (fun t k => ?_) ?_
      · show Steps p.tables e below (s₁.setTop (mkF m 9 #[.val (.int p0)] [(.int (122 : Int32)), (.int p0)])) t
        refine XS.icmpNo X0.here hx rfl (hb hby d18_9) rfl (tlt hc6).2.2.2 ?_
        exact k
      exact J12 (fun q => q.2 hc6)
    · refine OwnGo.of (B := s₁.setTop (mkF m 41 #[.val (.int p0)] [(.int (1 : Int32))])) (fun t k => ?_) ?_
      · show Steps p.tables e below (s₁.setTop (mkF m 9 #[.val (.int p0)] [(.int (122 : Int32)), (.int p0)])) t
        refine XS.icmpYes X0.here hx rfl (pc0 := 9) (pc' := 36) rfl (hb hby d18_9) rfl (flt hc6).2.2.2 (by decide) (by decide) ?_
        refine XS.iconst X0.here hx rfl (hb hby d18_36) ?_
        refine XS.goto X0.here hx rfl (pc0 := 37) (pc' := 41) rfl (hb hby d18_37) (by decide) (by decide) ?_
        exact k
      obtain ⟨fs, hr, hrun, hended, hW, hsame⟩ := X0.leave (v := some (.int (nar .boolean (1 : Int32)))) (fun h => by rw [Bd.returns] at h; cases h) hlk
      refine ⟨_, _, ?_, hrun, hended, _, _, rfl, ?_, ⟨_, rfl⟩, hW, hsame.mono (by decide) (by decide)⟩
      · show Steps p.tables e below (s₁.setTop (mkF m 41 #[.val (.int p0)] [(.int (1 : Int32))])) _
        exact retN X0 hx (t := .boolean) Bd.returns (by simp) (hb hby d18_41) hr
      · show Qrm18 Z p0 h0 n0 _ (s₁.setFrames fs).heap _
        rw [show (s₁.setFrames fs).heap = h0 from e0]
        exact ⟨own_bT (Or.inl ⟨hc5, hc6⟩), N0, rfl⟩

def own_SY : List Int32 := [33, 35, 36, 37, 38, 39, 42, 43, 45, 46, 94, 95, 96, 124, 126]
def own_find (b : Int32) : List Int32 → Nat → Int32
  | [], _ => -1
  | x :: l, i => if x = b then Int32.ofNat i else own_find b l (i + 1)
def own_ix (c : Int32) : Int32 := own_find c.toInt8.toInt32 own_SY 0
theorem own_i32 {i : Nat} (h : i ≤ 8001) : (Int32.ofNat i).toNatClampNeg = i := by rw [Int32.toNatClampNeg, Int32.toInt_ofNat_of_lt (by omega)]; omega
theorem own_drc {l : List Int32} {i : Nat} (h : i < l.length) : l.drop i = l.getD i 0 :: l.drop (i + 1) := by
  rw [List.drop_eq_getElem_cons h, List.getD_eq_getElem?_getD, List.getElem?_eq_getElem h]; rfl
theorem own_mpat {l : List Int32} {i : Nat} (h : i < l.length) (hl : l.length ≤ 4000) : (l.map Value.int).getD (Int32.ofNat i).toNatClampNeg (.int 0) = .int (l.getD i 0) := by
  rw [own_i32 (by omega), List.getD_eq_getElem?_getD, List.getD_eq_getElem?_getD, List.getElem?_map, List.getElem?_eq_getElem h]; rfl
theorem own_fT {b c : Int32} {i : Nat} (h : i < own_SY.length) (q : own_SY.getD i 0 = b) (e : own_ix c = own_find b (own_SY.drop i) i) : own_ix c = Int32.ofNat i := by
  rw [e, own_drc h, own_find, if_pos q]
theorem own_fF {b c : Int32} {i : Nat} (h : i < own_SY.length) (q : ¬ own_SY.getD i 0 = b) (e : own_ix c = own_find b (own_SY.drop i) i) : own_ix c = own_find b (own_SY.drop (i + 1)) (i + 1) := by
  rw [e, own_drc h, own_find, if_neg q]
theorem own_fE {b c : Int32} {i : Nat} (h : i + 0 = 15) (e : own_ix c = own_find b (own_SY.drop i) i) : own_ix c = -1 := by
  rw [e, show i = 15 from h]; rfl

theorem pn_6 : plainName "java/lang/StringLatin1" = true := by first | (simp [plainName, overriddenIn]; done) | decide +kernel
theorem d25_0 : decode jdk_43_method_23_code 0 = .ok (.iload_n 1, 1) := by decide +kernel
theorem d25_1 : decode jdk_43_method_23_code 1 = .ok (.i2b, 1) := by decide +kernel
theorem d25_2 : decode jdk_43_method_23_code 2 = .ok (.istore 4, 2) := by decide +kernel
theorem d25_4 : decode jdk_43_method_23_code 4 = .ok (.iload_n 2, 1) := by decide +kernel
theorem d25_5 : decode jdk_43_method_23_code 5 = .ok (.istore 5, 2) := by decide +kernel
theorem d25_7 : decode jdk_43_method_23_code 7 = .ok (.iload 5, 2) := by decide +kernel
theorem d25_9 : decode jdk_43_method_23_code 9 = .ok (.iload_n 3, 1) := by decide +kernel
theorem d25_10 : decode jdk_43_method_23_code 10 = .ok (.if_icmp .ge 21, 3) := by decide +kernel
theorem d25_13 : decode jdk_43_method_23_code 13 = .ok (.aload_n 0, 1) := by decide +kernel
theorem d25_14 : decode jdk_43_method_23_code 14 = .ok (.iload 5, 2) := by decide +kernel
theorem d25_16 : decode jdk_43_method_23_code 16 = .ok (.baload, 1) := by decide +kernel
theorem d25_17 : decode jdk_43_method_23_code 17 = .ok (.iload 4, 2) := by decide +kernel
theorem d25_19 : decode jdk_43_method_23_code 19 = .ok (.if_icmp .ne 6, 3) := by decide +kernel
theorem d25_22 : decode jdk_43_method_23_code 22 = .ok (.iload 5, 2) := by decide +kernel
theorem d25_24 : decode jdk_43_method_23_code 24 = .ok (.ireturn, 1) := by decide +kernel
theorem d25_25 : decode jdk_43_method_23_code 25 = .ok (.iinc 5 1, 3) := by decide +kernel
theorem d25_28 : decode jdk_43_method_23_code 28 = .ok (.goto (-21), 3) := by decide +kernel
theorem d25_31 : decode jdk_43_method_23_code 31 = .ok (.iconst (-1), 1) := by decide +kernel
theorem d25_32 : decode jdk_43_method_23_code 32 = .ok (.ireturn, 1) := by decide +kernel
theorem ef_rm25 (m : MethodId) (a0 : Addr) (p1 : Int32) : entryFrame m #[(.ref a0), (.int p1), (.int (0 : Int32)), (.int (15 : Int32))] 6 = mkF m 0 #[.val (.ref a0), .val (.int p1), .val (.int (0 : Int32)), .val (.int (15 : Int32)), .unset, .unset] [] := by first | (simp [entryFrame, mkF, argsToLocals, Value.category]; done) | rfl
def Qrm25 (Z : State) (a0 : Addr) (p1 : Int32) (kl : ClassId) (h0 : Heap) (n0 : Nat) (v : Option Value) (h : Heap) (L : List Loc) : Prop := v = some (.int (own_ix p1)) ∧ Fr n0 L ∧ h = h0
set_option maxRecDepth 65536 in
set_option maxHeartbeats 40000000 in
theorem rm25 (l : Launch) (Z : State) (aw : Array Value) (hw : ∀ d ∈ tables_1, d.before aw Z = true) (ws : List Jvm.Cond) (a0 : Addr) (p1 : Int32) (kl : ClassId) (h0 : Heap) (n0 : Nat) (Z0 : n0 ≤ h0.size) (V_a : Arv Z h0 a0 kl .byte (15 : Int32) (own_SY.map Value.int) (.int (0 : Int32))) :
    MetFree l (⟨"java/lang/StringLatin1", "indexOfChar", "([BIII)I"⟩ : MethodName) (head1 (Jvm.Cond.code (⟨"java/lang/StringLatin1", "indexOfChar", "([BIII)I"⟩ : MethodName) jdk_43_method_23_code 6 (some .int) :: ws) ({ frames := 0, cells := 0, slots := 0, locals := 0 } : Room)) (fun a U => a = #[(.ref a0), (.int p1), (.int (0 : Int32)), (.int (15 : Int32))] ∧ Z.Warmed39 U.vm ∧ U.heap = h0) (fun _ _ _ _ _ => True) (fun _ U o U' => ∃ v L, o = .returned v ∧ Qrm25 Z a0 p1 kl h0 n0 v U'.heap L ∧ FrameEnd U o U' L ({ frames := 0, cells := 0, slots := 0, locals := 0 } : Room).cells ({ frames := 0, cells := 0, slots := 0, locals := 0 } : Room).slots) := by
  refine MetFree.of_bodySF (plainFor_of_name pn_6) hisR ?_
  intro p e s m args below meth c s₁ Bd hml0 hP hK
  obtain ⟨rfl, hZ, hh⟩ := hP
  have hx := Bd.exec
  have hby := Bd.bytes
  have hml : c.maxLocals = 6 := hml0
  have hown : s.vm.findClass "java/lang/StringLatin1" = some m.cls := findClass_of_methodNamed Bd.named
  have hnm := (name_of_methodNamed Bd.named Bd.method).1
  have X0 : Stand p l e ({ frames := 0, cells := 0, slots := 0, locals := 0 } : Room) s m #[(.ref a0), (.int p1), (.int (0 : Int32)), (.int (15 : Int32))] below meth c s₁ [] 0 0 := Stand.of_body Bd
  have e0 : s₁.heap = h0 := by rw [← hh, Bd.state]; rfl
  have N0 := Fr.nil n0
  have hlk := Bd.notSynchronized
  show OwnGo p.tables e below _ (s₁.setTop (entryFrame m #[(.ref a0), (.int p1), (.int (0 : Int32)), (.int (15 : Int32))] 6))
  rw [ef_rm25 m a0 p1]
  show OwnGo p.tables e below _ (s₁.setTop (mkF m 0 #[.val (.ref a0), .val (.int p1), .val (.int (0 : Int32)), .val (.int (15 : Int32)), .unset, .unset] []))
  refine OwnGo.of (B := s₁.setTop (mkF m 7 #[.val (.ref a0), .val (.int p1), .val (.int (0 : Int32)), .val (.int (15 : Int32)), .val (.int (p1.toInt8.toInt32)), .val (.int (0 : Int32))] [])) (fun t k => ?_) ?_
  · show Steps p.tables e below (s₁.setTop (mkF m 0 #[.val (.ref a0), .val (.int p1), .val (.int (0 : Int32)), .val (.int (15 : Int32)), .unset, .unset] [])) t
    refine XS.iloadN X0.here hx rfl (hb hby d25_0) rfl ?_
    refine XS.i2b X0.here hx rfl (hb hby d25_1) rfl ?_
    refine XS.istore X0.here hx rfl (hb hby d25_2) rfl (l' := #[.val (.ref a0), .val (.int p1), .val (.int (0 : Int32)), .val (.int (15 : Int32)), .val (.int (p1.toInt8.toInt32)), .unset]) rfl ?_
    refine XS.iloadN X0.here hx rfl (hb hby d25_4) rfl ?_
    refine XS.istore X0.here hx rfl (hb hby d25_5) rfl (l' := #[.val (.ref a0), .val (.int p1), .val (.int (0 : Int32)), .val (.int (15 : Int32)), .val (.int (p1.toInt8.toInt32)), .val (.int (0 : Int32))]) rfl ?_
    exact k
  have loop : ∀ (k i : Nat) (Tj : State) (Lo : List Loc) (Xj : Stand p l e ({ frames := 0, cells := 0, slots := 0, locals := 0 } : Room) s m #[(.ref a0), (.int p1), (.int (0 : Int32)), (.int (15 : Int32))] below meth c Tj Lo 0 0) (ej : Tj.heap = h0) (Nj : Fr n0 Lo) (hik : i + k = 15) (he : own_ix p1 = own_find (p1.toInt8.toInt32) (own_SY.drop i) i), OwnGo p.tables e below (fun o U' => ∃ v L, o = .returned v ∧ Qrm25 Z a0 p1 kl h0 n0 v U'.heap L ∧ FrameEnd s o U' L ({ frames := 0, cells := 0, slots := 0, locals := 0 } : Room).cells ({ frames := 0, cells := 0, slots := 0, locals := 0 } : Room).slots) (Tj.setTop (mkF m 7 #[.val (.ref a0), .val (.int p1), .val (.int (0 : Int32)), .val (.int (15 : Int32)), .val (.int (p1.toInt8.toInt32)), .val (.int (Int32.ofNat i))] [])) := by
    intro k
    induction k with
    | zero =>
      intro i Tj Lo Xj ej Nj hik he
      show OwnGo p.tables e below _ (Tj.setTop (mkF m 7 #[.val (.ref a0), .val (.int p1), .val (.int (0 : Int32)), .val (.int (15 : Int32)), .val (.int (p1.toInt8.toInt32)), .val (.int (Int32.ofNat i))] []))
      refine OwnGo.of (B := Tj.setTop (mkF m 10 #[.val (.ref a0), .val (.int p1), .val (.int (0 : Int32)), .val (.int (15 : Int32)), .val (.int (p1.toInt8.toInt32)), .val (.int (Int32.ofNat i))] [(.int (15 : Int32)), (.int (Int32.ofNat i))])) (fun t k => ?_) ?_
      · show Steps p.tables e below (Tj.setTop (mkF m 7 #[.val (.ref a0), .val (.int p1), .val (.int (0 : Int32)), .val (.int (15 : Int32)), .val (.int (p1.toInt8.toInt32)), .val (.int (Int32.ofNat i))] [])) t
        refine XS.iload Xj.here hx rfl (hb hby d25_7) rfl ?_
        refine XS.iloadN Xj.here hx rfl (hb hby d25_9) rfl ?_
        exact k
      have hc1 : ¬ ((Int32.ofNat i) < (15 : Int32)) := own_irr hik
      refine OwnGo.of (B := Tj.setTop (mkF m 32 #[.val (.ref a0), .val (.int p1), .val (.int (0 : Int32)), .val (.int (15 : Int32)), .val (.int (p1.toInt8.toInt32)), .val (.int (Int32.ofNat i))] [(.int (-1 : Int32))])) (fun t k => ?_) ?_
      · show Steps p.tables e below (Tj.setTop (mkF m 10 #[.val (.ref a0), .val (.int p1), .val (.int (0 : Int32)), .val (.int (15 : Int32)), .val (.int (p1.toInt8.toInt32)), .val (.int (Int32.ofNat i))] [(.int (15 : Int32)), (.int (Int32.ofNat i))])) t
        refine XS.icmpYes Xj.here hx rfl (pc0 := 10) (pc' := 31) rfl (hb hby d25_10) rfl (flt hc1).2.1 (by decide) (by decide) ?_
        refine XS.iconst Xj.here hx rfl (hb hby d25_31) ?_
        exact k
      obtain ⟨fs, hr, hrun, hended, hW, hsame⟩ := Xj.leave (v := some (.int (-1 : Int32))) (fun h => by rw [Bd.returns] at h; cases h) hlk
      refine ⟨_, _, ?_, hrun, hended, _, _, rfl, ?_, ⟨_, rfl⟩, hW, hsame.mono (by decide) (by decide)⟩
      · show Steps p.tables e below (Tj.setTop (mkF m 32 #[.val (.ref a0), .val (.int p1), .val (.int (0 : Int32)), .val (.int (15 : Int32)), .val (.int (p1.toInt8.toInt32)), .val (.int (Int32.ofNat i))] [(.int (-1 : Int32))])) _
        exact own_retI Xj hx Bd.returns (hb hby d25_32) hr
      · show Qrm25 Z a0 p1 kl h0 n0 _ (Tj.setFrames fs).heap _
        rw [show (Tj.setFrames fs).heap = h0 from ej]
        exact ⟨congrArg (fun z => some (Value.int z)) (own_fE hik he).symm, Nj, rfl⟩
    | succ k ih =>
      intro i Tj Lo Xj ej Nj hik he
      have hi : i < own_SY.length := by show i < 15; omega
      show OwnGo p.tables e below _ (Tj.setTop (mkF m 7 #[.val (.ref a0), .val (.int p1), .val (.int (0 : Int32)), .val (.int (15 : Int32)), .val (.int (p1.toInt8.toInt32)), .val (.int (Int32.ofNat i))] []))
      refine OwnGo.of (B := Tj.setTop (mkF m 10 #[.val (.ref a0), .val (.int p1), .val (.int (0 : Int32)), .val (.int (15 : Int32)), .val (.int (p1.toInt8.toInt32)), .val (.int (Int32.ofNat i))] [(.int (15 : Int32)), (.int (Int32.ofNat i))])) (fun t k => ?_) ?_
      · show Steps p.tables e below (Tj.setTop (mkF m 7 #[.val (.ref a0), .val (.int p1), .val (.int (0 : Int32)), .val (.int (15 : Int32)), .val (.int (p1.toInt8.toInt32)), .val (.int (Int32.ofNat i))] [])) t
        refine XS.iload Xj.here hx rfl (hb hby d25_7) rfl ?_
        refine XS.iloadN Xj.here hx rfl (hb hby d25_9) rfl ?_
        exact k
      have hc2 : (Int32.ofNat i) < (15 : Int32) := own_ofltN hi (by decide)
      refine OwnGo.of (B := Tj.setTop (mkF m 16 #[.val (.ref a0), .val (.int p1), .val (.int (0 : Int32)), .val (.int (15 : Int32)), .val (.int (p1.toInt8.toInt32)), .val (.int (Int32.ofNat i))] [(.int (Int32.ofNat i)), (.ref a0)])) (fun t k => ?_) ?_
      · show Steps p.tables e below (Tj.setTop (mkF m 10 #[.val (.ref a0), .val (.int p1), .val (.int (0 : Int32)), .val (.int (15 : Int32)), .val (.int (p1.toInt8.toInt32)), .val (.int (Int32.ofNat i))] [(.int (15 : Int32)), (.int (Int32.ofNat i))])) t
        refine XS.icmpNo Xj.here hx rfl (hb hby d25_10) rfl (tlt hc2).2.1 ?_
        refine XS.aloadN Xj.here hx rfl (hb hby d25_13) rfl rfl ?_
        refine XS.iload Xj.here hx rfl (hb hby d25_14) rfl ?_
        exact k
      have cq3 := V_a
      obtain ⟨clq3, Arq3, qq3, Sq3, Nq3, Hq3, Gq3⟩ := cq3
      have hinq3 := inb_of (j := (Int32.ofNat i)) Sq3 ⟨own_ofge0 (by omega), own_ofltN hi (by decide)⟩
      refine OwnGo.of (Xj.baloadBytes hx (j := (Int32.ofNat i)) (v := (.int (own_SY.getD i 0))) (by rw [ej]; exact Arq3.1) (State.isArrayOf_alike hZ.alike Arq3.2.1) Arq3.2.2 hinq3 (Hq3.at hinq3 (own_mpat hi (by decide))) (g := (mkF m 16 #[.val (.ref a0), .val (.int p1), .val (.int (0 : Int32)), .val (.int (15 : Int32)), .val (.int (p1.toInt8.toInt32)), .val (.int (Int32.ofNat i))] [(.int (Int32.ofNat i)), (.ref a0)])) rfl rfl (hb hby d25_16)) ?_
      show OwnGo p.tables e below _ (Tj.setTop (mkF m 17 #[.val (.ref a0), .val (.int p1), .val (.int (0 : Int32)), .val (.int (15 : Int32)), .val (.int (p1.toInt8.toInt32)), .val (.int (Int32.ofNat i))] [(.int (own_SY.getD i 0))]))
      refine OwnGo.of (B := Tj.setTop (mkF m 19 #[.val (.ref a0), .val (.int p1), .val (.int (0 : Int32)), .val (.int (15 : Int32)), .val (.int (p1.toInt8.toInt32)), .val (.int (Int32.ofNat i))] [(.int (p1.toInt8.toInt32)), (.int (own_SY.getD i 0))])) (fun t k => ?_) ?_
      · show Steps p.tables e below (Tj.setTop (mkF m 17 #[.val (.ref a0), .val (.int p1), .val (.int (0 : Int32)), .val (.int (15 : Int32)), .val (.int (p1.toInt8.toInt32)), .val (.int (Int32.ofNat i))] [(.int (own_SY.getD i 0))])) t
        refine XS.iload Xj.here hx rfl (hb hby d25_17) rfl ?_
        exact k
      by_cases hc4 : (own_SY.getD i 0) = (p1.toInt8.toInt32)
      · refine OwnGo.of (B := Tj.setTop (mkF m 24 #[.val (.ref a0), .val (.int p1), .val (.int (0 : Int32)), .val (.int (15 : Int32)), .val (.int (p1.toInt8.toInt32)), .val (.int (Int32.ofNat i))] [(.int (Int32.ofNat i))])) (fun t k => ?_) ?_
        · show Steps p.tables e below (Tj.setTop (mkF m 19 #[.val (.ref a0), .val (.int p1), .val (.int (0 : Int32)), .val (.int (15 : Int32)), .val (.int (p1.toInt8.toInt32)), .val (.int (Int32.ofNat i))] [(.int (p1.toInt8.toInt32)), (.int (own_SY.getD i 0))])) t
          refine XS.icmpNo Xj.here hx rfl (hb hby d25_19) rfl (teq hc4).2 ?_
          refine XS.iload Xj.here hx rfl (hb hby d25_22) rfl ?_
          exact k
        obtain ⟨fs, hr, hrun, hended, hW, hsame⟩ := Xj.leave (v := some (.int (Int32.ofNat i))) (fun h => by rw [Bd.returns] at h; cases h) hlk
        refine ⟨_, _, ?_, hrun, hended, _, _, rfl, ?_, ⟨_, rfl⟩, hW, hsame.mono (by decide) (by decide)⟩
        · show Steps p.tables e below (Tj.setTop (mkF m 24 #[.val (.ref a0), .val (.int p1), .val (.int (0 : Int32)), .val (.int (15 : Int32)), .val (.int (p1.toInt8.toInt32)), .val (.int (Int32.ofNat i))] [(.int (Int32.ofNat i))])) _
          exact own_retI Xj hx Bd.returns (hb hby d25_24) hr
        · show Qrm25 Z a0 p1 kl h0 n0 _ (Tj.setFrames fs).heap _
          rw [show (Tj.setFrames fs).heap = h0 from ej]
          exact ⟨congrArg (fun z => some (Value.int z)) (own_fT hi hc4 he).symm, Nj, rfl⟩
      · refine OwnGo.of (B := Tj.setTop (mkF m 7 #[.val (.ref a0), .val (.int p1), .val (.int (0 : Int32)), .val (.int (15 : Int32)), .val (.int (p1.toInt8.toInt32)), .val (.int ((Int32.ofNat i) + (1 : Int32)))] [])) (fun t k => ?_) ?_
        · show Steps p.tables e below (Tj.setTop (mkF m 19 #[.val (.ref a0), .val (.int p1), .val (.int (0 : Int32)), .val (.int (15 : Int32)), .val (.int (p1.toInt8.toInt32)), .val (.int (Int32.ofNat i))] [(.int (p1.toInt8.toInt32)), (.int (own_SY.getD i 0))])) t
          refine XS.icmpYes Xj.here hx rfl (pc0 := 19) (pc' := 25) rfl (hb hby d25_19) rfl (feq hc4).2 (by decide) (by decide) ?_
          refine XS.iinc Xj.here hx rfl (hb hby d25_25) rfl (l' := #[.val (.ref a0), .val (.int p1), .val (.int (0 : Int32)), .val (.int (15 : Int32)), .val (.int (p1.toInt8.toInt32)), .val (.int ((Int32.ofNat i) + (1 : Int32)))]) rfl ?_
          refine XS.goto Xj.here hx rfl (pc0 := 28) (pc' := 7) rfl (hb hby d25_28) (by decide) (by decide) ?_
          exact k
        rw [own_suc]
        exact ih (i + 1) Tj _ Xj ej Nj (by omega) (own_fF hi hc4 he)
  exact loop 15 0 s₁ _ X0 e0 N0 rfl rfl
def own_can (p0 : Int32) : Int32 := (if p0 < (0 : Int32) then (0 : Int32) else (if (255 : Int32) < p0 then (0 : Int32) else (1 : Int32)))
theorem d22_0 : decode jdk_43_method_4_code 0 = .ok (.iload_n 0, 1) := by decide +kernel
theorem d22_1 : decode jdk_43_method_4_code 1 = .ok (.ifCond .lt 14, 3) := by decide +kernel
theorem d22_4 : decode jdk_43_method_4_code 4 = .ok (.iload_n 0, 1) := by decide +kernel
theorem d22_5 : decode jdk_43_method_4_code 5 = .ok (.sipush 255, 3) := by decide +kernel
theorem d22_8 : decode jdk_43_method_4_code 8 = .ok (.if_icmp .gt 7, 3) := by decide +kernel
theorem d22_11 : decode jdk_43_method_4_code 11 = .ok (.iconst 1, 1) := by decide +kernel
theorem d22_12 : decode jdk_43_method_4_code 12 = .ok (.goto 4, 3) := by decide +kernel
theorem d22_15 : decode jdk_43_method_4_code 15 = .ok (.iconst 0, 1) := by decide +kernel
theorem d22_16 : decode jdk_43_method_4_code 16 = .ok (.ireturn, 1) := by decide +kernel
theorem ef_rm22 (m : MethodId) (p0 : Int32) : entryFrame m #[(.int p0)] 1 = mkF m 0 #[.val (.int p0)] [] := by first | (simp [entryFrame, mkF, argsToLocals, Value.category]; done) | rfl
def Qrm22 (Z : State) (p0 : Int32) (h0 : Heap) (n0 : Nat) (v : Option Value) (h : Heap) (L : List Loc) : Prop := v = some (.int (own_can p0)) ∧ Fr n0 L ∧ h = h0
set_option maxRecDepth 65536 in
set_option maxHeartbeats 40000000 in
theorem rm22 (l : Launch) (Z : State) (aw : Array Value) (hw : ∀ d ∈ tables_1, d.before aw Z = true) (ws : List Jvm.Cond) (p0 : Int32) (h0 : Heap) (n0 : Nat) (Z0 : n0 ≤ h0.size) :
    MetFree l (⟨"java/lang/StringLatin1", "canEncode", "(I)Z"⟩ : MethodName) (head1 (Jvm.Cond.code (⟨"java/lang/StringLatin1", "canEncode", "(I)Z"⟩ : MethodName) jdk_43_method_4_code 1 (some .boolean) :: ws) ({ frames := 0, cells := 0, slots := 0, locals := 0 } : Room)) (fun a U => a = #[(.int p0)] ∧ Z.Warmed39 U.vm ∧ U.heap = h0) (fun _ _ _ _ _ => True) (fun _ U o U' => ∃ v L, o = .returned v ∧ Qrm22 Z p0 h0 n0 v U'.heap L ∧ FrameEnd U o U' L ({ frames := 0, cells := 0, slots := 0, locals := 0 } : Room).cells ({ frames := 0, cells := 0, slots := 0, locals := 0 } : Room).slots) := by
  refine MetFree.of_bodySF (plainFor_of_name pn_6) hisR ?_
  intro p e s m args below meth c s₁ Bd hml0 hP hK
  obtain ⟨rfl, hZ, hh⟩ := hP
  have hx := Bd.exec
  have hby := Bd.bytes
  have hml : c.maxLocals = 1 := hml0
  have hown : s.vm.findClass "java/lang/StringLatin1" = some m.cls := findClass_of_methodNamed Bd.named
  have hnm := (name_of_methodNamed Bd.named Bd.method).1
  have X0 : Stand p l e ({ frames := 0, cells := 0, slots := 0, locals := 0 } : Room) s m #[(.int p0)] below meth c s₁ [] 0 0 := Stand.of_body Bd
  have e0 : s₁.heap = h0 := by rw [← hh, Bd.state]; rfl
  have N0 := Fr.nil n0
  have hlk := Bd.notSynchronized
  show OwnGo p.tables e below _ (s₁.setTop (entryFrame m #[(.int p0)] 1))
  rw [ef_rm22 m p0]
  show OwnGo p.tables e below _ (s₁.setTop (mkF m 0 #[.val (.int p0)] []))
  refine OwnGo.of (B := s₁.setTop (mkF m 1 #[.val (.int p0)] [(.int p0)])) (fun t k => ?_) ?_
  · show Steps p.tables e below (s₁.setTop (mkF m 0 #[.val (.int p0)] [])) t
    refine XS.iloadN X0.here hx rfl (hb hby d22_0) rfl ?_
    exact k
  by_cases hc1 : p0 < (0 : Int32)
  · refine OwnGo.of (B := s₁.setTop (mkF m 16 #[.val (.int p0)] [(.int (0 : Int32))])) (fun t k => ?_) ?_
    · show Steps p.tables e below (s₁.setTop (mkF m 1 #[.val (.int p0)] [(.int p0)])) t
      refine XS.ifYes X0.here hx rfl (pc0 := 1) (pc' := 15) rfl (hb hby d22_1) rfl ((if0 _ _).trans (tlt hc1).1) (by decide) (by decide) ?_
      refine XS.iconst X0.here hx rfl (hb hby d22_15) ?_
      exact k
    obtain ⟨fs, hr, hrun, hended, hW, hsame⟩ := X0.leave (v := some (.int (nar .boolean (0 : Int32)))) (fun h => by rw [Bd.returns] at h; cases h) hlk
    refine ⟨_, _, ?_, hrun, hended, _, _, rfl, ?_, ⟨_, rfl⟩, hW, hsame.mono (by decide) (by decide)⟩
    · show Steps p.tables e below (s₁.setTop (mkF m 16 #[.val (.int p0)] [(.int (0 : Int32))])) _
      exact retN X0 hx (t := .boolean) Bd.returns (by simp) (hb hby d22_16) hr
    · show Qrm22 Z p0 h0 n0 _ (s₁.setFrames fs).heap _
      rw [show (s₁.setFrames fs).heap = h0 from e0]
      exact ⟨congrArg (fun z => some (Value.int z)) (by rw [own_can, if_pos hc1]; try rfl), N0, rfl⟩
  · refine OwnGo.of (B := s₁.setTop (mkF m 8 #[.val (.int p0)] [(.int (255 : Int32)), (.int p0)])) (fun t k => ?_) ?_
    · show Steps p.tables e below (s₁.setTop (mkF m 1 #[.val (.int p0)] [(.int p0)])) t
      refine XS.ifNo X0.here hx rfl (hb hby d22_1) rfl ((if0 _ _).trans (flt hc1).1) ?_
      refine XS.iloadN X0.here hx rfl (hb hby d22_4) rfl ?_
      refine XS.sipush X0.here hx rfl (hb hby d22_5) ?_
      exact k
    by_cases hc2 : (255 : Int32) < p0
    · refine OwnGo.of (B := s₁.setTop (mkF m 16 #[.val (.int p0)] [(.int (0 : Int32))])) (fun t k => ?_) ?_
      · show Steps p.tables e below (s₁.setTop (mkF m 8 #[.val (.int p0)] [(.int (255 : Int32)), (.int p0)])) t
        refine XS.icmpYes X0.here hx rfl (pc0 := 8) (pc' := 15) rfl (hb hby d22_8) rfl (tlt hc2).2.2.1 (by decide) (by decide) ?_
        refine XS.iconst X0.here hx rfl (hb hby d22_15) ?_
        exact k
      obtain ⟨fs, hr, hrun, hended, hW, hsame⟩ := X0.leave (v := some (.int (nar .boolean (0 : Int32)))) (fun h => by rw [Bd.returns] at h; cases h) hlk
      refine ⟨_, _, ?_, hrun, hended, _, _, rfl, ?_, ⟨_, rfl⟩, hW, hsame.mono (by decide) (by decide)⟩
      · show Steps p.tables e below (s₁.setTop (mkF m 16 #[.val (.int p0)] [(.int (0 : Int32))])) _
        exact retN X0 hx (t := .boolean) Bd.returns (by simp) (hb hby d22_16) hr
      · show Qrm22 Z p0 h0 n0 _ (s₁.setFrames fs).heap _
        rw [show (s₁.setFrames fs).heap = h0 from e0]
        exact ⟨congrArg (fun z => some (Value.int z)) (by rw [own_can, if_neg hc1, if_pos hc2]; try rfl), N0, rfl⟩
    · refine OwnGo.of (B := s₁.setTop (mkF m 16 #[.val (.int p0)] [(.int (1 : Int32))])) (fun t k => ?_) ?_
      · show Steps p.tables e below (s₁.setTop (mkF m 8 #[.val (.int p0)] [(.int (255 : Int32)), (.int p0)])) t
        refine XS.icmpNo X0.here hx rfl (hb hby d22_8) rfl (flt hc2).2.2.1 ?_
        refine XS.iconst X0.here hx rfl (hb hby d22_11) ?_
        refine XS.goto X0.here hx rfl (pc0 := 12) (pc' := 16) rfl (hb hby d22_12) (by decide) (by decide) ?_
        exact k
      obtain ⟨fs, hr, hrun, hended, hW, hsame⟩ := X0.leave (v := some (.int (nar .boolean (1 : Int32)))) (fun h => by rw [Bd.returns] at h; cases h) hlk
      refine ⟨_, _, ?_, hrun, hended, _, _, rfl, ?_, ⟨_, rfl⟩, hW, hsame.mono (by decide) (by decide)⟩
      · show Steps p.tables e below (s₁.setTop (mkF m 16 #[.val (.int p0)] [(.int (1 : Int32))])) _
        exact retN X0 hx (t := .boolean) Bd.returns (by simp) (hb hby d22_16) hr
      · show Qrm22 Z p0 h0 n0 _ (s₁.setFrames fs).heap _
        rw [show (s₁.setFrames fs).heap = h0 from e0]
        exact ⟨congrArg (fun z => some (Value.int z)) (by rw [own_can, if_neg hc1, if_neg hc2]; try rfl), N0, rfl⟩
theorem d23_0 : decode jdk_29_method_65_code 0 = .ok (.iload_n 0, 1) := by decide +kernel
theorem d23_1 : decode jdk_29_method_65_code 1 = .ok (.iload_n 1, 1) := by decide +kernel
theorem d23_2 : decode jdk_29_method_65_code 2 = .ok (.if_icmp .lt 7, 3) := by decide +kernel
theorem d23_5 : decode jdk_29_method_65_code 5 = .ok (.iload_n 0, 1) := by decide +kernel
theorem d23_6 : decode jdk_29_method_65_code 6 = .ok (.goto 4, 3) := by decide +kernel
theorem d23_10 : decode jdk_29_method_65_code 10 = .ok (.ireturn, 1) := by decide +kernel
theorem ef_rm23 (m : MethodId)  : entryFrame m #[(.int (0 : Int32)), (.int (0 : Int32))] 2 = mkF m 0 #[.val (.int (0 : Int32)), .val (.int (0 : Int32))] [] := by first | (simp [entryFrame, mkF, argsToLocals, Value.category]; done) | rfl
def Qrm23 (Z : State)  (h0 : Heap) (n0 : Nat) (v : Option Value) (h : Heap) (L : List Loc) : Prop := v = some (.int (0 : Int32)) ∧ Fr n0 L ∧ h = h0
set_option maxRecDepth 65536 in
set_option maxHeartbeats 40000000 in
theorem rm23 (l : Launch) (Z : State) (aw : Array Value) (hw : ∀ d ∈ tables_1, d.before aw Z = true) (ws : List Jvm.Cond)  (h0 : Heap) (n0 : Nat) (Z0 : n0 ≤ h0.size) :
    MetFree l (⟨"java/lang/Math", "max", "(II)I"⟩ : MethodName) (head1 (Jvm.Cond.code (⟨"java/lang/Math", "max", "(II)I"⟩ : MethodName) jdk_29_method_65_code 2 (some .int) :: ws) ({ frames := 0, cells := 0, slots := 0, locals := 0 } : Room)) (fun a U => a = #[(.int (0 : Int32)), (.int (0 : Int32))] ∧ Z.Warmed39 U.vm ∧ U.heap = h0) (fun _ _ _ _ _ => True) (fun _ U o U' => ∃ v L, o = .returned v ∧ Qrm23 Z  h0 n0 v U'.heap L ∧ FrameEnd U o U' L ({ frames := 0, cells := 0, slots := 0, locals := 0 } : Room).cells ({ frames := 0, cells := 0, slots := 0, locals := 0 } : Room).slots) := by
  refine MetFree.of_bodySF (Jvm.Free.JP.mathPlain rfl (by decide)) hisR ?_
  intro p e s m args below meth c s₁ Bd hml0 hP hK
  obtain ⟨rfl, hZ, hh⟩ := hP
  have hx := Bd.exec
  have hby := Bd.bytes
  have hml : c.maxLocals = 2 := hml0
  have hown : s.vm.findClass "java/lang/Math" = some m.cls := findClass_of_methodNamed Bd.named
  have hnm := (name_of_methodNamed Bd.named Bd.method).1
  have X0 : Stand p l e ({ frames := 0, cells := 0, slots := 0, locals := 0 } : Room) s m #[(.int (0 : Int32)), (.int (0 : Int32))] below meth c s₁ [] 0 0 := Stand.of_body Bd
  have e0 : s₁.heap = h0 := by rw [← hh, Bd.state]; rfl
  have N0 := Fr.nil n0
  have hlk := Bd.notSynchronized
  show OwnGo p.tables e below _ (s₁.setTop (entryFrame m #[(.int (0 : Int32)), (.int (0 : Int32))] 2))
  rw [ef_rm23 m ]
  show OwnGo p.tables e below _ (s₁.setTop (mkF m 0 #[.val (.int (0 : Int32)), .val (.int (0 : Int32))] []))
  refine OwnGo.of (B := s₁.setTop (mkF m 2 #[.val (.int (0 : Int32)), .val (.int (0 : Int32))] [(.int (0 : Int32)), (.int (0 : Int32))])) (fun t k => ?_) ?_
  · show Steps p.tables e below (s₁.setTop (mkF m 0 #[.val (.int (0 : Int32)), .val (.int (0 : Int32))] [])) t
    refine XS.iloadN X0.here hx rfl (hb hby d23_0) rfl ?_
    refine XS.iloadN X0.here hx rfl (hb hby d23_1) rfl ?_
    exact k
  have hc1 : ¬ ((0 : Int32) < (0 : Int32)) := by decide
  refine OwnGo.of (B := s₁.setTop (mkF m 10 #[.val (.int (0 : Int32)), .val (.int (0 : Int32))] [(.int (0 : Int32))])) (fun t k => ?_) ?_
  · show Steps p.tables e below (s₁.setTop (mkF m 2 #[.val (.int (0 : Int32)), .val (.int (0 : Int32))] [(.int (0 : Int32)), (.int (0 : Int32))])) t
    refine XS.icmpNo X0.here hx rfl (hb hby d23_2) rfl (flt hc1).1 ?_
    refine XS.iloadN X0.here hx rfl (hb hby d23_5) rfl ?_
    refine XS.goto X0.here hx rfl (pc0 := 6) (pc' := 10) rfl (hb hby d23_6) (by decide) (by decide) ?_
    exact k
  obtain ⟨fs, hr, hrun, hended, hW, hsame⟩ := X0.leave (v := some (.int (0 : Int32))) (fun h => by rw [Bd.returns] at h; cases h) hlk
  refine ⟨_, _, ?_, hrun, hended, _, _, rfl, ?_, ⟨_, rfl⟩, hW, hsame.mono (by decide) (by decide)⟩
  · show Steps p.tables e below (s₁.setTop (mkF m 10 #[.val (.int (0 : Int32)), .val (.int (0 : Int32))] [(.int (0 : Int32))])) _
    exact own_retI X0 hx Bd.returns (hb hby d23_10) hr
  · show Qrm23 Z  h0 n0 _ (s₁.setFrames fs).heap _
    rw [show (s₁.setFrames fs).heap = h0 from e0]
    exact ⟨rfl, N0, rfl⟩
theorem d24_0 : decode jdk_29_method_69_code 0 = .ok (.iload_n 0, 1) := by decide +kernel
theorem d24_1 : decode jdk_29_method_69_code 1 = .ok (.iload_n 1, 1) := by decide +kernel
theorem d24_2 : decode jdk_29_method_69_code 2 = .ok (.if_icmp .gt 7, 3) := by decide +kernel
theorem d24_5 : decode jdk_29_method_69_code 5 = .ok (.iload_n 0, 1) := by decide +kernel
theorem d24_6 : decode jdk_29_method_69_code 6 = .ok (.goto 4, 3) := by decide +kernel
theorem d24_10 : decode jdk_29_method_69_code 10 = .ok (.ireturn, 1) := by decide +kernel
theorem ef_rm24 (m : MethodId)  : entryFrame m #[(.int (15 : Int32)), (.int (15 : Int32))] 2 = mkF m 0 #[.val (.int (15 : Int32)), .val (.int (15 : Int32))] [] := by first | (simp [entryFrame, mkF, argsToLocals, Value.category]; done) | rfl
def Qrm24 (Z : State)  (h0 : Heap) (n0 : Nat) (v : Option Value) (h : Heap) (L : List Loc) : Prop := v = some (.int (15 : Int32)) ∧ Fr n0 L ∧ h = h0
set_option maxRecDepth 65536 in
set_option maxHeartbeats 40000000 in
theorem rm24 (l : Launch) (Z : State) (aw : Array Value) (hw : ∀ d ∈ tables_1, d.before aw Z = true) (ws : List Jvm.Cond)  (h0 : Heap) (n0 : Nat) (Z0 : n0 ≤ h0.size) :
    MetFree l (⟨"java/lang/Math", "min", "(II)I"⟩ : MethodName) (head1 (Jvm.Cond.code (⟨"java/lang/Math", "min", "(II)I"⟩ : MethodName) jdk_29_method_69_code 2 (some .int) :: ws) ({ frames := 0, cells := 0, slots := 0, locals := 0 } : Room)) (fun a U => a = #[(.int (15 : Int32)), (.int (15 : Int32))] ∧ Z.Warmed39 U.vm ∧ U.heap = h0) (fun _ _ _ _ _ => True) (fun _ U o U' => ∃ v L, o = .returned v ∧ Qrm24 Z  h0 n0 v U'.heap L ∧ FrameEnd U o U' L ({ frames := 0, cells := 0, slots := 0, locals := 0 } : Room).cells ({ frames := 0, cells := 0, slots := 0, locals := 0 } : Room).slots) := by
  refine MetFree.of_bodySF (Jvm.Free.JP.mathPlain rfl (by decide)) hisR ?_
  intro p e s m args below meth c s₁ Bd hml0 hP hK
  obtain ⟨rfl, hZ, hh⟩ := hP
  have hx := Bd.exec
  have hby := Bd.bytes
  have hml : c.maxLocals = 2 := hml0
  have hown : s.vm.findClass "java/lang/Math" = some m.cls := findClass_of_methodNamed Bd.named
  have hnm := (name_of_methodNamed Bd.named Bd.method).1
  have X0 : Stand p l e ({ frames := 0, cells := 0, slots := 0, locals := 0 } : Room) s m #[(.int (15 : Int32)), (.int (15 : Int32))] below meth c s₁ [] 0 0 := Stand.of_body Bd
  have e0 : s₁.heap = h0 := by rw [← hh, Bd.state]; rfl
  have N0 := Fr.nil n0
  have hlk := Bd.notSynchronized
  show OwnGo p.tables e below _ (s₁.setTop (entryFrame m #[(.int (15 : Int32)), (.int (15 : Int32))] 2))
  rw [ef_rm24 m ]
  show OwnGo p.tables e below _ (s₁.setTop (mkF m 0 #[.val (.int (15 : Int32)), .val (.int (15 : Int32))] []))
  refine OwnGo.of (B := s₁.setTop (mkF m 2 #[.val (.int (15 : Int32)), .val (.int (15 : Int32))] [(.int (15 : Int32)), (.int (15 : Int32))])) (fun t k => ?_) ?_
  · show Steps p.tables e below (s₁.setTop (mkF m 0 #[.val (.int (15 : Int32)), .val (.int (15 : Int32))] [])) t
    refine XS.iloadN X0.here hx rfl (hb hby d24_0) rfl ?_
    refine XS.iloadN X0.here hx rfl (hb hby d24_1) rfl ?_
    exact k
  have hc1 : ¬ ((15 : Int32) < (15 : Int32)) := by decide
  refine OwnGo.of (B := s₁.setTop (mkF m 10 #[.val (.int (15 : Int32)), .val (.int (15 : Int32))] [(.int (15 : Int32))])) (fun t k => ?_) ?_
  · show Steps p.tables e below (s₁.setTop (mkF m 2 #[.val (.int (15 : Int32)), .val (.int (15 : Int32))] [(.int (15 : Int32)), (.int (15 : Int32))])) t
    refine XS.icmpNo X0.here hx rfl (hb hby d24_2) rfl (flt hc1).2.2.1 ?_
    refine XS.iloadN X0.here hx rfl (hb hby d24_5) rfl ?_
    refine XS.goto X0.here hx rfl (pc0 := 6) (pc' := 10) rfl (hb hby d24_6) (by decide) (by decide) ?_
    exact k
  obtain ⟨fs, hr, hrun, hended, hW, hsame⟩ := X0.leave (v := some (.int (15 : Int32))) (fun h => by rw [Bd.returns] at h; cases h) hlk
  refine ⟨_, _, ?_, hrun, hended, _, _, rfl, ?_, ⟨_, rfl⟩, hW, hsame.mono (by decide) (by decide)⟩
  · show Steps p.tables e below (s₁.setTop (mkF m 10 #[.val (.int (15 : Int32)), .val (.int (15 : Int32))] [(.int (15 : Int32))])) _
    exact own_retI X0 hx Bd.returns (hb hby d24_10) hr
  · show Qrm24 Z  h0 n0 _ (s₁.setFrames fs).heap _
    rw [show (s₁.setFrames fs).heap = h0 from e0]
    exact ⟨rfl, N0, rfl⟩
def own_ixf (c : Int32) : Int32 := if own_can c = (0 : Int32) then -1 else own_ix c
theorem w100 {Z aw} (hw : OwnHW aw Z) : Cond.before (Jvm.Cond.methodLink "java/lang/StringLatin1" (88 : Nat) ({ cls := "java/lang/StringLatin1", name := "canEncode", desc := "(I)Z" } : Jvm.MethodName)) aw Z = true := hw _ (List.mem_of_getElem? (i := 100) rfl)
theorem w102 {Z aw} (hw : OwnHW aw Z) : Cond.before (Jvm.Cond.code ({ cls := "java/lang/StringLatin1", name := "canEncode", desc := "(I)Z" } : Jvm.MethodName) jdk_43_method_4_code (1 : Nat) (Option.some Jvm.ClassFile.FieldType.boolean)) aw Z = true := hw _ (List.mem_of_getElem? (i := 102) rfl)
theorem w72 {Z aw} (hw : OwnHW aw Z) : Cond.before (Jvm.Cond.initialized "java/lang/StringLatin1") aw Z = true := hw _ (List.mem_of_getElem? (i := 72) rfl)
theorem pd_10 : parseMethodDescriptor "(I)Z" = some ⟨[.int], some .boolean⟩ := by decide +kernel
theorem w101 {Z aw} (hw : OwnHW aw Z) : Cond.before (Jvm.Cond.static ({ cls := "java/lang/StringLatin1", name := "canEncode", desc := "(I)Z" } : Jvm.MethodName)) aw Z = true := hw _ (List.mem_of_getElem? (i := 101) rfl)
theorem w103 {Z aw} (hw : OwnHW aw Z) : Cond.before (Jvm.Cond.methodLink "java/lang/StringLatin1" (92 : Nat) ({ cls := "java/lang/Math", name := "max", desc := "(II)I" } : Jvm.MethodName)) aw Z = true := hw _ (List.mem_of_getElem? (i := 103) rfl)
theorem w106 {Z aw} (hw : OwnHW aw Z) : Cond.before (Jvm.Cond.code ({ cls := "java/lang/Math", name := "max", desc := "(II)I" } : Jvm.MethodName) jdk_29_method_65_code (2 : Nat) (Option.some Jvm.ClassFile.FieldType.int)) aw Z = true := hw _ (List.mem_of_getElem? (i := 106) rfl)
theorem w105 {Z aw} (hw : OwnHW aw Z) : Cond.before (Jvm.Cond.initialized "java/lang/Math") aw Z = true := hw _ (List.mem_of_getElem? (i := 105) rfl)
theorem pd_15 : parseMethodDescriptor "(II)I" = some ⟨[.int, .int], some .int⟩ := by decide +kernel
theorem w104 {Z aw} (hw : OwnHW aw Z) : Cond.before (Jvm.Cond.static ({ cls := "java/lang/Math", name := "max", desc := "(II)I" } : Jvm.MethodName)) aw Z = true := hw _ (List.mem_of_getElem? (i := 104) rfl)
theorem w107 {Z aw} (hw : OwnHW aw Z) : Cond.before (Jvm.Cond.methodLink "java/lang/StringLatin1" (38 : Nat) ({ cls := "java/lang/Math", name := "min", desc := "(II)I" } : Jvm.MethodName)) aw Z = true := hw _ (List.mem_of_getElem? (i := 107) rfl)
theorem w109 {Z aw} (hw : OwnHW aw Z) : Cond.before (Jvm.Cond.code ({ cls := "java/lang/Math", name := "min", desc := "(II)I" } : Jvm.MethodName) jdk_29_method_69_code (2 : Nat) (Option.some Jvm.ClassFile.FieldType.int)) aw Z = true := hw _ (List.mem_of_getElem? (i := 109) rfl)
theorem w108 {Z aw} (hw : OwnHW aw Z) : Cond.before (Jvm.Cond.static ({ cls := "java/lang/Math", name := "min", desc := "(II)I" } : Jvm.MethodName)) aw Z = true := hw _ (List.mem_of_getElem? (i := 108) rfl)
theorem w110 {Z aw} (hw : OwnHW aw Z) : Cond.before (Jvm.Cond.methodLink "java/lang/StringLatin1" (95 : Nat) ({ cls := "java/lang/StringLatin1", name := "indexOfChar", desc := "([BIII)I" } : Jvm.MethodName)) aw Z = true := hw _ (List.mem_of_getElem? (i := 110) rfl)
theorem w112 {Z aw} (hw : OwnHW aw Z) : Cond.before (Jvm.Cond.code ({ cls := "java/lang/StringLatin1", name := "indexOfChar", desc := "([BIII)I" } : Jvm.MethodName) jdk_43_method_23_code (6 : Nat) (Option.some Jvm.ClassFile.FieldType.int)) aw Z = true := hw _ (List.mem_of_getElem? (i := 112) rfl)
theorem pd_22 : parseMethodDescriptor "([BIII)I" = some ⟨[(.array .byte), .int, .int, .int], some .int⟩ := by decide +kernel
theorem w111 {Z aw} (hw : OwnHW aw Z) : Cond.before (Jvm.Cond.static ({ cls := "java/lang/StringLatin1", name := "indexOfChar", desc := "([BIII)I" } : Jvm.MethodName)) aw Z = true := hw _ (List.mem_of_getElem? (i := 111) rfl)
theorem d21_0 : decode jdk_43_method_22_code 0 = .ok (.iload_n 1, 1) := by decide +kernel
theorem d21_1 : decode jdk_43_method_22_code 1 = .ok (.invokestatic 88, 3) := by decide +kernel
theorem d21_4 : decode jdk_43_method_22_code 4 = .ok (.ifCond .ne 5, 3) := by decide +kernel
theorem d21_7 : decode jdk_43_method_22_code 7 = .ok (.iconst (-1), 1) := by decide +kernel
theorem d21_8 : decode jdk_43_method_22_code 8 = .ok (.ireturn, 1) := by decide +kernel
theorem d21_9 : decode jdk_43_method_22_code 9 = .ok (.iload_n 2, 1) := by decide +kernel
theorem d21_10 : decode jdk_43_method_22_code 10 = .ok (.iconst 0, 1) := by decide +kernel
theorem d21_11 : decode jdk_43_method_22_code 11 = .ok (.invokestatic 92, 3) := by decide +kernel
theorem d21_14 : decode jdk_43_method_22_code 14 = .ok (.istore_n 2, 1) := by decide +kernel
theorem d21_15 : decode jdk_43_method_22_code 15 = .ok (.iload_n 3, 1) := by decide +kernel
theorem d21_16 : decode jdk_43_method_22_code 16 = .ok (.aload_n 0, 1) := by decide +kernel
theorem d21_17 : decode jdk_43_method_22_code 17 = .ok (.arraylength, 1) := by decide +kernel
theorem d21_18 : decode jdk_43_method_22_code 18 = .ok (.invokestatic 38, 3) := by decide +kernel
theorem d21_21 : decode jdk_43_method_22_code 21 = .ok (.istore_n 3, 1) := by decide +kernel
theorem d21_22 : decode jdk_43_method_22_code 22 = .ok (.iload_n 2, 1) := by decide +kernel
theorem d21_23 : decode jdk_43_method_22_code 23 = .ok (.iload_n 3, 1) := by decide +kernel
theorem d21_24 : decode jdk_43_method_22_code 24 = .ok (.if_icmp .lt 5, 3) := by decide +kernel
theorem d21_29 : decode jdk_43_method_22_code 29 = .ok (.aload_n 0, 1) := by decide +kernel
theorem d21_30 : decode jdk_43_method_22_code 30 = .ok (.iload_n 1, 1) := by decide +kernel
theorem d21_31 : decode jdk_43_method_22_code 31 = .ok (.iload_n 2, 1) := by decide +kernel
theorem d21_32 : decode jdk_43_method_22_code 32 = .ok (.iload_n 3, 1) := by decide +kernel
theorem d21_33 : decode jdk_43_method_22_code 33 = .ok (.invokestatic 95, 3) := by decide +kernel
theorem d21_36 : decode jdk_43_method_22_code 36 = .ok (.ireturn, 1) := by decide +kernel
theorem ef_rm21 (m : MethodId) (a0 : Addr) (p1 : Int32) : entryFrame m #[(.ref a0), (.int p1), (.int (0 : Int32)), (.int (15 : Int32))] 4 = mkF m 0 #[.val (.ref a0), .val (.int p1), .val (.int (0 : Int32)), .val (.int (15 : Int32))] [] := by first | (simp [entryFrame, mkF, argsToLocals, Value.category]; done) | rfl
def Qrm21 (Z : State) (a0 : Addr) (p1 : Int32) (kl : ClassId) (h0 : Heap) (n0 : Nat) (v : Option Value) (h : Heap) (L : List Loc) : Prop := v = some (.int (own_ixf p1)) ∧ Fr n0 L ∧ h = h0
set_option maxRecDepth 65536 in
set_option maxHeartbeats 40000000 in
theorem rm21 (l : Launch) (Z : State) (aw : Array Value) (hw : ∀ d ∈ tables_1, d.before aw Z = true) (ws : List Jvm.Cond) (a0 : Addr) (p1 : Int32) (kl : ClassId) (h0 : Heap) (n0 : Nat) (Z0 : n0 ≤ h0.size) (V_a : Arv Z h0 a0 kl .byte (15 : Int32) (own_SY.map Value.int) (.int (0 : Int32))) :
    MetFree l (⟨"java/lang/StringLatin1", "indexOf", "([BIII)I"⟩ : MethodName) (head1 (Jvm.Cond.code (⟨"java/lang/StringLatin1", "indexOf", "([BIII)I"⟩ : MethodName) jdk_43_method_22_code 4 (some .int) :: ws) ({ frames := 1, cells := 0, slots := 0, locals := 17 } : Room)) (fun a U => a = #[(.ref a0), (.int p1), (.int (0 : Int32)), (.int (15 : Int32))] ∧ Z.Warmed39 U.vm ∧ U.heap = h0) (fun _ _ _ _ _ => True) (fun _ U o U' => ∃ v L, o = .returned v ∧ Qrm21 Z a0 p1 kl h0 n0 v U'.heap L ∧ FrameEnd U o U' L ({ frames := 1, cells := 0, slots := 0, locals := 17 } : Room).cells ({ frames := 1, cells := 0, slots := 0, locals := 17 } : Room).slots) := by
  refine MetFree.of_bodySF (plainFor_of_name pn_6) hisR ?_
  intro p e s m args below meth c s₁ Bd hml0 hP hK
  obtain ⟨rfl, hZ, hh⟩ := hP
  have hx := Bd.exec
  have hby := Bd.bytes
  have hml : c.maxLocals = 4 := hml0
  have hown : s.vm.findClass "java/lang/StringLatin1" = some m.cls := findClass_of_methodNamed Bd.named
  have hnm := (name_of_methodNamed Bd.named Bd.method).1
  have X0 : Stand p l e ({ frames := 1, cells := 0, slots := 0, locals := 17 } : Room) s m #[(.ref a0), (.int p1), (.int (0 : Int32)), (.int (15 : Int32))] below meth c s₁ [] 0 0 := Stand.of_body Bd
  have e0 : s₁.heap = h0 := by rw [← hh, Bd.state]; rfl
  have N0 := Fr.nil n0
  have hlk := Bd.notSynchronized
  show OwnGo p.tables e below _ (s₁.setTop (entryFrame m #[(.ref a0), (.int p1), (.int (0 : Int32)), (.int (15 : Int32))] 4))
  rw [ef_rm21 m a0 p1]
  show OwnGo p.tables e below _ (s₁.setTop (mkF m 0 #[.val (.ref a0), .val (.int p1), .val (.int (0 : Int32)), .val (.int (15 : Int32))] []))
  refine OwnGo.of (B := s₁.setTop (mkF m 1 #[.val (.ref a0), .val (.int p1), .val (.int (0 : Int32)), .val (.int (15 : Int32))] [(.int p1)])) (fun t k => ?_) ?_
  · show Steps p.tables e below (s₁.setTop (mkF m 0 #[.val (.ref a0), .val (.int p1), .val (.int (0 : Int32)), .val (.int (15 : Int32))] [])) t
    refine XS.iloadN X0.here hx rfl (hb hby d21_0) rfl ?_
    exact k
  obtain ⟨T1, L1, v1, X1, hQ1, st1⟩ := own_callS X0 hx (y := (⟨"java/lang/StringLatin1", "canEncode", "(I)Z"⟩ : MethodName)) hown (mvT hZ (w100 hw)) (mvT hZ (w101 hw)) (mvT hZ (w72 hw)) (mvT hZ (w102 hw)) (by decide) (backOf (W := 0) (rm22 l Z aw hw [] p1  h0 n0 Z0 ) hZ (w102 hw) (w72 hw) (by decide) (by decide)) (g := (mkF m 1 #[.val (.ref a0), .val (.int p1), .val (.int (0 : Int32)), .val (.int (15 : Int32))] [(.int p1)])) rfl (by rw [hml]; rfl) (argsL := [(.int p1)]) (rest := []) (lenOf pd_10 rfl) rfl (by show 2 * 0 + _ ≤ _; exact Nat.le_of_eq rfl) (hb hby d21_1) rfl e0 (by decide) (by decide)
  obtain ⟨rfl, N1q, eq1⟩ := hQ1
  have N1 := Fr.app N0 N1q
  refine OwnGo.of st1 ?_
  show OwnGo p.tables e below _ (T1.setTop (mkF m 4 #[.val (.ref a0), .val (.int p1), .val (.int (0 : Int32)), .val (.int (15 : Int32))] [(.int (own_can p1))]))
  by_cases hc2 : (own_can p1) = (0 : Int32)
  · refine OwnGo.of (B := T1.setTop (mkF m 8 #[.val (.ref a0), .val (.int p1), .val (.int (0 : Int32)), .val (.int (15 : Int32))] [(.int (-1 : Int32))])) (fun t k => ?_) ?_
    · show Steps p.tables e below (T1.setTop (mkF m 4 #[.val (.ref a0), .val (.int p1), .val (.int (0 : Int32)), .val (.int (15 : Int32))] [(.int (own_can p1))])) t
      refine XS.ifNo X1.here hx rfl (hb hby d21_4) rfl ((if0 _ _).trans (teq hc2).2) ?_
      refine XS.iconst X1.here hx rfl (hb hby d21_7) ?_
      exact k
    obtain ⟨fs, hr, hrun, hended, hW, hsame⟩ := X1.leave (v := some (.int (-1 : Int32))) (fun h => by rw [Bd.returns] at h; cases h) hlk
    refine ⟨_, _, ?_, hrun, hended, _, _, rfl, ?_, ⟨_, rfl⟩, hW, hsame.mono (by decide) (by decide)⟩
    · show Steps p.tables e below (T1.setTop (mkF m 8 #[.val (.ref a0), .val (.int p1), .val (.int (0 : Int32)), .val (.int (15 : Int32))] [(.int (-1 : Int32))])) _
      exact own_retI X1 hx Bd.returns (hb hby d21_8) hr
    · show Qrm21 Z a0 p1 kl h0 n0 _ (T1.setFrames fs).heap _
      rw [show (T1.setFrames fs).heap = h0 from eq1]
      exact ⟨congrArg (fun z => some (Value.int z)) (by rw [own_ixf, if_pos hc2]), N1, rfl⟩
  · refine OwnGo.of (B := T1.setTop (mkF m 11 #[.val (.ref a0), .val (.int p1), .val (.int (0 : Int32)), .val (.int (15 : Int32))] [(.int (0 : Int32)), (.int (0 : Int32))])) (fun t k => ?_) ?_
    · show Steps p.tables e below (T1.setTop (mkF m 4 #[.val (.ref a0), .val (.int p1), .val (.int (0 : Int32)), .val (.int (15 : Int32))] [(.int (own_can p1))])) t
      refine XS.ifYes X1.here hx rfl (pc0 := 4) (pc' := 9) rfl (hb hby d21_4) rfl ((if0 _ _).trans (feq hc2).2) (by decide) (by decide) ?_
      refine XS.iloadN X1.here hx rfl (hb hby d21_9) rfl ?_
      refine XS.iconst X1.here hx rfl (hb hby d21_10) ?_
      exact k
    obtain ⟨T3, L3, v3, X3, hQ3, st3⟩ := own_callS X1 hx (y := (⟨"java/lang/Math", "max", "(II)I"⟩ : MethodName)) hown (mvT hZ (w103 hw)) (mvT hZ (w104 hw)) (mvT hZ (w105 hw)) (mvT hZ (w106 hw)) (by decide) (backOf (W := 0) (rm23 l Z aw hw []   h0 n0 Z0 ) hZ (w106 hw) (w105 hw) (by decide) (by decide)) (g := (mkF m 11 #[.val (.ref a0), .val (.int p1), .val (.int (0 : Int32)), .val (.int (15 : Int32))] [(.int (0 : Int32)), (.int (0 : Int32))])) rfl (by rw [hml]; rfl) (argsL := [(.int (0 : Int32)), (.int (0 : Int32))]) (rest := []) (lenOf pd_15 rfl) rfl (by show 2 * 0 + _ ≤ _; exact Nat.le_of_eq rfl) (hb hby d21_11) rfl eq1 (by decide) (by decide)
    obtain ⟨rfl, N3q, eq3⟩ := hQ3
    have N3 := Fr.app N1 N3q
    refine OwnGo.of st3 ?_
    show OwnGo p.tables e below _ (T3.setTop (mkF m 14 #[.val (.ref a0), .val (.int p1), .val (.int (0 : Int32)), .val (.int (15 : Int32))] [(.int (0 : Int32))]))
    refine OwnGo.of (B := T3.setTop (mkF m 17 #[.val (.ref a0), .val (.int p1), .val (.int (0 : Int32)), .val (.int (15 : Int32))] [(.ref a0), (.int (15 : Int32))])) (fun t k => ?_) ?_
    · show Steps p.tables e below (T3.setTop (mkF m 14 #[.val (.ref a0), .val (.int p1), .val (.int (0 : Int32)), .val (.int (15 : Int32))] [(.int (0 : Int32))])) t
      refine XS.istoreN X3.here hx rfl (hb hby d21_14) rfl (l' := #[.val (.ref a0), .val (.int p1), .val (.int (0 : Int32)), .val (.int (15 : Int32))]) rfl ?_
      refine XS.iloadN X3.here hx rfl (hb hby d21_15) rfl ?_
      refine XS.aloadN X3.here hx rfl (hb hby d21_16) rfl rfl ?_
      exact k
    have cq4 := V_a
    obtain ⟨clq4, Arq4, qq4, Sq4, Nq4, Hq4, Gq4⟩ := cq4
    refine OwnGo.of (X3.arraylength hx (by rw [eq3]; exact Arq4.1) (State.isArrayOf_alike hZ.alike Arq4.2.1) (g := (mkF m 17 #[.val (.ref a0), .val (.int p1), .val (.int (0 : Int32)), .val (.int (15 : Int32))] [(.ref a0), (.int (15 : Int32))])) rfl rfl (hb hby d21_17)) ?_
    rw [len_of Sq4 Nq4]
    show OwnGo p.tables e below _ (T3.setTop (mkF m 18 #[.val (.ref a0), .val (.int p1), .val (.int (0 : Int32)), .val (.int (15 : Int32))] [(.int (15 : Int32)), (.int (15 : Int32))]))
    obtain ⟨T5, L5, v5, X5, hQ5, st5⟩ := own_callS X3 hx (y := (⟨"java/lang/Math", "min", "(II)I"⟩ : MethodName)) hown (mvT hZ (w107 hw)) (mvT hZ (w108 hw)) (mvT hZ (w105 hw)) (mvT hZ (w109 hw)) (by decide) (backOf (W := 0) (rm24 l Z aw hw []   h0 n0 Z0 ) hZ (w109 hw) (w105 hw) (by decide) (by decide)) (g := (mkF m 18 #[.val (.ref a0), .val (.int p1), .val (.int (0 : Int32)), .val (.int (15 : Int32))] [(.int (15 : Int32)), (.int (15 : Int32))])) rfl (by rw [hml]; rfl) (argsL := [(.int (15 : Int32)), (.int (15 : Int32))]) (rest := []) (lenOf pd_15 rfl) rfl (by show 2 * 0 + _ ≤ _; exact Nat.le_of_eq rfl) (hb hby d21_18) rfl eq3 (by decide) (by decide)
    obtain ⟨rfl, N5q, eq5⟩ := hQ5
    have N5 := Fr.app N3 N5q
    refine OwnGo.of st5 ?_
    show OwnGo p.tables e below _ (T5.setTop (mkF m 21 #[.val (.ref a0), .val (.int p1), .val (.int (0 : Int32)), .val (.int (15 : Int32))] [(.int (15 : Int32))]))
    refine OwnGo.of (B := T5.setTop (mkF m 24 #[.val (.ref a0), .val (.int p1), .val (.int (0 : Int32)), .val (.int (15 : Int32))] [(.int (15 : Int32)), (.int (0 : Int32))])) (fun t k => ?_) ?_
    · show Steps p.tables e below (T5.setTop (mkF m 21 #[.val (.ref a0), .val (.int p1), .val (.int (0 : Int32)), .val (.int (15 : Int32))] [(.int (15 : Int32))])) t
      refine XS.istoreN X5.here hx rfl (hb hby d21_21) rfl (l' := #[.val (.ref a0), .val (.int p1), .val (.int (0 : Int32)), .val (.int (15 : Int32))]) rfl ?_
      refine XS.iloadN X5.here hx rfl (hb hby d21_22) rfl ?_
      refine XS.iloadN X5.here hx rfl (hb hby d21_23) rfl ?_
      exact k
    have hc6 : (0 : Int32) < (15 : Int32) := by decide
    refine OwnGo.of (B := T5.setTop (mkF m 33 #[.val (.ref a0), .val (.int p1), .val (.int (0 : Int32)), .val (.int (15 : Int32))] [(.int (15 : Int32)), (.int (0 : Int32)), (.int p1), (.ref a0)])) (fun t k => ?_) ?_
    · show Steps p.tables e below (T5.setTop (mkF m 24 #[.val (.ref a0), .val (.int p1), .val (.int (0 : Int32)), .val (.int (15 : Int32))] [(.int (15 : Int32)), (.int (0 : Int32))])) t
      refine XS.icmpYes X5.here hx rfl (pc0 := 24) (pc' := 29) rfl (hb hby d21_24) rfl (tlt hc6).1 (by decide) (by decide) ?_
      refine XS.aloadN X5.here hx rfl (hb hby d21_29) rfl rfl ?_
      refine XS.iloadN X5.here hx rfl (hb hby d21_30) rfl ?_
      refine XS.iloadN X5.here hx rfl (hb hby d21_31) rfl ?_
      refine XS.iloadN X5.here hx rfl (hb hby d21_32) rfl ?_
      exact k
    obtain ⟨T7, L7, v7, X7, hQ7, st7⟩ := own_callS X5 hx (y := (⟨"java/lang/StringLatin1", "indexOfChar", "([BIII)I"⟩ : MethodName)) hown (mvT hZ (w110 hw)) (mvT hZ (w111 hw)) (mvT hZ (w72 hw)) (mvT hZ (w112 hw)) (by decide) (backOf (W := 0) (rm25 l Z aw hw [] a0 p1 kl h0 n0 Z0 V_a) hZ (w112 hw) (w72 hw) (by decide) (by decide)) (g := (mkF m 33 #[.val (.ref a0), .val (.int p1), .val (.int (0 : Int32)), .val (.int (15 : Int32))] [(.int (15 : Int32)), (.int (0 : Int32)), (.int p1), (.ref a0)])) rfl (by rw [hml]; rfl) (argsL := [(.ref a0), (.int p1), (.int (0 : Int32)), (.int (15 : Int32))]) (rest := []) (lenOf pd_22 rfl) rfl (by show 2 * 0 + _ ≤ _; exact Nat.le_of_eq rfl) (hb hby d21_33) rfl eq5 (by decide) (by decide)
    obtain ⟨rfl, N7q, eq7⟩ := hQ7
    have N7 := Fr.app N5 N7q
    refine OwnGo.of st7 ?_
    show OwnGo p.tables e below _ (T7.setTop (mkF m 36 #[.val (.ref a0), .val (.int p1), .val (.int (0 : Int32)), .val (.int (15 : Int32))] [(.int (own_ix p1))]))
    obtain ⟨fs, hr, hrun, hended, hW, hsame⟩ := X7.leave (v := some (.int (own_ix p1))) (fun h => by rw [Bd.returns] at h; cases h) hlk
    refine ⟨_, _, ?_, hrun, hended, _, _, rfl, ?_, ⟨_, rfl⟩, hW, hsame.mono (by decide) (by decide)⟩
    · show Steps p.tables e below (T7.setTop (mkF m 36 #[.val (.ref a0), .val (.int p1), .val (.int (0 : Int32)), .val (.int (15 : Int32))] [(.int (own_ix p1))])) _
      exact own_retI X7 hx Bd.returns (hb hby d21_36) hr
    · show Qrm21 Z a0 p1 kl h0 n0 _ (T7.setFrames fs).heap _
      rw [show (T7.setFrames fs).heap = h0 from eq7]
      exact ⟨congrArg (fun z => some (Value.int z)) (by rw [own_ixf, if_neg hc2]), N7, rfl⟩
theorem w39 {Z aw} (hw : OwnHW aw Z) : Cond.before (Jvm.Cond.fieldLink "java/lang/String" (38 : Nat) "java/lang/String" "COMPACT_STRINGS" "Z") aw Z = true := hw _ (List.mem_of_getElem? (i := 39) rfl)
theorem w26 {Z aw} (hw : OwnHW aw Z) : Cond.before (Jvm.Cond.fieldLink "java/lang/String" (15 : Nat) "java/lang/String" "coder" "B") aw Z = true := hw _ (List.mem_of_getElem? (i := 26) rfl)
theorem pn_26 : plainName "java/lang/String" = true := by first | (simp [plainName, overriddenIn]; done) | decide +kernel
theorem d14_0 : decode jdk_42_method_154_code 0 = .ok (.getstatic 38, 3) := by decide +kernel
theorem d14_3 : decode jdk_42_method_154_code 3 = .ok (.ifCond .eq 14, 3) := by decide +kernel
theorem d14_6 : decode jdk_42_method_154_code 6 = .ok (.aload_n 0, 1) := by decide +kernel
theorem d14_7 : decode jdk_42_method_154_code 7 = .ok (.getfield 15, 3) := by decide +kernel
theorem d14_10 : decode jdk_42_method_154_code 10 = .ok (.ifCond .ne 7, 3) := by decide +kernel
theorem d14_13 : decode jdk_42_method_154_code 13 = .ok (.iconst 1, 1) := by decide +kernel
theorem d14_14 : decode jdk_42_method_154_code 14 = .ok (.goto 4, 3) := by decide +kernel
theorem d14_18 : decode jdk_42_method_154_code 18 = .ok (.ireturn, 1) := by decide +kernel
theorem ef_rm14 (m : MethodId) (a0 : Addr) : entryFrame m #[(.ref a0)] 1 = mkF m 0 #[.val (.ref a0)] [] := by first | (simp [entryFrame, mkF, argsToLocals, Value.category]; done) | rfl
def Qrm14 (Z : State) (a0 : Addr) (zc : Int32) (h0 : Heap) (n0 : Nat) (v : Option Value) (h : Heap) (L : List Loc) : Prop := v = some (.int (1 : Int32)) ∧ Fr n0 L ∧ h = h0
set_option maxRecDepth 65536 in
set_option maxHeartbeats 40000000 in
theorem rm14 (l : Launch) (Z : State) (aw : Array Value) (hw : ∀ d ∈ tables_1, d.before aw Z = true) (ws : List Jvm.Cond) (a0 : Addr) (zc : Int32) (h0 : Heap) (n0 : Nat) (Z0 : n0 ≤ h0.size) (E_a0 : Exa Z h0 a0 "java/lang/String") (F_a0_coder : Fld Z h0 a0 "java/lang/String" "coder" "B" (.int (0 : Int32))) (S_COMPACT_STRINGS : Sta Z h0 "java/lang/String" "COMPACT_STRINGS" "Z" (.int zc)) (hzc : ¬ zc = 0) :
    MetFree l (⟨"java/lang/String", "isLatin1", "()Z"⟩ : MethodName) (head1 (Jvm.Cond.code (⟨"java/lang/String", "isLatin1", "()Z"⟩ : MethodName) jdk_42_method_154_code 1 (some .boolean) :: ws) ({ frames := 0, cells := 0, slots := 0, locals := 0 } : Room)) (fun a U => a = #[(.ref a0)] ∧ Z.Warmed39 U.vm ∧ U.heap = h0) (fun _ _ _ _ _ => True) (fun _ U o U' => ∃ v L, o = .returned v ∧ Qrm14 Z a0 zc h0 n0 v U'.heap L ∧ FrameEnd U o U' L ({ frames := 0, cells := 0, slots := 0, locals := 0 } : Room).cells ({ frames := 0, cells := 0, slots := 0, locals := 0 } : Room).slots) := by
  refine MetFree.of_bodySF (plainFor_of_name pn_26) hisR ?_
  intro p e s m args below meth c s₁ Bd hml0 hP hK
  obtain ⟨rfl, hZ, hh⟩ := hP
  have hx := Bd.exec
  have hby := Bd.bytes
  have hml : c.maxLocals = 1 := hml0
  have hown : s.vm.findClass "java/lang/String" = some m.cls := findClass_of_methodNamed Bd.named
  have hnm := (name_of_methodNamed Bd.named Bd.method).1
  have X0 : Stand p l e ({ frames := 0, cells := 0, slots := 0, locals := 0 } : Room) s m #[(.ref a0)] below meth c s₁ [] 0 0 := Stand.of_body Bd
  have e0 : s₁.heap = h0 := by rw [← hh, Bd.state]; rfl
  have N0 := Fr.nil n0
  have hlk := Bd.notSynchronized
  show OwnGo p.tables e below _ (s₁.setTop (entryFrame m #[(.ref a0)] 1))
  rw [ef_rm14 m a0]
  show OwnGo p.tables e below _ (s₁.setTop (mkF m 0 #[.val (.ref a0)] []))
  obtain ⟨T1, X1, e1, st1⟩ := getS2 X0 hx hZ hown (host := "") (Or.inl (w39 hw)) Via.refl e0 S_COMPACT_STRINGS (g := (mkF m 0 #[.val (.ref a0)] [])) rfl (hb hby d14_0)
  refine OwnGo.of st1 ?_
  show OwnGo p.tables e below _ (T1.setTop (mkF m 3 #[.val (.ref a0)] [(.int zc)]))
  have hc2 : ¬ (zc = (0 : Int32)) := hzc
  refine OwnGo.of (B := T1.setTop (mkF m 7 #[.val (.ref a0)] [(.ref a0)])) (fun t k => ?_) ?_
  · show Steps p.tables e below (T1.setTop (mkF m 3 #[.val (.ref a0)] [(.int zc)])) t
    refine XS.ifNo X1.here hx rfl (hb hby d14_3) rfl ((if0 _ _).trans (feq hc2).1) ?_
    refine XS.aloadN X1.here hx rfl (hb hby d14_6) rfl rfl ?_
    exact k
  obtain ⟨T3, X3, e3, st3⟩ := getF X1 hx hZ hown (host := "") (Or.inl (w26 hw)) Via.refl e1 F_a0_coder (g := (mkF m 7 #[.val (.ref a0)] [(.ref a0)])) rfl rfl (hb hby d14_7)
  refine OwnGo.of st3 ?_
  show OwnGo p.tables e below _ (T3.setTop (mkF m 10 #[.val (.ref a0)] [(.int (0 : Int32))]))
  have hc4 : (0 : Int32) = (0 : Int32) := by decide
  refine OwnGo.of (B := T3.setTop (mkF m 18 #[.val (.ref a0)] [(.int (1 : Int32))])) (fun t k => ?_) ?_
  · show Steps p.tables e below (T3.setTop (mkF m 10 #[.val (.ref a0)] [(.int (0 : Int32))])) t
    refine XS.ifNo X3.here hx rfl (hb hby d14_10) rfl ((if0 _ _).trans (teq hc4).2) ?_
    refine XS.iconst X3.here hx rfl (hb hby d14_13) ?_
    refine XS.goto X3.here hx rfl (pc0 := 14) (pc' := 18) rfl (hb hby d14_14) (by decide) (by decide) ?_
    exact k
  obtain ⟨fs, hr, hrun, hended, hW, hsame⟩ := X3.leave (v := some (.int (nar .boolean (1 : Int32)))) (fun h => by rw [Bd.returns] at h; cases h) hlk
  refine ⟨_, _, ?_, hrun, hended, _, _, rfl, ?_, ⟨_, rfl⟩, hW, hsame.mono (by decide) (by decide)⟩
  · show Steps p.tables e below (T3.setTop (mkF m 18 #[.val (.ref a0)] [(.int (1 : Int32))])) _
    exact retN X3 hx (t := .boolean) Bd.returns (by simp) (hb hby d14_18) hr
  · show Qrm14 Z a0 zc h0 n0 _ (T3.setFrames fs).heap _
    rw [show (T3.setFrames fs).heap = h0 from e3]
    exact ⟨congrArg (fun z => some (Value.int z)) (by decide), N0, rfl⟩
theorem own_codL : StrChars.Road.CodA [33, 35, 36, 37, 38, 39, 42, 43, 45, 46, 94, 95, 96, 124, 126] 0 (15 : Int32) (own_SY.map Value.int) := Or.inl ⟨rfl, rfl, rfl, by decide⟩
theorem own_upL : ∀ c ∈ ([33, 35, 36, 37, 38, 39, 42, 43, 45, 46, 94, 95, 96, 124, 126] : List Int32), ¬ c < 0 ∧ ¬ (65535 : Int32) < c := by decide
theorem w65 {Z aw} (hw : OwnHW aw Z) : Cond.before (Jvm.Cond.methodLink "java/lang/String" (492 : Nat) ({ cls := "java/lang/String", name := "isLatin1", desc := "()Z" } : Jvm.MethodName)) aw Z = true := hw _ (List.mem_of_getElem? (i := 65) rfl)
theorem w69 {Z aw} (hw : OwnHW aw Z) : Cond.before (Jvm.Cond.code ({ cls := "java/lang/String", name := "isLatin1", desc := "()Z" } : Jvm.MethodName) jdk_42_method_154_code (1 : Nat) (Option.some Jvm.ClassFile.FieldType.boolean)) aw Z = true := hw _ (List.mem_of_getElem? (i := 69) rfl)
theorem w8 {Z aw} (hw : OwnHW aw Z) : Cond.before (Jvm.Cond.initialized "java/lang/String") aw Z = true := hw _ (List.mem_of_getElem? (i := 8) rfl)
theorem pd_30 : parseMethodDescriptor "()Z" = some ⟨[], some .boolean⟩ := by decide +kernel
theorem w68 {Z aw} (hw : OwnHW aw Z) : Cond.before (Jvm.Cond.selects "java/lang/String" ({ cls := "java/lang/String", name := "isLatin1", desc := "()Z" } : Jvm.MethodName) ({ cls := "java/lang/String", name := "isLatin1", desc := "()Z" } : Jvm.MethodName)) aw Z = true := hw _ (List.mem_of_getElem? (i := 68) rfl)
theorem w66 {Z aw} (hw : OwnHW aw Z) : Cond.before (Jvm.Cond.declares ({ cls := "java/lang/String", name := "isLatin1", desc := "()Z" } : Jvm.MethodName)) aw Z = true := hw _ (List.mem_of_getElem? (i := 66) rfl)
theorem w67 {Z aw} (hw : OwnHW aw Z) : Cond.before (Jvm.Cond.instanceMethod ({ cls := "java/lang/String", name := "isLatin1", desc := "()Z" } : Jvm.MethodName)) aw Z = true := hw _ (List.mem_of_getElem? (i := 67) rfl)
theorem w25 {Z aw} (hw : OwnHW aw Z) : Cond.before (Jvm.Cond.fieldLink "java/lang/String" (9 : Nat) "java/lang/String" "value" "[B") aw Z = true := hw _ (List.mem_of_getElem? (i := 25) rfl)
theorem w96 {Z aw} (hw : OwnHW aw Z) : Cond.before (Jvm.Cond.methodLink "java/lang/String" (505 : Nat) ({ cls := "java/lang/String", name := "length", desc := "()I" } : Jvm.MethodName)) aw Z = true := hw _ (List.mem_of_getElem? (i := 96) rfl)
theorem w54 {Z aw} (hw : OwnHW aw Z) : Cond.before (Jvm.Cond.code ({ cls := "java/lang/String", name := "length", desc := "()I" } : Jvm.MethodName) jdk_42_method_54_code (1 : Nat) (Option.some Jvm.ClassFile.FieldType.int)) aw Z = true := hw _ (List.mem_of_getElem? (i := 54) rfl)
theorem pd_37 : parseMethodDescriptor "()I" = some ⟨[], some .int⟩ := by decide +kernel
theorem w53 {Z aw} (hw : OwnHW aw Z) : Cond.before (Jvm.Cond.selects "java/lang/String" ({ cls := "java/lang/String", name := "length", desc := "()I" } : Jvm.MethodName) ({ cls := "java/lang/String", name := "length", desc := "()I" } : Jvm.MethodName)) aw Z = true := hw _ (List.mem_of_getElem? (i := 53) rfl)
theorem w51 {Z aw} (hw : OwnHW aw Z) : Cond.before (Jvm.Cond.declares ({ cls := "java/lang/String", name := "length", desc := "()I" } : Jvm.MethodName)) aw Z = true := hw _ (List.mem_of_getElem? (i := 51) rfl)
theorem w52 {Z aw} (hw : OwnHW aw Z) : Cond.before (Jvm.Cond.instanceMethod ({ cls := "java/lang/String", name := "length", desc := "()I" } : Jvm.MethodName)) aw Z = true := hw _ (List.mem_of_getElem? (i := 52) rfl)
theorem w97 {Z aw} (hw : OwnHW aw Z) : Cond.before (Jvm.Cond.methodLink "java/lang/String" (637 : Nat) ({ cls := "java/lang/StringLatin1", name := "indexOf", desc := "([BIII)I" } : Jvm.MethodName)) aw Z = true := hw _ (List.mem_of_getElem? (i := 97) rfl)
theorem w99 {Z aw} (hw : OwnHW aw Z) : Cond.before (Jvm.Cond.code ({ cls := "java/lang/StringLatin1", name := "indexOf", desc := "([BIII)I" } : Jvm.MethodName) jdk_43_method_22_code (4 : Nat) (Option.some Jvm.ClassFile.FieldType.int)) aw Z = true := hw _ (List.mem_of_getElem? (i := 99) rfl)
theorem w98 {Z aw} (hw : OwnHW aw Z) : Cond.before (Jvm.Cond.static ({ cls := "java/lang/StringLatin1", name := "indexOf", desc := "([BIII)I" } : Jvm.MethodName)) aw Z = true := hw _ (List.mem_of_getElem? (i := 98) rfl)
theorem d20_0 : decode jdk_42_method_80_code 0 = .ok (.aload_n 0, 1) := by decide +kernel
theorem d20_1 : decode jdk_42_method_80_code 1 = .ok (.invokevirtual 492, 3) := by decide +kernel
theorem d20_4 : decode jdk_42_method_80_code 4 = .ok (.ifCond .eq 19, 3) := by decide +kernel
theorem d20_7 : decode jdk_42_method_80_code 7 = .ok (.aload_n 0, 1) := by decide +kernel
theorem d20_8 : decode jdk_42_method_80_code 8 = .ok (.getfield 9, 3) := by decide +kernel
theorem d20_11 : decode jdk_42_method_80_code 11 = .ok (.iload_n 1, 1) := by decide +kernel
theorem d20_12 : decode jdk_42_method_80_code 12 = .ok (.iload_n 2, 1) := by decide +kernel
theorem d20_13 : decode jdk_42_method_80_code 13 = .ok (.aload_n 0, 1) := by decide +kernel
theorem d20_14 : decode jdk_42_method_80_code 14 = .ok (.invokevirtual 505, 3) := by decide +kernel
theorem d20_17 : decode jdk_42_method_80_code 17 = .ok (.invokestatic 637, 3) := by decide +kernel
theorem d20_20 : decode jdk_42_method_80_code 20 = .ok (.goto 16, 3) := by decide +kernel
theorem d20_36 : decode jdk_42_method_80_code 36 = .ok (.ireturn, 1) := by decide +kernel
theorem ef_rm20 (m : MethodId) (a0 : Addr) (p1 : Int32) : entryFrame m #[(.ref a0), (.int p1), (.int (0 : Int32))] 3 = mkF m 0 #[.val (.ref a0), .val (.int p1), .val (.int (0 : Int32))] [] := by first | (simp [entryFrame, mkF, argsToLocals, Value.category]; done) | rfl
def Qrm20 (Z : State) (a0 : Addr) (p1 : Int32) (tl : Addr) (kl : ClassId) (zc : Int32) (h0 : Heap) (n0 : Nat) (v : Option Value) (h : Heap) (L : List Loc) : Prop := v = some (.int (own_ixf p1)) ∧ Fr n0 L ∧ h = h0
set_option maxRecDepth 65536 in
set_option maxHeartbeats 40000000 in
theorem rm20 (l : Launch) (Z : State) (aw : Array Value) (hw : ∀ d ∈ tables_1, d.before aw Z = true) (ws : List Jvm.Cond) (a0 : Addr) (p1 : Int32) (tl : Addr) (kl : ClassId) (zc : Int32) (h0 : Heap) (n0 : Nat) (Z0 : n0 ≤ h0.size) (E_a0 : Exa Z h0 a0 "java/lang/String") (F_a0_coder : Fld Z h0 a0 "java/lang/String" "coder" "B" (.int (0 : Int32))) (F_a0_value : Fld Z h0 a0 "java/lang/String" "value" "[B" (.ref tl)) (V_l : Arv Z h0 tl kl .byte (15 : Int32) (own_SY.map Value.int) (.int (0 : Int32))) (S_COMPACT_STRINGS : Sta Z h0 "java/lang/String" "COMPACT_STRINGS" "Z" (.int zc)) (hzc : ¬ zc = 0) :
    MetFree l (⟨"java/lang/String", "indexOf", "(II)I"⟩ : MethodName) (head1 (Jvm.Cond.code (⟨"java/lang/String", "indexOf", "(II)I"⟩ : MethodName) jdk_42_method_80_code 3 (some .int) :: ws) ({ frames := 2, cells := 0, slots := 0, locals := 32 } : Room)) (fun a U => a = #[(.ref a0), (.int p1), (.int (0 : Int32))] ∧ Z.Warmed39 U.vm ∧ U.heap = h0) (fun _ _ _ _ _ => True) (fun _ U o U' => ∃ v L, o = .returned v ∧ Qrm20 Z a0 p1 tl kl zc h0 n0 v U'.heap L ∧ FrameEnd U o U' L ({ frames := 2, cells := 0, slots := 0, locals := 32 } : Room).cells ({ frames := 2, cells := 0, slots := 0, locals := 32 } : Room).slots) := by
  refine MetFree.of_bodySF (plainFor_of_name pn_26) hisR ?_
  intro p e s m args below meth c s₁ Bd hml0 hP hK
  obtain ⟨rfl, hZ, hh⟩ := hP
  have hx := Bd.exec
  have hby := Bd.bytes
  have hml : c.maxLocals = 3 := hml0
  have hown : s.vm.findClass "java/lang/String" = some m.cls := findClass_of_methodNamed Bd.named
  have hnm := (name_of_methodNamed Bd.named Bd.method).1
  have X0 : Stand p l e ({ frames := 2, cells := 0, slots := 0, locals := 32 } : Room) s m #[(.ref a0), (.int p1), (.int (0 : Int32))] below meth c s₁ [] 0 0 := Stand.of_body Bd
  have e0 : s₁.heap = h0 := by rw [← hh, Bd.state]; rfl
  have N0 := Fr.nil n0
  have hlk := Bd.notSynchronized
  show OwnGo p.tables e below _ (s₁.setTop (entryFrame m #[(.ref a0), (.int p1), (.int (0 : Int32))] 3))
  rw [ef_rm20 m a0 p1]
  show OwnGo p.tables e below _ (s₁.setTop (mkF m 0 #[.val (.ref a0), .val (.int p1), .val (.int (0 : Int32))] []))
  refine OwnGo.of (B := s₁.setTop (mkF m 1 #[.val (.ref a0), .val (.int p1), .val (.int (0 : Int32))] [(.ref a0)])) (fun t k => ?_) ?_
  · show Steps p.tables e below (s₁.setTop (mkF m 0 #[.val (.ref a0), .val (.int p1), .val (.int (0 : Int32))] [])) t
    refine XS.aloadN X0.here hx rfl (hb hby d20_0) rfl rfl ?_
    exact k
  obtain ⟨cq1, kq1, q1a, q1b, q1c⟩ := isOf hZ e0 E_a0
  obtain ⟨T1, L1, v1, X1, hQ1, st1⟩ := own_callV X0 hx (y := (⟨"java/lang/String", "isLatin1", "()Z"⟩ : MethodName)) (z := (⟨"java/lang/String", "isLatin1", "()Z"⟩ : MethodName)) hown (mvT hZ (w65 hw)) (mvT hZ (w66 hw)) (notFace_of_selects (args := #[]) (mvT hZ (w68 hw))) (mvT hZ (w68 hw)) (mvT hZ (w67 hw)) (by decide) (backOf (W := 0) (rm14 l Z aw hw [] a0 zc h0 n0 Z0 E_a0 F_a0_coder S_COMPACT_STRINGS hzc) hZ (w69 hw) (w8 hw) (by decide) (by decide)) q1a q1c (g := (mkF m 1 #[.val (.ref a0), .val (.int p1), .val (.int (0 : Int32))] [(.ref a0)])) rfl (by rw [hml]; rfl) (argsL := []) (rest := []) (lenOf pd_30 rfl) rfl (by show 2 * 0 + _ ≤ _; exact Nat.le_of_eq rfl) (hb hby d20_1) rfl e0 (by decide) (by decide)
  obtain ⟨rfl, N1q, eq1⟩ := hQ1
  have N1 := Fr.app N0 N1q
  refine OwnGo.of st1 ?_
  show OwnGo p.tables e below _ (T1.setTop (mkF m 4 #[.val (.ref a0), .val (.int p1), .val (.int (0 : Int32))] [(.int (1 : Int32))]))
  have hc2 : ¬ ((1 : Int32) = (0 : Int32)) := by decide
  refine OwnGo.of (B := T1.setTop (mkF m 8 #[.val (.ref a0), .val (.int p1), .val (.int (0 : Int32))] [(.ref a0)])) (fun t k => ?_) ?_
  · show Steps p.tables e below (T1.setTop (mkF m 4 #[.val (.ref a0), .val (.int p1), .val (.int (0 : Int32))] [(.int (1 : Int32))])) t
    refine XS.ifNo X1.here hx rfl (hb hby d20_4) rfl ((if0 _ _).trans (feq hc2).1) ?_
    refine XS.aloadN X1.here hx rfl (hb hby d20_7) rfl rfl ?_
    exact k
  obtain ⟨T3, X3, e3, st3⟩ := getF X1 hx hZ hown (host := "") (Or.inl (w25 hw)) Via.refl eq1 F_a0_value (g := (mkF m 8 #[.val (.ref a0), .val (.int p1), .val (.int (0 : Int32))] [(.ref a0)])) rfl rfl (hb hby d20_8)
  refine OwnGo.of st3 ?_
  show OwnGo p.tables e below _ (T3.setTop (mkF m 11 #[.val (.ref a0), .val (.int p1), .val (.int (0 : Int32))] [(.ref tl)]))
  refine OwnGo.of (B := T3.setTop (mkF m 14 #[.val (.ref a0), .val (.int p1), .val (.int (0 : Int32))] [(.ref a0), (.int (0 : Int32)), (.int p1), (.ref tl)])) (fun t k => ?_) ?_
  · show Steps p.tables e below (T3.setTop (mkF m 11 #[.val (.ref a0), .val (.int p1), .val (.int (0 : Int32))] [(.ref tl)])) t
    refine XS.iloadN X3.here hx rfl (hb hby d20_11) rfl ?_
    refine XS.iloadN X3.here hx rfl (hb hby d20_12) rfl ?_
    refine XS.aloadN X3.here hx rfl (hb hby d20_13) rfl rfl ?_
    exact k
  obtain ⟨cq4, kq4, q4a, q4b, q4c⟩ := isOf hZ e3 E_a0
  obtain ⟨T4, L4, v4, X4, hQ4, st4⟩ := own_callV (Q := fun v H L => v = some (.int (Int32.ofNat ([33, 35, 36, 37, 38, 39, 42, 43, 45, 46, 94, 95, 96, 124, 126] : List Int32).length)) ∧ L = [] ∧ H = h0) (rc := 0) (rs := 0) X3 hx (y := (⟨"java/lang/String", "length", "()I"⟩ : MethodName)) (z := (⟨"java/lang/String", "length", "()I"⟩ : MethodName)) hown (mvT hZ (w96 hw)) (mvT hZ (w51 hw)) (notFace_of_selects (args := #[]) (mvT hZ (w53 hw))) (mvT hZ (w53 hw)) (mvT hZ (w52 hw)) (by decide) (StrChars.Road.lenW (W := 3) hZ (own_wL hw) (kI := 4) (w7 hw) E_a0 F_a0_value F_a0_coder V_l own_codL own_upL S_COMPACT_STRINGS hzc (by decide) (by decide) (by decide)) q4a q4c (g := (mkF m 14 #[.val (.ref a0), .val (.int p1), .val (.int (0 : Int32))] [(.ref a0), (.int (0 : Int32)), (.int p1), (.ref tl)])) rfl (by rw [hml]; rfl) (argsL := []) (rest := [(.int (0 : Int32)), (.int p1), (.ref tl)]) (lenOf pd_37 rfl) rfl (by show 2 * 0 + _ ≤ _; exact Nat.le_of_eq rfl) (hb hby d20_14) rfl e3 (by decide) (by decide)
  obtain ⟨hv4, rfl, eq4⟩ := hQ4
  have hw4 : v4 = some (.int (15 : Int32)) := hv4
  subst hw4
  have N4q : Fr n0 ([] : List Loc) := Fr.nil n0
  have N4 := Fr.app N1 N4q
  refine OwnGo.of st4 ?_
  show OwnGo p.tables e below _ (T4.setTop (mkF m 17 #[.val (.ref a0), .val (.int p1), .val (.int (0 : Int32))] [(.int (15 : Int32)), (.int (0 : Int32)), (.int p1), (.ref tl)]))
  obtain ⟨T5, L5, v5, X5, hQ5, st5⟩ := own_callS X4 hx (y := (⟨"java/lang/StringLatin1", "indexOf", "([BIII)I"⟩ : MethodName)) hown (mvT hZ (w97 hw)) (mvT hZ (w98 hw)) (mvT hZ (w72 hw)) (mvT hZ (w99 hw)) (by decide) (backOf (W := 0) (rm21 l Z aw hw [] tl p1 kl h0 n0 Z0 V_l) hZ (w99 hw) (w72 hw) (by decide) (by decide)) (g := (mkF m 17 #[.val (.ref a0), .val (.int p1), .val (.int (0 : Int32))] [(.int (15 : Int32)), (.int (0 : Int32)), (.int p1), (.ref tl)])) rfl (by rw [hml]; rfl) (argsL := [(.ref tl), (.int p1), (.int (0 : Int32)), (.int (15 : Int32))]) (rest := []) (lenOf pd_22 rfl) rfl (by show 2 * 0 + _ ≤ _; exact Nat.le_of_eq rfl) (hb hby d20_17) rfl eq4 (by decide) (by decide)
  obtain ⟨rfl, N5q, eq5⟩ := hQ5
  have N5 := Fr.app N4 N5q
  refine OwnGo.of st5 ?_
  show OwnGo p.tables e below _ (T5.setTop (mkF m 20 #[.val (.ref a0), .val (.int p1), .val (.int (0 : Int32))] [(.int (own_ixf p1))]))
  refine OwnGo.of (B := T5.setTop (mkF m 36 #[.val (.ref a0), .val (.int p1), .val (.int (0 : Int32))] [(.int (own_ixf p1))])) (fun t k => ?_) ?_
  · show Steps p.tables e below (T5.setTop (mkF m 20 #[.val (.ref a0), .val (.int p1), .val (.int (0 : Int32))] [(.int (own_ixf p1))])) t
    refine XS.goto X5.here hx rfl (pc0 := 20) (pc' := 36) rfl (hb hby d20_20) (by decide) (by decide) ?_
    exact k
  obtain ⟨fs, hr, hrun, hended, hW, hsame⟩ := X5.leave (v := some (.int (own_ixf p1))) (fun h => by rw [Bd.returns] at h; cases h) hlk
  refine ⟨_, _, ?_, hrun, hended, _, _, rfl, ?_, ⟨_, rfl⟩, hW, hsame.mono (by decide) (by decide)⟩
  · show Steps p.tables e below (T5.setTop (mkF m 36 #[.val (.ref a0), .val (.int p1), .val (.int (0 : Int32))] [(.int (own_ixf p1))])) _
    exact own_retI X5 hx Bd.returns (hb hby d20_36) hr
  · show Qrm20 Z a0 p1 tl kl zc h0 n0 _ (T5.setFrames fs).heap _
    rw [show (T5.setFrames fs).heap = h0 from eq5]
    exact ⟨rfl, N5, rfl⟩
theorem w91 {Z aw} (hw : OwnHW aw Z) : Cond.before (Jvm.Cond.methodLink "java/lang/String" (633 : Nat) ({ cls := "java/lang/String", name := "indexOf", desc := "(II)I" } : Jvm.MethodName)) aw Z = true := hw _ (List.mem_of_getElem? (i := 91) rfl)
theorem w95 {Z aw} (hw : OwnHW aw Z) : Cond.before (Jvm.Cond.code ({ cls := "java/lang/String", name := "indexOf", desc := "(II)I" } : Jvm.MethodName) jdk_42_method_80_code (3 : Nat) (Option.some Jvm.ClassFile.FieldType.int)) aw Z = true := hw _ (List.mem_of_getElem? (i := 95) rfl)
theorem w94 {Z aw} (hw : OwnHW aw Z) : Cond.before (Jvm.Cond.selects "java/lang/String" ({ cls := "java/lang/String", name := "indexOf", desc := "(II)I" } : Jvm.MethodName) ({ cls := "java/lang/String", name := "indexOf", desc := "(II)I" } : Jvm.MethodName)) aw Z = true := hw _ (List.mem_of_getElem? (i := 94) rfl)
theorem w92 {Z aw} (hw : OwnHW aw Z) : Cond.before (Jvm.Cond.declares ({ cls := "java/lang/String", name := "indexOf", desc := "(II)I" } : Jvm.MethodName)) aw Z = true := hw _ (List.mem_of_getElem? (i := 92) rfl)
theorem w93 {Z aw} (hw : OwnHW aw Z) : Cond.before (Jvm.Cond.instanceMethod ({ cls := "java/lang/String", name := "indexOf", desc := "(II)I" } : Jvm.MethodName)) aw Z = true := hw _ (List.mem_of_getElem? (i := 93) rfl)
theorem d19_0 : decode jdk_42_method_79_code 0 = .ok (.aload_n 0, 1) := by decide +kernel
theorem d19_1 : decode jdk_42_method_79_code 1 = .ok (.iload_n 1, 1) := by decide +kernel
theorem d19_2 : decode jdk_42_method_79_code 2 = .ok (.iconst 0, 1) := by decide +kernel
theorem d19_3 : decode jdk_42_method_79_code 3 = .ok (.invokevirtual 633, 3) := by decide +kernel
theorem d19_6 : decode jdk_42_method_79_code 6 = .ok (.ireturn, 1) := by decide +kernel
theorem ef_rm19 (m : MethodId) (a0 : Addr) (p1 : Int32) : entryFrame m #[(.ref a0), (.int p1)] 2 = mkF m 0 #[.val (.ref a0), .val (.int p1)] [] := by first | (simp [entryFrame, mkF, argsToLocals, Value.category]; done) | rfl
def Qrm19 (Z : State) (a0 : Addr) (p1 : Int32) (tl : Addr) (kl : ClassId) (zc : Int32) (h0 : Heap) (n0 : Nat) (v : Option Value) (h : Heap) (L : List Loc) : Prop := v = some (.int (own_ixf p1)) ∧ Fr n0 L ∧ h = h0
set_option maxRecDepth 65536 in
set_option maxHeartbeats 40000000 in
theorem rm19 (l : Launch) (Z : State) (aw : Array Value) (hw : ∀ d ∈ tables_1, d.before aw Z = true) (ws : List Jvm.Cond) (a0 : Addr) (p1 : Int32) (tl : Addr) (kl : ClassId) (zc : Int32) (h0 : Heap) (n0 : Nat) (Z0 : n0 ≤ h0.size) (E_a0 : Exa Z h0 a0 "java/lang/String") (F_a0_coder : Fld Z h0 a0 "java/lang/String" "coder" "B" (.int (0 : Int32))) (F_a0_value : Fld Z h0 a0 "java/lang/String" "value" "[B" (.ref tl)) (V_l : Arv Z h0 tl kl .byte (15 : Int32) (own_SY.map Value.int) (.int (0 : Int32))) (S_COMPACT_STRINGS : Sta Z h0 "java/lang/String" "COMPACT_STRINGS" "Z" (.int zc)) (hzc : ¬ zc = 0) :
    MetFree l (⟨"java/lang/String", "indexOf", "(I)I"⟩ : MethodName) (head1 (Jvm.Cond.code (⟨"java/lang/String", "indexOf", "(I)I"⟩ : MethodName) jdk_42_method_79_code 2 (some .int) :: ws) ({ frames := 3, cells := 0, slots := 0, locals := 46 } : Room)) (fun a U => a = #[(.ref a0), (.int p1)] ∧ Z.Warmed39 U.vm ∧ U.heap = h0) (fun _ _ _ _ _ => True) (fun _ U o U' => ∃ v L, o = .returned v ∧ Qrm19 Z a0 p1 tl kl zc h0 n0 v U'.heap L ∧ FrameEnd U o U' L ({ frames := 3, cells := 0, slots := 0, locals := 46 } : Room).cells ({ frames := 3, cells := 0, slots := 0, locals := 46 } : Room).slots) := by
  refine MetFree.of_bodySF (plainFor_of_name pn_26) hisR ?_
  intro p e s m args below meth c s₁ Bd hml0 hP hK
  obtain ⟨rfl, hZ, hh⟩ := hP
  have hx := Bd.exec
  have hby := Bd.bytes
  have hml : c.maxLocals = 2 := hml0
  have hown : s.vm.findClass "java/lang/String" = some m.cls := findClass_of_methodNamed Bd.named
  have hnm := (name_of_methodNamed Bd.named Bd.method).1
  have X0 : Stand p l e ({ frames := 3, cells := 0, slots := 0, locals := 46 } : Room) s m #[(.ref a0), (.int p1)] below meth c s₁ [] 0 0 := Stand.of_body Bd
  have e0 : s₁.heap = h0 := by rw [← hh, Bd.state]; rfl
  have N0 := Fr.nil n0
  have hlk := Bd.notSynchronized
  show OwnGo p.tables e below _ (s₁.setTop (entryFrame m #[(.ref a0), (.int p1)] 2))
  rw [ef_rm19 m a0 p1]
  show OwnGo p.tables e below _ (s₁.setTop (mkF m 0 #[.val (.ref a0), .val (.int p1)] []))
  refine OwnGo.of (B := s₁.setTop (mkF m 3 #[.val (.ref a0), .val (.int p1)] [(.int (0 : Int32)), (.int p1), (.ref a0)])) (fun t k => ?_) ?_
  · show Steps p.tables e below (s₁.setTop (mkF m 0 #[.val (.ref a0), .val (.int p1)] [])) t
    refine XS.aloadN X0.here hx rfl (hb hby d19_0) rfl rfl ?_
    refine XS.iloadN X0.here hx rfl (hb hby d19_1) rfl ?_
    refine XS.iconst X0.here hx rfl (hb hby d19_2) ?_
    exact k
  obtain ⟨cq1, kq1, q1a, q1b, q1c⟩ := isOf hZ e0 E_a0
  obtain ⟨T1, L1, v1, X1, hQ1, st1⟩ := own_callV X0 hx (y := (⟨"java/lang/String", "indexOf", "(II)I"⟩ : MethodName)) (z := (⟨"java/lang/String", "indexOf", "(II)I"⟩ : MethodName)) hown (mvT hZ (w91 hw)) (mvT hZ (w92 hw)) (notFace_of_selects (args := #[]) (mvT hZ (w94 hw))) (mvT hZ (w94 hw)) (mvT hZ (w93 hw)) (by decide) (backOf (W := 0) (rm20 l Z aw hw [] a0 p1 tl kl zc h0 n0 Z0 E_a0 F_a0_coder F_a0_value V_l S_COMPACT_STRINGS hzc) hZ (w95 hw) (w8 hw) (by decide) (by decide)) q1a q1c (g := (mkF m 3 #[.val (.ref a0), .val (.int p1)] [(.int (0 : Int32)), (.int p1), (.ref a0)])) rfl (by rw [hml]; rfl) (argsL := [(.int p1), (.int (0 : Int32))]) (rest := []) (lenOf pd_15 rfl) rfl (by show 2 * 0 + _ ≤ _; exact Nat.le_of_eq rfl) (hb hby d19_3) rfl e0 (by decide) (by decide)
  obtain ⟨rfl, N1q, eq1⟩ := hQ1
  have N1 := Fr.app N0 N1q
  refine OwnGo.of st1 ?_
  show OwnGo p.tables e below _ (T1.setTop (mkF m 6 #[.val (.ref a0), .val (.int p1)] [(.int (own_ixf p1))]))
  obtain ⟨fs, hr, hrun, hended, hW, hsame⟩ := X1.leave (v := some (.int (own_ixf p1))) (fun h => by rw [Bd.returns] at h; cases h) hlk
  refine ⟨_, _, ?_, hrun, hended, _, _, rfl, ?_, ⟨_, rfl⟩, hW, hsame.mono (by decide) (by decide)⟩
  · show Steps p.tables e below (T1.setTop (mkF m 6 #[.val (.ref a0), .val (.int p1)] [(.int (own_ixf p1))])) _
    exact own_retI X1 hx Bd.returns (hb hby d19_6) hr
  · show Qrm19 Z a0 p1 tl kl zc h0 n0 _ (T1.setFrames fs).heap _
    rw [show (T1.setFrames fs).heap = h0 from eq1]
    exact ⟨rfl, N1, rfl⟩
theorem pn_49 : plainName "jdk/internal/util/Preconditions" = true := by first | (simp [plainName, overriddenIn]; done) | decide +kernel
theorem d17_0 : decode jdk_41_method_11_code 0 = .ok (.iload_n 0, 1) := by decide +kernel
theorem d17_1 : decode jdk_41_method_11_code 1 = .ok (.ifCond .lt 8, 3) := by decide +kernel
theorem d17_4 : decode jdk_41_method_11_code 4 = .ok (.iload_n 0, 1) := by decide +kernel
theorem d17_5 : decode jdk_41_method_11_code 5 = .ok (.iload_n 1, 1) := by decide +kernel
theorem d17_6 : decode jdk_41_method_11_code 6 = .ok (.if_icmp .lt 10, 3) := by decide +kernel
theorem d17_16 : decode jdk_41_method_11_code 16 = .ok (.iload_n 0, 1) := by decide +kernel
theorem d17_17 : decode jdk_41_method_11_code 17 = .ok (.ireturn, 1) := by decide +kernel
theorem ef_rm17n (m : MethodId) (p0 : Int32) (p1 : Int32) : entryFrame m #[(.int p0), (.int p1), .null] 3 = mkF m 0 #[.val (.int p0), .val (.int p1), .val .null] [] := by first | (simp [entryFrame, mkF, argsToLocals, Value.category]; done) | rfl
def Qrm17n (Z : State) (p0 : Int32) (p1 : Int32) (h0 : Heap) (n0 : Nat) (v : Option Value) (h : Heap) (L : List Loc) : Prop := v = some (.int p0) ∧ Fr n0 L ∧ h = h0
set_option maxRecDepth 65536 in
set_option maxHeartbeats 40000000 in
theorem rm17n (l : Launch) (Z : State) (aw : Array Value) (hw : ∀ d ∈ tables_1, d.before aw Z = true) (ws : List Jvm.Cond) (p0 : Int32) (p1 : Int32) (h0 : Heap) (n0 : Nat) (Z0 : n0 ≤ h0.size) (h1 : ¬ (p0 < (0 : Int32))) (h2 : p0 < p1) :
    MetFree l (⟨"jdk/internal/util/Preconditions", "checkIndex", "(IILjava/util/function/BiFunction;)I"⟩ : MethodName) (head1 (Jvm.Cond.code (⟨"jdk/internal/util/Preconditions", "checkIndex", "(IILjava/util/function/BiFunction;)I"⟩ : MethodName) jdk_41_method_11_code 3 (some .int) :: ws) ({ frames := 0, cells := 0, slots := 0, locals := 0 } : Room)) (fun a U => a = #[(.int p0), (.int p1), .null] ∧ Z.Warmed39 U.vm ∧ U.heap = h0) (fun _ _ _ _ _ => True) (fun _ U o U' => ∃ v L, o = .returned v ∧ Qrm17n Z p0 p1 h0 n0 v U'.heap L ∧ FrameEnd U o U' L ({ frames := 0, cells := 0, slots := 0, locals := 0 } : Room).cells ({ frames := 0, cells := 0, slots := 0, locals := 0 } : Room).slots) := by
  refine MetFree.of_bodySF (plainFor_of_name pn_49) hisR ?_
  intro p e s m args below meth c s₁ Bd hml0 hP hK
  obtain ⟨rfl, hZ, hh⟩ := hP
  have hx := Bd.exec
  have hby := Bd.bytes
  have hml : c.maxLocals = 3 := hml0
  have hown : s.vm.findClass "jdk/internal/util/Preconditions" = some m.cls := findClass_of_methodNamed Bd.named
  have hnm := (name_of_methodNamed Bd.named Bd.method).1
  have X0 : Stand p l e ({ frames := 0, cells := 0, slots := 0, locals := 0 } : Room) s m #[(.int p0), (.int p1), .null] below meth c s₁ [] 0 0 := Stand.of_body Bd
  have e0 : s₁.heap = h0 := by rw [← hh, Bd.state]; rfl
  have N0 := Fr.nil n0
  have hlk := Bd.notSynchronized
  show OwnGo p.tables e below _ (s₁.setTop (entryFrame m #[(.int p0), (.int p1), .null] 3))
  rw [ef_rm17n m p0 p1]
  show OwnGo p.tables e below _ (s₁.setTop (mkF m 0 #[.val (.int p0), .val (.int p1), .val .null] []))
  refine OwnGo.of (B := s₁.setTop (mkF m 1 #[.val (.int p0), .val (.int p1), .val .null] [(.int p0)])) (fun t k => ?_) ?_
  · show Steps p.tables e below (s₁.setTop (mkF m 0 #[.val (.int p0), .val (.int p1), .val .null] [])) t
    refine XS.iloadN X0.here hx rfl (hb hby d17_0) rfl ?_
    exact k
  have hc1 : ¬ (p0 < (0 : Int32)) := h1
  refine OwnGo.of (B := s₁.setTop (mkF m 6 #[.val (.int p0), .val (.int p1), .val .null] [(.int p1), (.int p0)])) (fun t k => ?_) ?_
  · show Steps p.tables e below (s₁.setTop (mkF m 1 #[.val (.int p0), .val (.int p1), .val .null] [(.int p0)])) t
    refine XS.ifNo X0.here hx rfl (hb hby d17_1) rfl ((if0 _ _).trans (flt hc1).1) ?_
    refine XS.iloadN X0.here hx rfl (hb hby d17_4) rfl ?_
    refine XS.iloadN X0.here hx rfl (hb hby d17_5) rfl ?_
    exact k
  have hc2 : p0 < p1 := h2
  refine OwnGo.of (B := s₁.setTop (mkF m 17 #[.val (.int p0), .val (.int p1), .val .null] [(.int p0)])) (fun t k => ?_) ?_
  · show Steps p.tables e below (s₁.setTop (mkF m 6 #[.val (.int p0), .val (.int p1), .val .null] [(.int p1), (.int p0)])) t
    refine XS.icmpYes X0.here hx rfl (pc0 := 6) (pc' := 16) rfl (hb hby d17_6) rfl (tlt hc2).1 (by decide) (by decide) ?_
    refine XS.iloadN X0.here hx rfl (hb hby d17_16) rfl ?_
    exact k
  obtain ⟨fs, hr, hrun, hended, hW, hsame⟩ := X0.leave (v := some (.int p0)) (fun h => by rw [Bd.returns] at h; cases h) hlk
  refine ⟨_, _, ?_, hrun, hended, _, _, rfl, ?_, ⟨_, rfl⟩, hW, hsame.mono (by decide) (by decide)⟩
  · show Steps p.tables e below (s₁.setTop (mkF m 17 #[.val (.int p0), .val (.int p1), .val .null] [(.int p0)])) _
    exact own_retI X0 hx Bd.returns (hb hby d17_17) hr
  · show Qrm17n Z p0 p1 h0 n0 _ (s₁.setFrames fs).heap _
    rw [show (s₁.setFrames fs).heap = h0 from e0]
    exact ⟨rfl, N0, rfl⟩
theorem w77 {Z aw} (hw : OwnHW aw Z) : Cond.before (Jvm.Cond.fieldLink "java/lang/String" (1053 : Nat) "jdk/internal/util/Preconditions" "SIOOBE_FORMATTER" "Ljava/util/function/BiFunction;") aw Z = true := hw _ (List.mem_of_getElem? (i := 77) rfl)
theorem w79 {Z aw} (hw : OwnHW aw Z) : Cond.before (Jvm.Cond.methodLink "java/lang/String" (1059 : Nat) ({ cls := "jdk/internal/util/Preconditions", name := "checkIndex", desc := "(IILjava/util/function/BiFunction;)I" } : Jvm.MethodName)) aw Z = true := hw _ (List.mem_of_getElem? (i := 79) rfl)
theorem w81 {Z aw} (hw : OwnHW aw Z) : Cond.before (Jvm.Cond.code ({ cls := "jdk/internal/util/Preconditions", name := "checkIndex", desc := "(IILjava/util/function/BiFunction;)I" } : Jvm.MethodName) jdk_41_method_11_code (3 : Nat) (Option.some Jvm.ClassFile.FieldType.int)) aw Z = true := hw _ (List.mem_of_getElem? (i := 81) rfl)
theorem w78 {Z aw} (hw : OwnHW aw Z) : Cond.before (Jvm.Cond.initialized "jdk/internal/util/Preconditions") aw Z = true := hw _ (List.mem_of_getElem? (i := 78) rfl)
theorem pd_54 : parseMethodDescriptor "(IILjava/util/function/BiFunction;)I" = some ⟨[.int, .int, (.object "java/util/function/BiFunction")], some .int⟩ := by decide +kernel
theorem w80 {Z aw} (hw : OwnHW aw Z) : Cond.before (Jvm.Cond.static ({ cls := "jdk/internal/util/Preconditions", name := "checkIndex", desc := "(IILjava/util/function/BiFunction;)I" } : Jvm.MethodName)) aw Z = true := hw _ (List.mem_of_getElem? (i := 80) rfl)
theorem d16_0 : decode jdk_42_method_155_code 0 = .ok (.iload_n 0, 1) := by decide +kernel
theorem d16_1 : decode jdk_42_method_155_code 1 = .ok (.iload_n 1, 1) := by decide +kernel
theorem d16_2 : decode jdk_42_method_155_code 2 = .ok (.getstatic 1053, 3) := by decide +kernel
theorem d16_5 : decode jdk_42_method_155_code 5 = .ok (.invokestatic 1059, 3) := by decide +kernel
theorem d16_8 : decode jdk_42_method_155_code 8 = .ok (.pop, 1) := by decide +kernel
theorem d16_9 : decode jdk_42_method_155_code 9 = .ok (.return_, 1) := by decide +kernel
theorem ef_rm16n (m : MethodId) (p0 : Int32) (p1 : Int32) : entryFrame m #[(.int p0), (.int p1)] 2 = mkF m 0 #[.val (.int p0), .val (.int p1)] [] := by first | (simp [entryFrame, mkF, argsToLocals, Value.category]; done) | rfl
def Qrm16n (Z : State) (p0 : Int32) (p1 : Int32) (h0 : Heap) (n0 : Nat) (v : Option Value) (h : Heap) (L : List Loc) : Prop := v = none ∧ Fr n0 L ∧ h = h0
set_option maxRecDepth 65536 in
set_option maxHeartbeats 40000000 in
theorem rm16n (l : Launch) (Z : State) (aw : Array Value) (hw : ∀ d ∈ tables_1, d.before aw Z = true) (ws : List Jvm.Cond) (p0 : Int32) (p1 : Int32) (h0 : Heap) (n0 : Nat) (Z0 : n0 ≤ h0.size) (S_SIOOBE_FORMATTER : Sta Z h0 "jdk/internal/util/Preconditions" "SIOOBE_FORMATTER" "Ljava/util/function/BiFunction;" .null) (h1 : ¬ (p0 < (0 : Int32))) (h2 : p0 < p1) :
    MetFree l (⟨"java/lang/String", "checkIndex", "(II)V"⟩ : MethodName) (head1 (Jvm.Cond.code (⟨"java/lang/String", "checkIndex", "(II)V"⟩ : MethodName) jdk_42_method_155_code 2 none :: ws) ({ frames := 1, cells := 0, slots := 0, locals := 14 } : Room)) (fun a U => a = #[(.int p0), (.int p1)] ∧ Z.Warmed39 U.vm ∧ U.heap = h0) (fun _ _ _ _ _ => True) (fun _ U o U' => ∃ v L, o = .returned v ∧ Qrm16n Z p0 p1 h0 n0 v U'.heap L ∧ FrameEnd U o U' L ({ frames := 1, cells := 0, slots := 0, locals := 14 } : Room).cells ({ frames := 1, cells := 0, slots := 0, locals := 14 } : Room).slots) := by
  refine MetFree.of_bodySF (plainFor_of_name pn_26) hisR ?_
  intro p e s m args below meth c s₁ Bd hml0 hP hK
  obtain ⟨rfl, hZ, hh⟩ := hP
  have hx := Bd.exec
  have hby := Bd.bytes
  have hml : c.maxLocals = 2 := hml0
  have hown : s.vm.findClass "java/lang/String" = some m.cls := findClass_of_methodNamed Bd.named
  have hnm := (name_of_methodNamed Bd.named Bd.method).1
  have X0 : Stand p l e ({ frames := 1, cells := 0, slots := 0, locals := 14 } : Room) s m #[(.int p0), (.int p1)] below meth c s₁ [] 0 0 := Stand.of_body Bd
  have e0 : s₁.heap = h0 := by rw [← hh, Bd.state]; rfl
  have N0 := Fr.nil n0
  have hlk := Bd.notSynchronized
  show OwnGo p.tables e below _ (s₁.setTop (entryFrame m #[(.int p0), (.int p1)] 2))
  rw [ef_rm16n m p0 p1]
  show OwnGo p.tables e below _ (s₁.setTop (mkF m 0 #[.val (.int p0), .val (.int p1)] []))
  refine OwnGo.of (B := s₁.setTop (mkF m 2 #[.val (.int p0), .val (.int p1)] [(.int p1), (.int p0)])) (fun t k => ?_) ?_
  · show Steps p.tables e below (s₁.setTop (mkF m 0 #[.val (.int p0), .val (.int p1)] [])) t
    refine XS.iloadN X0.here hx rfl (hb hby d16_0) rfl ?_
    refine XS.iloadN X0.here hx rfl (hb hby d16_1) rfl ?_
    exact k
  obtain ⟨T1, X1, e1, st1⟩ := getS2 X0 hx hZ hown (host := "") (Or.inl (w77 hw)) Via.refl e0 S_SIOOBE_FORMATTER (g := (mkF m 2 #[.val (.int p0), .val (.int p1)] [(.int p1), (.int p0)])) rfl (hb hby d16_2)
  refine OwnGo.of st1 ?_
  show OwnGo p.tables e below _ (T1.setTop (mkF m 5 #[.val (.int p0), .val (.int p1)] [.null, (.int p1), (.int p0)]))
  obtain ⟨T2, L2, v2, X2, hQ2, st2⟩ := own_callS X1 hx (y := (⟨"jdk/internal/util/Preconditions", "checkIndex", "(IILjava/util/function/BiFunction;)I"⟩ : MethodName)) hown (mvT hZ (w79 hw)) (mvT hZ (w80 hw)) (mvT hZ (w78 hw)) (mvT hZ (w81 hw)) (by decide) (backOf (W := 0) (rm17n l Z aw hw [] p0 p1  h0 n0 Z0 h1 h2) hZ (w81 hw) (w78 hw) (by decide) (by decide)) (g := (mkF m 5 #[.val (.int p0), .val (.int p1)] [.null, (.int p1), (.int p0)])) rfl (by rw [hml]; rfl) (argsL := [(.int p0), (.int p1), .null]) (rest := []) (lenOf pd_54 rfl) rfl (by show 2 * 0 + _ ≤ _; exact Nat.le_of_eq rfl) (hb hby d16_5) rfl e1 (by decide) (by decide)
  obtain ⟨rfl, N2q, eq2⟩ := hQ2
  have N2 := Fr.app N0 N2q
  refine OwnGo.of st2 ?_
  show OwnGo p.tables e below _ (T2.setTop (mkF m 8 #[.val (.int p0), .val (.int p1)] [(.int p0)]))
  refine OwnGo.of (B := T2.setTop (mkF m 9 #[.val (.int p0), .val (.int p1)] [])) (fun t k => ?_) ?_
  · show Steps p.tables e below (T2.setTop (mkF m 8 #[.val (.int p0), .val (.int p1)] [(.int p0)])) t
    refine XS.pop X2.here hx rfl (hb hby d16_8) rfl rfl ?_
    exact k
  obtain ⟨fs, hr, hrun, hended, hW, hsame⟩ := X2.leave (v := none) (fun _ => rfl) hlk
  refine ⟨_, _, ?_, hrun, hended, _, _, rfl, ?_, ⟨_, rfl⟩, hW, hsame.mono (by decide) (by decide)⟩
  · show Steps p.tables e below (T2.setTop (mkF m 9 #[.val (.int p0), .val (.int p1)] [])) _
    exact X2.returnOut hx Bd.returns (hb hby d16_9) hr
  · show Qrm16n Z p0 p1 h0 n0 _ (T2.setFrames fs).heap _
    rw [show (T2.setFrames fs).heap = h0 from eq2]
    exact ⟨rfl, N2, rfl⟩
theorem ef_rm17r (m : MethodId) (p0 : Int32) (p1 : Int32) (a2 : Addr) : entryFrame m #[(.int p0), (.int p1), (.ref a2)] 3 = mkF m 0 #[.val (.int p0), .val (.int p1), .val (.ref a2)] [] := by first | (simp [entryFrame, mkF, argsToLocals, Value.category]; done) | rfl
def Qrm17r (Z : State) (p0 : Int32) (p1 : Int32) (a2 : Addr) (h0 : Heap) (n0 : Nat) (v : Option Value) (h : Heap) (L : List Loc) : Prop := v = some (.int p0) ∧ Fr n0 L ∧ h = h0
set_option maxRecDepth 65536 in
set_option maxHeartbeats 40000000 in
theorem rm17r (l : Launch) (Z : State) (aw : Array Value) (hw : ∀ d ∈ tables_1, d.before aw Z = true) (ws : List Jvm.Cond) (p0 : Int32) (p1 : Int32) (a2 : Addr) (h0 : Heap) (n0 : Nat) (Z0 : n0 ≤ h0.size) (h1 : ¬ (p0 < (0 : Int32))) (h2 : p0 < p1) :
    MetFree l (⟨"jdk/internal/util/Preconditions", "checkIndex", "(IILjava/util/function/BiFunction;)I"⟩ : MethodName) (head1 (Jvm.Cond.code (⟨"jdk/internal/util/Preconditions", "checkIndex", "(IILjava/util/function/BiFunction;)I"⟩ : MethodName) jdk_41_method_11_code 3 (some .int) :: ws) ({ frames := 0, cells := 0, slots := 0, locals := 0 } : Room)) (fun a U => a = #[(.int p0), (.int p1), (.ref a2)] ∧ Z.Warmed39 U.vm ∧ U.heap = h0) (fun _ _ _ _ _ => True) (fun _ U o U' => ∃ v L, o = .returned v ∧ Qrm17r Z p0 p1 a2 h0 n0 v U'.heap L ∧ FrameEnd U o U' L ({ frames := 0, cells := 0, slots := 0, locals := 0 } : Room).cells ({ frames := 0, cells := 0, slots := 0, locals := 0 } : Room).slots) := by
  refine MetFree.of_bodySF (plainFor_of_name pn_49) hisR ?_
  intro p e s m args below meth c s₁ Bd hml0 hP hK
  obtain ⟨rfl, hZ, hh⟩ := hP
  have hx := Bd.exec
  have hby := Bd.bytes
  have hml : c.maxLocals = 3 := hml0
  have hown : s.vm.findClass "jdk/internal/util/Preconditions" = some m.cls := findClass_of_methodNamed Bd.named
  have hnm := (name_of_methodNamed Bd.named Bd.method).1
  have X0 : Stand p l e ({ frames := 0, cells := 0, slots := 0, locals := 0 } : Room) s m #[(.int p0), (.int p1), (.ref a2)] below meth c s₁ [] 0 0 := Stand.of_body Bd
  have e0 : s₁.heap = h0 := by rw [← hh, Bd.state]; rfl
  have N0 := Fr.nil n0
  have hlk := Bd.notSynchronized
  show OwnGo p.tables e below _ (s₁.setTop (entryFrame m #[(.int p0), (.int p1), (.ref a2)] 3))
  rw [ef_rm17r m p0 p1 a2]
  show OwnGo p.tables e below _ (s₁.setTop (mkF m 0 #[.val (.int p0), .val (.int p1), .val (.ref a2)] []))
  refine OwnGo.of (B := s₁.setTop (mkF m 1 #[.val (.int p0), .val (.int p1), .val (.ref a2)] [(.int p0)])) (fun t k => ?_) ?_
  · show Steps p.tables e below (s₁.setTop (mkF m 0 #[.val (.int p0), .val (.int p1), .val (.ref a2)] [])) t
    refine XS.iloadN X0.here hx rfl (hb hby d17_0) rfl ?_
    exact k
  have hc1 : ¬ (p0 < (0 : Int32)) := h1
  refine OwnGo.of (B := s₁.setTop (mkF m 6 #[.val (.int p0), .val (.int p1), .val (.ref a2)] [(.int p1), (.int p0)])) (fun t k => ?_) ?_
  · show Steps p.tables e below (s₁.setTop (mkF m 1 #[.val (.int p0), .val (.int p1), .val (.ref a2)] [(.int p0)])) t
    refine XS.ifNo X0.here hx rfl (hb hby d17_1) rfl ((if0 _ _).trans (flt hc1).1) ?_
    refine XS.iloadN X0.here hx rfl (hb hby d17_4) rfl ?_
    refine XS.iloadN X0.here hx rfl (hb hby d17_5) rfl ?_
    exact k
  have hc2 : p0 < p1 := h2
  refine OwnGo.of (B := s₁.setTop (mkF m 17 #[.val (.int p0), .val (.int p1), .val (.ref a2)] [(.int p0)])) (fun t k => ?_) ?_
  · show Steps p.tables e below (s₁.setTop (mkF m 6 #[.val (.int p0), .val (.int p1), .val (.ref a2)] [(.int p1), (.int p0)])) t
    refine XS.icmpYes X0.here hx rfl (pc0 := 6) (pc' := 16) rfl (hb hby d17_6) rfl (tlt hc2).1 (by decide) (by decide) ?_
    refine XS.iloadN X0.here hx rfl (hb hby d17_16) rfl ?_
    exact k
  obtain ⟨fs, hr, hrun, hended, hW, hsame⟩ := X0.leave (v := some (.int p0)) (fun h => by rw [Bd.returns] at h; cases h) hlk
  refine ⟨_, _, ?_, hrun, hended, _, _, rfl, ?_, ⟨_, rfl⟩, hW, hsame.mono (by decide) (by decide)⟩
  · show Steps p.tables e below (s₁.setTop (mkF m 17 #[.val (.int p0), .val (.int p1), .val (.ref a2)] [(.int p0)])) _
    exact own_retI X0 hx Bd.returns (hb hby d17_17) hr
  · show Qrm17r Z p0 p1 a2 h0 n0 _ (s₁.setFrames fs).heap _
    rw [show (s₁.setFrames fs).heap = h0 from e0]
    exact ⟨rfl, N0, rfl⟩
theorem ef_rm16r (m : MethodId) (p0 : Int32) (p1 : Int32) : entryFrame m #[(.int p0), (.int p1)] 2 = mkF m 0 #[.val (.int p0), .val (.int p1)] [] := by first | (simp [entryFrame, mkF, argsToLocals, Value.category]; done) | rfl
def Qrm16r (Z : State) (p0 : Int32) (p1 : Int32) (fa : Addr) (h0 : Heap) (n0 : Nat) (v : Option Value) (h : Heap) (L : List Loc) : Prop := v = none ∧ Fr n0 L ∧ h = h0
set_option maxRecDepth 65536 in
set_option maxHeartbeats 40000000 in
theorem rm16r (l : Launch) (Z : State) (aw : Array Value) (hw : ∀ d ∈ tables_1, d.before aw Z = true) (ws : List Jvm.Cond) (p0 : Int32) (p1 : Int32) (fa : Addr) (h0 : Heap) (n0 : Nat) (Z0 : n0 ≤ h0.size) (S_SIOOBE_FORMATTER : Sta Z h0 "jdk/internal/util/Preconditions" "SIOOBE_FORMATTER" "Ljava/util/function/BiFunction;" (.ref fa)) (h1 : ¬ (p0 < (0 : Int32))) (h2 : p0 < p1) :
    MetFree l (⟨"java/lang/String", "checkIndex", "(II)V"⟩ : MethodName) (head1 (Jvm.Cond.code (⟨"java/lang/String", "checkIndex", "(II)V"⟩ : MethodName) jdk_42_method_155_code 2 none :: ws) ({ frames := 1, cells := 0, slots := 0, locals := 14 } : Room)) (fun a U => a = #[(.int p0), (.int p1)] ∧ Z.Warmed39 U.vm ∧ U.heap = h0) (fun _ _ _ _ _ => True) (fun _ U o U' => ∃ v L, o = .returned v ∧ Qrm16r Z p0 p1 fa h0 n0 v U'.heap L ∧ FrameEnd U o U' L ({ frames := 1, cells := 0, slots := 0, locals := 14 } : Room).cells ({ frames := 1, cells := 0, slots := 0, locals := 14 } : Room).slots) := by
  refine MetFree.of_bodySF (plainFor_of_name pn_26) hisR ?_
  intro p e s m args below meth c s₁ Bd hml0 hP hK
  obtain ⟨rfl, hZ, hh⟩ := hP
  have hx := Bd.exec
  have hby := Bd.bytes
  have hml : c.maxLocals = 2 := hml0
  have hown : s.vm.findClass "java/lang/String" = some m.cls := findClass_of_methodNamed Bd.named
  have hnm := (name_of_methodNamed Bd.named Bd.method).1
  have X0 : Stand p l e ({ frames := 1, cells := 0, slots := 0, locals := 14 } : Room) s m #[(.int p0), (.int p1)] below meth c s₁ [] 0 0 := Stand.of_body Bd
  have e0 : s₁.heap = h0 := by rw [← hh, Bd.state]; rfl
  have N0 := Fr.nil n0
  have hlk := Bd.notSynchronized
  show OwnGo p.tables e below _ (s₁.setTop (entryFrame m #[(.int p0), (.int p1)] 2))
  rw [ef_rm16r m p0 p1]
  show OwnGo p.tables e below _ (s₁.setTop (mkF m 0 #[.val (.int p0), .val (.int p1)] []))
  refine OwnGo.of (B := s₁.setTop (mkF m 2 #[.val (.int p0), .val (.int p1)] [(.int p1), (.int p0)])) (fun t k => ?_) ?_
  · show Steps p.tables e below (s₁.setTop (mkF m 0 #[.val (.int p0), .val (.int p1)] [])) t
    refine XS.iloadN X0.here hx rfl (hb hby d16_0) rfl ?_
    refine XS.iloadN X0.here hx rfl (hb hby d16_1) rfl ?_
    exact k
  obtain ⟨T1, X1, e1, st1⟩ := getS2 X0 hx hZ hown (host := "") (Or.inl (w77 hw)) Via.refl e0 S_SIOOBE_FORMATTER (g := (mkF m 2 #[.val (.int p0), .val (.int p1)] [(.int p1), (.int p0)])) rfl (hb hby d16_2)
  refine OwnGo.of st1 ?_
  show OwnGo p.tables e below _ (T1.setTop (mkF m 5 #[.val (.int p0), .val (.int p1)] [(.ref fa), (.int p1), (.int p0)]))
  obtain ⟨T2, L2, v2, X2, hQ2, st2⟩ := own_callS X1 hx (y := (⟨"jdk/internal/util/Preconditions", "checkIndex", "(IILjava/util/function/BiFunction;)I"⟩ : MethodName)) hown (mvT hZ (w79 hw)) (mvT hZ (w80 hw)) (mvT hZ (w78 hw)) (mvT hZ (w81 hw)) (by decide) (backOf (W := 0) (rm17r l Z aw hw [] p0 p1 fa  h0 n0 Z0 h1 h2) hZ (w81 hw) (w78 hw) (by decide) (by decide)) (g := (mkF m 5 #[.val (.int p0), .val (.int p1)] [(.ref fa), (.int p1), (.int p0)])) rfl (by rw [hml]; rfl) (argsL := [(.int p0), (.int p1), (.ref fa)]) (rest := []) (lenOf pd_54 rfl) rfl (by show 2 * 0 + _ ≤ _; exact Nat.le_of_eq rfl) (hb hby d16_5) rfl e1 (by decide) (by decide)
  obtain ⟨rfl, N2q, eq2⟩ := hQ2
  have N2 := Fr.app N0 N2q
  refine OwnGo.of st2 ?_
  show OwnGo p.tables e below _ (T2.setTop (mkF m 8 #[.val (.int p0), .val (.int p1)] [(.int p0)]))
  refine OwnGo.of (B := T2.setTop (mkF m 9 #[.val (.int p0), .val (.int p1)] [])) (fun t k => ?_) ?_
  · show Steps p.tables e below (T2.setTop (mkF m 8 #[.val (.int p0), .val (.int p1)] [(.int p0)])) t
    refine XS.pop X2.here hx rfl (hb hby d16_8) rfl rfl ?_
    exact k
  obtain ⟨fs, hr, hrun, hended, hW, hsame⟩ := X2.leave (v := none) (fun _ => rfl) hlk
  refine ⟨_, _, ?_, hrun, hended, _, _, rfl, ?_, ⟨_, rfl⟩, hW, hsame.mono (by decide) (by decide)⟩
  · show Steps p.tables e below (T2.setTop (mkF m 9 #[.val (.int p0), .val (.int p1)] [])) _
    exact X2.returnOut hx Bd.returns (hb hby d16_9) hr
  · show Qrm16r Z p0 p1 fa h0 n0 _ (T2.setFrames fs).heap _
    rw [show (T2.setFrames fs).heap = h0 from eq2]
    exact ⟨rfl, N2, rfl⟩

theorem rm16 (l : Launch) (Z : State) (aw : Array Value) (hw : ∀ d ∈ tables_1, d.before aw Z = true) (ws : List Jvm.Cond) (p0 p1 : Int32) (fm : Value) (h0 : Heap) (n0 : Nat) (Z0 : n0 ≤ h0.size) (S_F : Sta Z h0 "jdk/internal/util/Preconditions" "SIOOBE_FORMATTER" "Ljava/util/function/BiFunction;" fm) (rf : fm.isRef = true) (h1 : ¬ (p0 < (0 : Int32))) (h2 : p0 < p1) :
    MetFree l (⟨"java/lang/String", "checkIndex", "(II)V"⟩ : MethodName) (head1 (Jvm.Cond.code (⟨"java/lang/String", "checkIndex", "(II)V"⟩ : MethodName) jdk_42_method_155_code 2 none :: ws) ({ frames := 1, cells := 0, slots := 0, locals := 14 } : Room)) (fun a U => a = #[(.int p0), (.int p1)] ∧ Z.Warmed39 U.vm ∧ U.heap = h0) (fun _ _ _ _ _ => True) (fun _ U o U' => ∃ v L, o = .returned v ∧ Qrm16n Z p0 p1 h0 n0 v U'.heap L ∧ FrameEnd U o U' L ({ frames := 1, cells := 0, slots := 0, locals := 14 } : Room).cells ({ frames := 1, cells := 0, slots := 0, locals := 14 } : Room).slots) := by
  cases fm with
  | null => exact rm16n l Z aw hw ws p0 p1 h0 n0 Z0 S_F h1 h2
  | ref y => exact rm16r l Z aw hw ws p0 p1 y h0 n0 Z0 S_F h1 h2
  | _ => cases rf


theorem own_dbl (i : Nat) : Int32.ofNat i <<< ((1 : Int32) &&& 31) = Int32.ofNat (2 * i) := by
  rw [show ((1 : Int32) &&& 31) = 1 from by decide]
  apply Int32.toBitVec_inj.mp
  rw [Int32.toBitVec_shiftLeft, show ((1 : Int32).toBitVec.smod 32) = 1#32 from by decide, BitVec.shiftLeft_eq']
  apply BitVec.eq_of_toNat_eq
  rw [BitVec.toNat_shiftLeft]
  show (BitVec.ofNat 32 i).toNat <<< 1 % 2 ^ 32 = (BitVec.ofNat 32 (2 * i)).toNat
  rw [BitVec.toNat_ofNat, BitVec.toNat_ofNat, Nat.shiftLeft_eq]; omega
theorem own_inb {i n : Nat} (h : i < n) (hn : n ≤ 8000) : ¬ Int32.ofNat i < 0 ∧ Int32.ofNat i < Int32.ofNat n := by
  refine ⟨own_ofge0 (by omega), ?_⟩
  rw [Int32.lt_iff_toInt_lt, Int32.toInt_ofNat_of_lt (by omega), Int32.toInt_ofNat_of_lt (by omega)]; omega
theorem own_c8 {c : Int32} (h : OwnC16 c) (h2 : ¬ 255 < c) : some (Value.int (nar .char ((StrChars.lo8 c &&& (255 : Int32)).toUInt32.toUInt16.toUInt32.toInt32))) = some (.int c) := by
  have q := StrChars.chr8_lo8 h.1 h2
  unfold StrChars.chr8 at q
  rw [q]; exact congrArg (fun z => some (Value.int z)) (own_c16E h)
theorem own_cp {c : Int32} (h : OwnC16 c) : some (Value.int (nar .char ((((StrChars.lo8 c &&& (255 : Int32)) <<< ((0 : Int32) &&& 31)) ||| ((StrChars.hi8 c &&& (255 : Int32)) <<< ((8 : Int32) &&& 31))).toUInt32.toUInt16.toUInt32.toInt32))) = some (.int c) := by
  have q := StrChars.pair_says h.1 h.2
  unfold StrChars.pairCh at q
  rw [q]; exact congrArg (fun z => some (Value.int z)) (own_c16E h)

theorem w74 {Z aw} (hw : OwnHW aw Z) : Cond.before (Jvm.Cond.methodLink "java/lang/StringLatin1" (9 : Nat) ({ cls := "java/lang/String", name := "checkIndex", desc := "(II)V" } : Jvm.MethodName)) aw Z = true := hw _ (List.mem_of_getElem? (i := 74) rfl)
theorem w76 {Z aw} (hw : OwnHW aw Z) : Cond.before (Jvm.Cond.code ({ cls := "java/lang/String", name := "checkIndex", desc := "(II)V" } : Jvm.MethodName) jdk_42_method_155_code (2 : Nat) (Option.none : Option Jvm.ClassFile.FieldType)) aw Z = true := hw _ (List.mem_of_getElem? (i := 76) rfl)
theorem pd_58 : parseMethodDescriptor "(II)V" = some ⟨[.int, .int], none⟩ := by decide +kernel
theorem w75 {Z aw} (hw : OwnHW aw Z) : Cond.before (Jvm.Cond.static ({ cls := "java/lang/String", name := "checkIndex", desc := "(II)V" } : Jvm.MethodName)) aw Z = true := hw _ (List.mem_of_getElem? (i := 75) rfl)
theorem d15_0 : decode jdk_43_method_2_code 0 = .ok (.iload_n 1, 1) := by decide +kernel
theorem d15_1 : decode jdk_43_method_2_code 1 = .ok (.aload_n 0, 1) := by decide +kernel
theorem d15_2 : decode jdk_43_method_2_code 2 = .ok (.arraylength, 1) := by decide +kernel
theorem d15_3 : decode jdk_43_method_2_code 3 = .ok (.invokestatic 9, 3) := by decide +kernel
theorem d15_6 : decode jdk_43_method_2_code 6 = .ok (.aload_n 0, 1) := by decide +kernel
theorem d15_7 : decode jdk_43_method_2_code 7 = .ok (.iload_n 1, 1) := by decide +kernel
theorem d15_8 : decode jdk_43_method_2_code 8 = .ok (.baload, 1) := by decide +kernel
theorem d15_9 : decode jdk_43_method_2_code 9 = .ok (.sipush 255, 3) := by decide +kernel
theorem d15_12 : decode jdk_43_method_2_code 12 = .ok (.iand, 1) := by decide +kernel
theorem d15_13 : decode jdk_43_method_2_code 13 = .ok (.i2c, 1) := by decide +kernel
theorem d15_14 : decode jdk_43_method_2_code 14 = .ok (.ireturn, 1) := by decide +kernel
theorem ef_rm15 (m : MethodId) (a0 : Addr) (i : Nat) : entryFrame m #[(.ref a0), (.int (Int32.ofNat i))] 2 = mkF m 0 #[.val (.ref a0), .val (.int (Int32.ofNat i))] [] := by first | (simp [entryFrame, mkF, argsToLocals, Value.category]; done) | rfl
def Qrm15 (Z : State) (a0 : Addr) (i : Nat) (ka : ClassId) (z : Int32) (vs : List Value) (ch : Int32) (fm : Value) (h0 : Heap) (n0 : Nat) (v : Option Value) (h : Heap) (L : List Loc) : Prop := v = some (.int ch) ∧ Fr n0 L ∧ h = h0
set_option maxRecDepth 65536 in
set_option maxHeartbeats 40000000 in
theorem rm15 (l : Launch) (Z : State) (aw : Array Value) (hw : ∀ d ∈ tables_1, d.before aw Z = true) (ws : List Jvm.Cond) (a0 : Addr) (i : Nat) (ka : ClassId) (z : Int32) (vs : List Value) (ch : Int32) (fm : Value) (h0 : Heap) (n0 : Nat) (Z0 : n0 ≤ h0.size) (V_a : Arv Z h0 a0 ka .byte z vs (.int (0 : Int32))) (S_SIOOBE_FORMATTER : Sta Z h0 "jdk/internal/util/Preconditions" "SIOOBE_FORMATTER" "Ljava/util/function/BiFunction;" fm) (rf : fm.isRef = true) (hin : ¬ Int32.ofNat i < 0 ∧ Int32.ofNat i < z) (hat : vs.getD (Int32.ofNat i).toNatClampNeg (.int 0) = .int (StrChars.lo8 ch)) (hc : OwnC16 ch) (hc8 : ¬ 255 < ch) :
    MetFree l (⟨"java/lang/StringLatin1", "charAt", "([BI)C"⟩ : MethodName) (head1 (Jvm.Cond.code (⟨"java/lang/StringLatin1", "charAt", "([BI)C"⟩ : MethodName) jdk_43_method_2_code 2 (some .char) :: ws) ({ frames := 2, cells := 0, slots := 0, locals := 27 } : Room)) (fun a U => a = #[(.ref a0), (.int (Int32.ofNat i))] ∧ Z.Warmed39 U.vm ∧ U.heap = h0) (fun _ _ _ _ _ => True) (fun _ U o U' => ∃ v L, o = .returned v ∧ Qrm15 Z a0 i ka z vs ch fm h0 n0 v U'.heap L ∧ FrameEnd U o U' L ({ frames := 2, cells := 0, slots := 0, locals := 27 } : Room).cells ({ frames := 2, cells := 0, slots := 0, locals := 27 } : Room).slots) := by
  refine MetFree.of_bodySF (plainFor_of_name pn_6) hisR ?_
  intro p e s m args below meth c s₁ Bd hml0 hP hK
  obtain ⟨rfl, hZ, hh⟩ := hP
  have hx := Bd.exec
  have hby := Bd.bytes
  have hml : c.maxLocals = 2 := hml0
  have hown : s.vm.findClass "java/lang/StringLatin1" = some m.cls := findClass_of_methodNamed Bd.named
  have hnm := (name_of_methodNamed Bd.named Bd.method).1
  have X0 : Stand p l e ({ frames := 2, cells := 0, slots := 0, locals := 27 } : Room) s m #[(.ref a0), (.int (Int32.ofNat i))] below meth c s₁ [] 0 0 := Stand.of_body Bd
  have e0 : s₁.heap = h0 := by rw [← hh, Bd.state]; rfl
  have N0 := Fr.nil n0
  have hlk := Bd.notSynchronized
  show OwnGo p.tables e below _ (s₁.setTop (entryFrame m #[(.ref a0), (.int (Int32.ofNat i))] 2))
  rw [ef_rm15 m a0 i]
  show OwnGo p.tables e below _ (s₁.setTop (mkF m 0 #[.val (.ref a0), .val (.int (Int32.ofNat i))] []))
  refine OwnGo.of (B := s₁.setTop (mkF m 2 #[.val (.ref a0), .val (.int (Int32.ofNat i))] [(.ref a0), (.int (Int32.ofNat i))])) (fun t k => ?_) ?_
  · show Steps p.tables e below (s₁.setTop (mkF m 0 #[.val (.ref a0), .val (.int (Int32.ofNat i))] [])) t
    refine XS.iloadN X0.here hx rfl (hb hby d15_0) rfl ?_
    refine XS.aloadN X0.here hx rfl (hb hby d15_1) rfl rfl ?_
    exact k
  have cq1 := V_a
  obtain ⟨clq1, Arq1, qq1, Sq1, Nq1, Hq1, Gq1⟩ := cq1
  refine OwnGo.of (X0.arraylength hx (by rw [e0]; exact Arq1.1) (State.isArrayOf_alike hZ.alike Arq1.2.1) (g := (mkF m 2 #[.val (.ref a0), .val (.int (Int32.ofNat i))] [(.ref a0), (.int (Int32.ofNat i))])) rfl rfl (hb hby d15_2)) ?_
  rw [len_of Sq1 Nq1]
  show OwnGo p.tables e below _ (s₁.setTop (mkF m 3 #[.val (.ref a0), .val (.int (Int32.ofNat i))] [(.int z), (.int (Int32.ofNat i))]))
  obtain ⟨T2, L2, v2, X2, hQ2, st2⟩ := own_callS X0 hx (y := (⟨"java/lang/String", "checkIndex", "(II)V"⟩ : MethodName)) hown (mvT hZ (w74 hw)) (mvT hZ (w75 hw)) (mvT hZ (w8 hw)) (mvT hZ (w76 hw)) (by decide) (backOf (W := 0) (rm16 l Z aw hw [] (Int32.ofNat i) z fm h0 n0 Z0 S_SIOOBE_FORMATTER rf hin.1 hin.2) hZ (w76 hw) (w8 hw) (by decide) (by decide)) (g := (mkF m 3 #[.val (.ref a0), .val (.int (Int32.ofNat i))] [(.int z), (.int (Int32.ofNat i))])) rfl (by rw [hml]; rfl) (argsL := [(.int (Int32.ofNat i)), (.int z)]) (rest := []) (lenOf pd_58 rfl) rfl (by show 2 * 0 + _ ≤ _; exact Nat.le_of_eq rfl) (hb hby d15_3) rfl e0 (by decide) (by decide)
  obtain ⟨rfl, N2q, eq2⟩ := hQ2
  have N2 := Fr.app N0 N2q
  refine OwnGo.of st2 ?_
  show OwnGo p.tables e below _ (T2.setTop (mkF m 6 #[.val (.ref a0), .val (.int (Int32.ofNat i))] []))
  refine OwnGo.of (B := T2.setTop (mkF m 8 #[.val (.ref a0), .val (.int (Int32.ofNat i))] [(.int (Int32.ofNat i)), (.ref a0)])) (fun t k => ?_) ?_
  · show Steps p.tables e below (T2.setTop (mkF m 6 #[.val (.ref a0), .val (.int (Int32.ofNat i))] [])) t
    refine XS.aloadN X2.here hx rfl (hb hby d15_6) rfl rfl ?_
    refine XS.iloadN X2.here hx rfl (hb hby d15_7) rfl ?_
    exact k
  have cq3 := V_a
  obtain ⟨clq3, Arq3, qq3, Sq3, Nq3, Hq3, Gq3⟩ := cq3
  have hinq3 := inb_of (j := (Int32.ofNat i)) Sq3 hin
  refine OwnGo.of (X2.baloadBytes hx (j := (Int32.ofNat i)) (v := (.int (StrChars.lo8 ch))) (by rw [eq2]; exact Arq3.1) (State.isArrayOf_alike hZ.alike Arq3.2.1) Arq3.2.2 hinq3 (Hq3.at hinq3 hat) (g := (mkF m 8 #[.val (.ref a0), .val (.int (Int32.ofNat i))] [(.int (Int32.ofNat i)), (.ref a0)])) rfl rfl (hb hby d15_8)) ?_
  show OwnGo p.tables e below _ (T2.setTop (mkF m 9 #[.val (.ref a0), .val (.int (Int32.ofNat i))] [(.int (StrChars.lo8 ch))]))
  refine OwnGo.of (B := T2.setTop (mkF m 14 #[.val (.ref a0), .val (.int (Int32.ofNat i))] [(.int (((StrChars.lo8 ch) &&& (255 : Int32)).toUInt32.toUInt16.toUInt32.toInt32))])) (fun t k => ?_) ?_
  · show Steps p.tables e below (T2.setTop (mkF m 9 #[.val (.ref a0), .val (.int (Int32.ofNat i))] [(.int (StrChars.lo8 ch))])) t
    refine XS.sipush X2.here hx rfl (hb hby d15_9) ?_
    refine XS.iand X2.here hx rfl (hb hby d15_12) rfl ?_
    refine XS.i2c X2.here hx rfl (hb hby d15_13) rfl ?_
    exact k
  obtain ⟨fs, hr, hrun, hended, hW, hsame⟩ := X2.leave (v := some (.int (nar .char (((StrChars.lo8 ch) &&& (255 : Int32)).toUInt32.toUInt16.toUInt32.toInt32)))) (fun h => by rw [Bd.returns] at h; cases h) hlk
  refine ⟨_, _, ?_, hrun, hended, _, _, rfl, ?_, ⟨_, rfl⟩, hW, hsame.mono (by decide) (by decide)⟩
  · show Steps p.tables e below (T2.setTop (mkF m 14 #[.val (.ref a0), .val (.int (Int32.ofNat i))] [(.int (((StrChars.lo8 ch) &&& (255 : Int32)).toUInt32.toUInt16.toUInt32.toInt32))])) _
    exact retN X2 hx (t := .char) Bd.returns (by simp) (hb hby d15_14) hr
  · show Qrm15 Z a0 i ka z vs ch fm h0 n0 _ (T2.setFrames fs).heap _
    rw [show (T2.setFrames fs).heap = h0 from eq2]
    exact ⟨own_c8 hc hc8, N2, rfl⟩
theorem pn_60 : plainName "java/lang/StringUTF16" = true := by first | (simp [plainName, overriddenIn]; done) | decide +kernel
theorem d33_0 : decode jdk_52_method_6_code 0 = .ok (.aload_n 0, 1) := by decide +kernel
theorem d33_1 : decode jdk_52_method_6_code 1 = .ok (.arraylength, 1) := by decide +kernel
theorem d33_2 : decode jdk_52_method_6_code 2 = .ok (.iconst 1, 1) := by decide +kernel
theorem d33_3 : decode jdk_52_method_6_code 3 = .ok (.ishr, 1) := by decide +kernel
theorem d33_4 : decode jdk_52_method_6_code 4 = .ok (.ireturn, 1) := by decide +kernel
theorem ef_rm33 (m : MethodId) (a0 : Addr) : entryFrame m #[(.ref a0)] 1 = mkF m 0 #[.val (.ref a0)] [] := by first | (simp [entryFrame, mkF, argsToLocals, Value.category]; done) | rfl
def Qrm33 (Z : State) (a0 : Addr) (ka : ClassId) (z : Int32) (vs : List Value) (h0 : Heap) (n0 : Nat) (v : Option Value) (h : Heap) (L : List Loc) : Prop := v = some (.int (z >>> ((1 : Int32) &&& 31))) ∧ Fr n0 L ∧ h = h0
set_option maxRecDepth 65536 in
set_option maxHeartbeats 40000000 in
theorem rm33 (l : Launch) (Z : State) (aw : Array Value) (hw : ∀ d ∈ tables_1, d.before aw Z = true) (ws : List Jvm.Cond) (a0 : Addr) (ka : ClassId) (z : Int32) (vs : List Value) (h0 : Heap) (n0 : Nat) (Z0 : n0 ≤ h0.size) (V_a : Arv Z h0 a0 ka .byte z vs (.int (0 : Int32))) :
    MetFree l (⟨"java/lang/StringUTF16", "length", "([B)I"⟩ : MethodName) (head1 (Jvm.Cond.code (⟨"java/lang/StringUTF16", "length", "([B)I"⟩ : MethodName) jdk_52_method_6_code 1 (some .int) :: ws) ({ frames := 0, cells := 0, slots := 0, locals := 0 } : Room)) (fun a U => a = #[(.ref a0)] ∧ Z.Warmed39 U.vm ∧ U.heap = h0) (fun _ _ _ _ _ => True) (fun _ U o U' => ∃ v L, o = .returned v ∧ Qrm33 Z a0 ka z vs h0 n0 v U'.heap L ∧ FrameEnd U o U' L ({ frames := 0, cells := 0, slots := 0, locals := 0 } : Room).cells ({ frames := 0, cells := 0, slots := 0, locals := 0 } : Room).slots) := by
  refine MetFree.of_bodySF (plainFor_of_name pn_60) hisR ?_
  intro p e s m args below meth c s₁ Bd hml0 hP hK
  obtain ⟨rfl, hZ, hh⟩ := hP
  have hx := Bd.exec
  have hby := Bd.bytes
  have hml : c.maxLocals = 1 := hml0
  have hown : s.vm.findClass "java/lang/StringUTF16" = some m.cls := findClass_of_methodNamed Bd.named
  have hnm := (name_of_methodNamed Bd.named Bd.method).1
  have X0 : Stand p l e ({ frames := 0, cells := 0, slots := 0, locals := 0 } : Room) s m #[(.ref a0)] below meth c s₁ [] 0 0 := Stand.of_body Bd
  have e0 : s₁.heap = h0 := by rw [← hh, Bd.state]; rfl
  have N0 := Fr.nil n0
  have hlk := Bd.notSynchronized
  show OwnGo p.tables e below _ (s₁.setTop (entryFrame m #[(.ref a0)] 1))
  rw [ef_rm33 m a0]
  show OwnGo p.tables e below _ (s₁.setTop (mkF m 0 #[.val (.ref a0)] []))
  refine OwnGo.of (B := s₁.setTop (mkF m 1 #[.val (.ref a0)] [(.ref a0)])) (fun t k => ?_) ?_
  · show Steps p.tables e below (s₁.setTop (mkF m 0 #[.val (.ref a0)] [])) t
    refine XS.aloadN X0.here hx rfl (hb hby d33_0) rfl rfl ?_
    exact k
  have cq1 := V_a
  obtain ⟨clq1, Arq1, qq1, Sq1, Nq1, Hq1, Gq1⟩ := cq1
  refine OwnGo.of (X0.arraylength hx (by rw [e0]; exact Arq1.1) (State.isArrayOf_alike hZ.alike Arq1.2.1) (g := (mkF m 1 #[.val (.ref a0)] [(.ref a0)])) rfl rfl (hb hby d33_1)) ?_
  rw [len_of Sq1 Nq1]
  show OwnGo p.tables e below _ (s₁.setTop (mkF m 2 #[.val (.ref a0)] [(.int z)]))
  refine OwnGo.of (B := s₁.setTop (mkF m 4 #[.val (.ref a0)] [(.int (z >>> ((1 : Int32) &&& 31)))])) (fun t k => ?_) ?_
  · show Steps p.tables e below (s₁.setTop (mkF m 2 #[.val (.ref a0)] [(.int z)])) t
    refine XS.iconst X0.here hx rfl (hb hby d33_2) ?_
    refine XS.ishr X0.here hx rfl (hb hby d33_3) rfl ?_
    exact k
  obtain ⟨fs, hr, hrun, hended, hW, hsame⟩ := X0.leave (v := some (.int (z >>> ((1 : Int32) &&& 31)))) (fun h => by rw [Bd.returns] at h; cases h) hlk
  refine ⟨_, _, ?_, hrun, hended, _, _, rfl, ?_, ⟨_, rfl⟩, hW, hsame.mono (by decide) (by decide)⟩
  · show Steps p.tables e below (s₁.setTop (mkF m 4 #[.val (.ref a0)] [(.int (z >>> ((1 : Int32) &&& 31)))])) _
    exact own_retI X0 hx Bd.returns (hb hby d33_4) hr
  · show Qrm33 Z a0 ka z vs h0 n0 _ (s₁.setFrames fs).heap _
    rw [show (s₁.setFrames fs).heap = h0 from e0]
    exact ⟨rfl, N0, rfl⟩
theorem w138 {Z aw} (hw : OwnHW aw Z) : Cond.before (Jvm.Cond.methodLink "java/lang/StringUTF16" (48 : Nat) ({ cls := "java/lang/StringUTF16", name := "length", desc := "([B)I" } : Jvm.MethodName)) aw Z = true := hw _ (List.mem_of_getElem? (i := 138) rfl)
theorem w140 {Z aw} (hw : OwnHW aw Z) : Cond.before (Jvm.Cond.code ({ cls := "java/lang/StringUTF16", name := "length", desc := "([B)I" } : Jvm.MethodName) jdk_52_method_6_code (1 : Nat) (Option.some Jvm.ClassFile.FieldType.int)) aw Z = true := hw _ (List.mem_of_getElem? (i := 140) rfl)
theorem w42 {Z aw} (hw : OwnHW aw Z) : Cond.before (Jvm.Cond.initialized "java/lang/StringUTF16") aw Z = true := hw _ (List.mem_of_getElem? (i := 42) rfl)
theorem pd_64 : parseMethodDescriptor "([B)I" = some ⟨[(.array .byte)], some .int⟩ := by decide +kernel
theorem w139 {Z aw} (hw : OwnHW aw Z) : Cond.before (Jvm.Cond.static ({ cls := "java/lang/StringUTF16", name := "length", desc := "([B)I" } : Jvm.MethodName)) aw Z = true := hw _ (List.mem_of_getElem? (i := 139) rfl)
theorem w141 {Z aw} (hw : OwnHW aw Z) : Cond.before (Jvm.Cond.methodLink "java/lang/StringUTF16" (414 : Nat) ({ cls := "java/lang/String", name := "checkIndex", desc := "(II)V" } : Jvm.MethodName)) aw Z = true := hw _ (List.mem_of_getElem? (i := 141) rfl)
theorem d32_0 : decode jdk_52_method_91_code 0 = .ok (.iload_n 0, 1) := by decide +kernel
theorem d32_1 : decode jdk_52_method_91_code 1 = .ok (.aload_n 1, 1) := by decide +kernel
theorem d32_2 : decode jdk_52_method_91_code 2 = .ok (.invokestatic 48, 3) := by decide +kernel
theorem d32_5 : decode jdk_52_method_91_code 5 = .ok (.invokestatic 414, 3) := by decide +kernel
theorem d32_8 : decode jdk_52_method_91_code 8 = .ok (.return_, 1) := by decide +kernel
theorem ef_rm32 (m : MethodId) (p0 : Int32) (a1 : Addr) : entryFrame m #[(.int p0), (.ref a1)] 2 = mkF m 0 #[.val (.int p0), .val (.ref a1)] [] := by first | (simp [entryFrame, mkF, argsToLocals, Value.category]; done) | rfl
def Qrm32 (Z : State) (p0 : Int32) (a1 : Addr) (ka : ClassId) (z : Int32) (vs : List Value) (fm : Value) (h0 : Heap) (n0 : Nat) (v : Option Value) (h : Heap) (L : List Loc) : Prop := v = none ∧ Fr n0 L ∧ h = h0
set_option maxRecDepth 65536 in
set_option maxHeartbeats 40000000 in
theorem rm32 (l : Launch) (Z : State) (aw : Array Value) (hw : ∀ d ∈ tables_1, d.before aw Z = true) (ws : List Jvm.Cond) (p0 : Int32) (a1 : Addr) (ka : ClassId) (z : Int32) (vs : List Value) (fm : Value) (h0 : Heap) (n0 : Nat) (Z0 : n0 ≤ h0.size) (V_a : Arv Z h0 a1 ka .byte z vs (.int (0 : Int32))) (S_SIOOBE_FORMATTER : Sta Z h0 "jdk/internal/util/Preconditions" "SIOOBE_FORMATTER" "Ljava/util/function/BiFunction;" fm) (rf : fm.isRef = true) (h1 : ¬ (p0 < (0 : Int32))) (h2 : p0 < (z >>> ((1 : Int32) &&& 31))) :
    MetFree l (⟨"java/lang/StringUTF16", "checkIndex", "(I[B)V"⟩ : MethodName) (head1 (Jvm.Cond.code (⟨"java/lang/StringUTF16", "checkIndex", "(I[B)V"⟩ : MethodName) jdk_52_method_91_code 2 none :: ws) ({ frames := 2, cells := 0, slots := 0, locals := 27 } : Room)) (fun a U => a = #[(.int p0), (.ref a1)] ∧ Z.Warmed39 U.vm ∧ U.heap = h0) (fun _ _ _ _ _ => True) (fun _ U o U' => ∃ v L, o = .returned v ∧ Qrm32 Z p0 a1 ka z vs fm h0 n0 v U'.heap L ∧ FrameEnd U o U' L ({ frames := 2, cells := 0, slots := 0, locals := 27 } : Room).cells ({ frames := 2, cells := 0, slots := 0, locals := 27 } : Room).slots) := by
  refine MetFree.of_bodySF (plainFor_of_name pn_60) hisR ?_
  intro p e s m args below meth c s₁ Bd hml0 hP hK
  obtain ⟨rfl, hZ, hh⟩ := hP
  have hx := Bd.exec
  have hby := Bd.bytes
  have hml : c.maxLocals = 2 := hml0
  have hown : s.vm.findClass "java/lang/StringUTF16" = some m.cls := findClass_of_methodNamed Bd.named
  have hnm := (name_of_methodNamed Bd.named Bd.method).1
  have X0 : Stand p l e ({ frames := 2, cells := 0, slots := 0, locals := 27 } : Room) s m #[(.int p0), (.ref a1)] below meth c s₁ [] 0 0 := Stand.of_body Bd
  have e0 : s₁.heap = h0 := by rw [← hh, Bd.state]; rfl
  have N0 := Fr.nil n0
  have hlk := Bd.notSynchronized
  show OwnGo p.tables e below _ (s₁.setTop (entryFrame m #[(.int p0), (.ref a1)] 2))
  rw [ef_rm32 m p0 a1]
  show OwnGo p.tables e below _ (s₁.setTop (mkF m 0 #[.val (.int p0), .val (.ref a1)] []))
  refine OwnGo.of (B := s₁.setTop (mkF m 2 #[.val (.int p0), .val (.ref a1)] [(.ref a1), (.int p0)])) (fun t k => ?_) ?_
  · show Steps p.tables e below (s₁.setTop (mkF m 0 #[.val (.int p0), .val (.ref a1)] [])) t
    refine XS.iloadN X0.here hx rfl (hb hby d32_0) rfl ?_
    refine XS.aloadN X0.here hx rfl (hb hby d32_1) rfl rfl ?_
    exact k
  obtain ⟨T1, L1, v1, X1, hQ1, st1⟩ := own_callS X0 hx (y := (⟨"java/lang/StringUTF16", "length", "([B)I"⟩ : MethodName)) hown (mvT hZ (w138 hw)) (mvT hZ (w139 hw)) (mvT hZ (w42 hw)) (mvT hZ (w140 hw)) (by decide) (backOf (W := 1) (rm33 l Z aw hw [] a1 ka z vs h0 n0 Z0 V_a) hZ (w140 hw) (w42 hw) (by decide) (by decide)) (g := (mkF m 2 #[.val (.int p0), .val (.ref a1)] [(.ref a1), (.int p0)])) rfl (by rw [hml]; rfl) (argsL := [(.ref a1)]) (rest := [(.int p0)]) (lenOf pd_64 rfl) rfl (by show 2 * 0 + _ ≤ _; exact Nat.le_of_eq rfl) (hb hby d32_2) rfl e0 (by decide) (by decide)
  obtain ⟨rfl, N1q, eq1⟩ := hQ1
  have N1 := Fr.app N0 N1q
  refine OwnGo.of st1 ?_
  show OwnGo p.tables e below _ (T1.setTop (mkF m 5 #[.val (.int p0), .val (.ref a1)] [(.int (z >>> ((1 : Int32) &&& 31))), (.int p0)]))
  obtain ⟨T2, L2, v2, X2, hQ2, st2⟩ := own_callS X1 hx (y := (⟨"java/lang/String", "checkIndex", "(II)V"⟩ : MethodName)) hown (mvT hZ (w141 hw)) (mvT hZ (w75 hw)) (mvT hZ (w8 hw)) (mvT hZ (w76 hw)) (by decide) (backOf (W := 0) (rm16 l Z aw hw [] p0 (z >>> ((1 : Int32) &&& 31)) fm h0 n0 Z0 S_SIOOBE_FORMATTER rf h1 h2) hZ (w76 hw) (w8 hw) (by decide) (by decide)) (g := (mkF m 5 #[.val (.int p0), .val (.ref a1)] [(.int (z >>> ((1 : Int32) &&& 31))), (.int p0)])) rfl (by rw [hml]; rfl) (argsL := [(.int p0), (.int (z >>> ((1 : Int32) &&& 31)))]) (rest := []) (lenOf pd_58 rfl) rfl (by show 2 * 0 + _ ≤ _; exact Nat.le_of_eq rfl) (hb hby d32_5) rfl eq1 (by decide) (by decide)
  obtain ⟨rfl, N2q, eq2⟩ := hQ2
  have N2 := Fr.app N1 N2q
  refine OwnGo.of st2 ?_
  show OwnGo p.tables e below _ (T2.setTop (mkF m 8 #[.val (.int p0), .val (.ref a1)] []))
  obtain ⟨fs, hr, hrun, hended, hW, hsame⟩ := X2.leave (v := none) (fun _ => rfl) hlk
  refine ⟨_, _, ?_, hrun, hended, _, _, rfl, ?_, ⟨_, rfl⟩, hW, hsame.mono (by decide) (by decide)⟩
  · show Steps p.tables e below (T2.setTop (mkF m 8 #[.val (.int p0), .val (.ref a1)] [])) _
    exact X2.returnOut hx Bd.returns (hb hby d32_8) hr
  · show Qrm32 Z p0 a1 ka z vs fm h0 n0 _ (T2.setFrames fs).heap _
    rw [show (T2.setFrames fs).heap = h0 from eq2]
    exact ⟨rfl, N2, rfl⟩
theorem w126 {Z aw} (hw : OwnHW aw Z) : Cond.before (Jvm.Cond.fieldLink "java/lang/StringUTF16" (44 : Nat) "java/lang/StringUTF16" "$assertionsDisabled" "Z") aw Z = true := hw _ (List.mem_of_getElem? (i := 126) rfl)
theorem w127 {Z aw} (hw : OwnHW aw Z) : Cond.before (Jvm.Cond.fieldLink "java/lang/StringUTF16" (59 : Nat) "java/lang/StringUTF16" "HI_BYTE_SHIFT" "I") aw Z = true := hw _ (List.mem_of_getElem? (i := 127) rfl)
theorem w128 {Z aw} (hw : OwnHW aw Z) : Cond.before (Jvm.Cond.fieldLink "java/lang/StringUTF16" (63 : Nat) "java/lang/StringUTF16" "LO_BYTE_SHIFT" "I") aw Z = true := hw _ (List.mem_of_getElem? (i := 128) rfl)
theorem d30_0 : decode jdk_52_method_5_code 0 = .ok (.getstatic 44, 3) := by decide +kernel
theorem d30_3 : decode jdk_52_method_5_code 3 = .ok (.ifCond .ne 25, 3) := by decide +kernel
theorem d30_28 : decode jdk_52_method_5_code 28 = .ok (.iload_n 1, 1) := by decide +kernel
theorem d30_29 : decode jdk_52_method_5_code 29 = .ok (.iconst 1, 1) := by decide +kernel
theorem d30_30 : decode jdk_52_method_5_code 30 = .ok (.ishl, 1) := by decide +kernel
theorem d30_31 : decode jdk_52_method_5_code 31 = .ok (.istore_n 1, 1) := by decide +kernel
theorem d30_32 : decode jdk_52_method_5_code 32 = .ok (.aload_n 0, 1) := by decide +kernel
theorem d30_33 : decode jdk_52_method_5_code 33 = .ok (.iload_n 1, 1) := by decide +kernel
theorem d30_34 : decode jdk_52_method_5_code 34 = .ok (.iinc 1 1, 3) := by decide +kernel
theorem d30_37 : decode jdk_52_method_5_code 37 = .ok (.baload, 1) := by decide +kernel
theorem d30_38 : decode jdk_52_method_5_code 38 = .ok (.sipush 255, 3) := by decide +kernel
theorem d30_41 : decode jdk_52_method_5_code 41 = .ok (.iand, 1) := by decide +kernel
theorem d30_42 : decode jdk_52_method_5_code 42 = .ok (.getstatic 59, 3) := by decide +kernel
theorem d30_45 : decode jdk_52_method_5_code 45 = .ok (.ishl, 1) := by decide +kernel
theorem d30_46 : decode jdk_52_method_5_code 46 = .ok (.aload_n 0, 1) := by decide +kernel
theorem d30_47 : decode jdk_52_method_5_code 47 = .ok (.iload_n 1, 1) := by decide +kernel
theorem d30_48 : decode jdk_52_method_5_code 48 = .ok (.baload, 1) := by decide +kernel
theorem d30_49 : decode jdk_52_method_5_code 49 = .ok (.sipush 255, 3) := by decide +kernel
theorem d30_52 : decode jdk_52_method_5_code 52 = .ok (.iand, 1) := by decide +kernel
theorem d30_53 : decode jdk_52_method_5_code 53 = .ok (.getstatic 63, 3) := by decide +kernel
theorem d30_56 : decode jdk_52_method_5_code 56 = .ok (.ishl, 1) := by decide +kernel
theorem d30_57 : decode jdk_52_method_5_code 57 = .ok (.ior, 1) := by decide +kernel
theorem d30_58 : decode jdk_52_method_5_code 58 = .ok (.i2c, 1) := by decide +kernel
theorem d30_59 : decode jdk_52_method_5_code 59 = .ok (.ireturn, 1) := by decide +kernel
theorem ef_rm30 (m : MethodId) (a0 : Addr) (p1 : Int32) : entryFrame m #[(.ref a0), (.int p1)] 2 = mkF m 0 #[.val (.ref a0), .val (.int p1)] [] := by first | (simp [entryFrame, mkF, argsToLocals, Value.category]; done) | rfl
def Qrm30 (Z : State) (a0 : Addr) (p1 : Int32) (ka : ClassId) (z : Int32) (vs : List Value) (ch : Int32) (h0 : Heap) (n0 : Nat) (v : Option Value) (h : Heap) (L : List Loc) : Prop := v = some (.int ch) ∧ Fr n0 L ∧ h = h0
set_option maxRecDepth 65536 in
set_option maxHeartbeats 40000000 in
theorem rm30 (l : Launch) (Z : State) (aw : Array Value) (hw : ∀ d ∈ tables_1, d.before aw Z = true) (ws : List Jvm.Cond) (a0 : Addr) (p1 : Int32) (ka : ClassId) (z : Int32) (vs : List Value) (ch : Int32) (h0 : Heap) (n0 : Nat) (Z0 : n0 ≤ h0.size) (V_a : Arv Z h0 a0 ka .byte z vs (.int (0 : Int32))) (S__assertionsDisabled : Sta Z h0 "java/lang/StringUTF16" "$assertionsDisabled" "Z" (.int (1 : Int32))) (S_HI_BYTE_SHIFT : Sta Z h0 "java/lang/StringUTF16" "HI_BYTE_SHIFT" "I" (.int (0 : Int32))) (S_LO_BYTE_SHIFT : Sta Z h0 "java/lang/StringUTF16" "LO_BYTE_SHIFT" "I" (.int (8 : Int32))) (hb1 : ¬ (p1 <<< ((1 : Int32) &&& 31)) < 0 ∧ (p1 <<< ((1 : Int32) &&& 31)) < z) (hb2 : ¬ ((p1 <<< ((1 : Int32) &&& 31)) + (1 : Int32)) < 0 ∧ ((p1 <<< ((1 : Int32) &&& 31)) + (1 : Int32)) < z) (ha1 : vs.getD (p1 <<< ((1 : Int32) &&& 31)).toNatClampNeg (.int 0) = .int (StrChars.lo8 ch)) (ha2 : vs.getD ((p1 <<< ((1 : Int32) &&& 31)) + (1 : Int32)).toNatClampNeg (.int 0) = .int (StrChars.hi8 ch)) (hc : OwnC16 ch) :
    MetFree l (⟨"java/lang/StringUTF16", "getChar", "([BI)C"⟩ : MethodName) (head1 (Jvm.Cond.code (⟨"java/lang/StringUTF16", "getChar", "([BI)C"⟩ : MethodName) jdk_52_method_5_code 2 (some .char) :: ws) ({ frames := 0, cells := 0, slots := 0, locals := 0 } : Room)) (fun a U => a = #[(.ref a0), (.int p1)] ∧ Z.Warmed39 U.vm ∧ U.heap = h0) (fun _ _ _ _ _ => True) (fun _ U o U' => ∃ v L, o = .returned v ∧ Qrm30 Z a0 p1 ka z vs ch h0 n0 v U'.heap L ∧ FrameEnd U o U' L ({ frames := 0, cells := 0, slots := 0, locals := 0 } : Room).cells ({ frames := 0, cells := 0, slots := 0, locals := 0 } : Room).slots) := by
  refine MetFree.of_bodySF (plainFor_of_name pn_60) hisR ?_
  intro p e s m args below meth c s₁ Bd hml0 hP hK
  obtain ⟨rfl, hZ, hh⟩ := hP
  have hx := Bd.exec
  have hby := Bd.bytes
  have hml : c.maxLocals = 2 := hml0
  have hown : s.vm.findClass "java/lang/StringUTF16" = some m.cls := findClass_of_methodNamed Bd.named
  have hnm := (name_of_methodNamed Bd.named Bd.method).1
  have X0 : Stand p l e ({ frames := 0, cells := 0, slots := 0, locals := 0 } : Room) s m #[(.ref a0), (.int p1)] below meth c s₁ [] 0 0 := Stand.of_body Bd
  have e0 : s₁.heap = h0 := by rw [← hh, Bd.state]; rfl
  have N0 := Fr.nil n0
  have hlk := Bd.notSynchronized
  show OwnGo p.tables e below _ (s₁.setTop (entryFrame m #[(.ref a0), (.int p1)] 2))
  rw [ef_rm30 m a0 p1]
  show OwnGo p.tables e below _ (s₁.setTop (mkF m 0 #[.val (.ref a0), .val (.int p1)] []))
  obtain ⟨T1, X1, e1, st1⟩ := getS2 X0 hx hZ hown (host := "") (Or.inl (w126 hw)) Via.refl e0 S__assertionsDisabled (g := (mkF m 0 #[.val (.ref a0), .val (.int p1)] [])) rfl (hb hby d30_0)
  refine OwnGo.of st1 ?_
  show OwnGo p.tables e below _ (T1.setTop (mkF m 3 #[.val (.ref a0), .val (.int p1)] [(.int (1 : Int32))]))
  have hc2 : ¬ ((1 : Int32) = (0 : Int32)) := by decide
  refine OwnGo.of (B := T1.setTop (mkF m 37 #[.val (.ref a0), .val (.int ((p1 <<< ((1 : Int32) &&& 31)) + (1 : Int32)))] [(.int (p1 <<< ((1 : Int32) &&& 31))), (.ref a0)])) (fun t k => ?_) ?_
  · show Steps p.tables e below (T1.setTop (mkF m 3 #[.val (.ref a0), .val (.int p1)] [(.int (1 : Int32))])) t
    refine XS.ifYes X1.here hx rfl (pc0 := 3) (pc' := 28) rfl (hb hby d30_3) rfl ((if0 _ _).trans (feq hc2).2) (by decide) (by decide) ?_
    refine XS.iloadN X1.here hx rfl (hb hby d30_28) rfl ?_
    refine XS.iconst X1.here hx rfl (hb hby d30_29) ?_
    refine XS.ishl X1.here hx rfl (hb hby d30_30) rfl ?_
    refine XS.istoreN X1.here hx rfl (hb hby d30_31) rfl (l' := #[.val (.ref a0), .val (.int (p1 <<< ((1 : Int32) &&& 31)))]) rfl ?_
    refine XS.aloadN X1.here hx rfl (hb hby d30_32) rfl rfl ?_
    refine XS.iloadN X1.here hx rfl (hb hby d30_33) rfl ?_
    refine XS.iinc X1.here hx rfl (hb hby d30_34) rfl (l' := #[.val (.ref a0), .val (.int ((p1 <<< ((1 : Int32) &&& 31)) + (1 : Int32)))]) rfl ?_
    exact k
  have cq3 := V_a
  obtain ⟨clq3, Arq3, qq3, Sq3, Nq3, Hq3, Gq3⟩ := cq3
  have hinq3 := inb_of (j := (p1 <<< ((1 : Int32) &&& 31))) Sq3 hb1
  refine OwnGo.of (X1.baloadBytes hx (j := (p1 <<< ((1 : Int32) &&& 31))) (v := (.int (StrChars.lo8 ch))) (by rw [e1]; exact Arq3.1) (State.isArrayOf_alike hZ.alike Arq3.2.1) Arq3.2.2 hinq3 (Hq3.at hinq3 ha1) (g := (mkF m 37 #[.val (.ref a0), .val (.int ((p1 <<< ((1 : Int32) &&& 31)) + (1 : Int32)))] [(.int (p1 <<< ((1 : Int32) &&& 31))), (.ref a0)])) rfl rfl (hb hby d30_37)) ?_
  show OwnGo p.tables e below _ (T1.setTop (mkF m 38 #[.val (.ref a0), .val (.int ((p1 <<< ((1 : Int32) &&& 31)) + (1 : Int32)))] [(.int (StrChars.lo8 ch))]))
  refine OwnGo.of (B := T1.setTop (mkF m 42 #[.val (.ref a0), .val (.int ((p1 <<< ((1 : Int32) &&& 31)) + (1 : Int32)))] [(.int ((StrChars.lo8 ch) &&& (255 : Int32)))])) (fun t k => ?_) ?_
  · show Steps p.tables e below (T1.setTop (mkF m 38 #[.val (.ref a0), .val (.int ((p1 <<< ((1 : Int32) &&& 31)) + (1 : Int32)))] [(.int (StrChars.lo8 ch))])) t
    refine XS.sipush X1.here hx rfl (hb hby d30_38) ?_
    refine XS.iand X1.here hx rfl (hb hby d30_41) rfl ?_
    exact k
  obtain ⟨T4, X4, e4, st4⟩ := getS2 X1 hx hZ hown (host := "") (Or.inl (w127 hw)) Via.refl e1 S_HI_BYTE_SHIFT (g := (mkF m 42 #[.val (.ref a0), .val (.int ((p1 <<< ((1 : Int32) &&& 31)) + (1 : Int32)))] [(.int ((StrChars.lo8 ch) &&& (255 : Int32)))])) rfl (hb hby d30_42)
  refine OwnGo.of st4 ?_
  show OwnGo p.tables e below _ (T4.setTop (mkF m 45 #[.val (.ref a0), .val (.int ((p1 <<< ((1 : Int32) &&& 31)) + (1 : Int32)))] [(.int (0 : Int32)), (.int ((StrChars.lo8 ch) &&& (255 : Int32)))]))
  refine OwnGo.of (B := T4.setTop (mkF m 48 #[.val (.ref a0), .val (.int ((p1 <<< ((1 : Int32) &&& 31)) + (1 : Int32)))] [(.int ((p1 <<< ((1 : Int32) &&& 31)) + (1 : Int32))), (.ref a0), (.int (((StrChars.lo8 ch) &&& (255 : Int32)) <<< ((0 : Int32) &&& 31)))])) (fun t k => ?_) ?_
  · show Steps p.tables e below (T4.setTop (mkF m 45 #[.val (.ref a0), .val (.int ((p1 <<< ((1 : Int32) &&& 31)) + (1 : Int32)))] [(.int (0 : Int32)), (.int ((StrChars.lo8 ch) &&& (255 : Int32)))])) t
    refine XS.ishl X4.here hx rfl (hb hby d30_45) rfl ?_
    refine XS.aloadN X4.here hx rfl (hb hby d30_46) rfl rfl ?_
    refine XS.iloadN X4.here hx rfl (hb hby d30_47) rfl ?_
    exact k
  have cq5 := V_a
  obtain ⟨clq5, Arq5, qq5, Sq5, Nq5, Hq5, Gq5⟩ := cq5
  have hinq5 := inb_of (j := ((p1 <<< ((1 : Int32) &&& 31)) + (1 : Int32))) Sq5 hb2
  refine OwnGo.of (X4.baloadBytes hx (j := ((p1 <<< ((1 : Int32) &&& 31)) + (1 : Int32))) (v := (.int (StrChars.hi8 ch))) (by rw [e4]; exact Arq5.1) (State.isArrayOf_alike hZ.alike Arq5.2.1) Arq5.2.2 hinq5 (Hq5.at hinq5 ha2) (g := (mkF m 48 #[.val (.ref a0), .val (.int ((p1 <<< ((1 : Int32) &&& 31)) + (1 : Int32)))] [(.int ((p1 <<< ((1 : Int32) &&& 31)) + (1 : Int32))), (.ref a0), (.int (((StrChars.lo8 ch) &&& (255 : Int32)) <<< ((0 : Int32) &&& 31)))])) rfl rfl (hb hby d30_48)) ?_
  show OwnGo p.tables e below _ (T4.setTop (mkF m 49 #[.val (.ref a0), .val (.int ((p1 <<< ((1 : Int32) &&& 31)) + (1 : Int32)))] [(.int (StrChars.hi8 ch)), (.int (((StrChars.lo8 ch) &&& (255 : Int32)) <<< ((0 : Int32) &&& 31)))]))
  refine OwnGo.of (B := T4.setTop (mkF m 53 #[.val (.ref a0), .val (.int ((p1 <<< ((1 : Int32) &&& 31)) + (1 : Int32)))] [(.int ((StrChars.hi8 ch) &&& (255 : Int32))), (.int (((StrChars.lo8 ch) &&& (255 : Int32)) <<< ((0 : Int32) &&& 31)))])) (fun t k => ?_) ?_
  · show Steps p.tables e below (T4.setTop (mkF m 49 #[.val (.ref a0), .val (.int ((p1 <<< ((1 : Int32) &&& 31)) + (1 : Int32)))] [(.int (StrChars.hi8 ch)), (.int (((StrChars.lo8 ch) &&& (255 : Int32)) <<< ((0 : Int32) &&& 31)))])) t
    refine XS.sipush X4.here hx rfl (hb hby d30_49) ?_
    refine XS.iand X4.here hx rfl (hb hby d30_52) rfl ?_
    exact k
  obtain ⟨T6, X6, e6, st6⟩ := getS2 X4 hx hZ hown (host := "") (Or.inl (w128 hw)) Via.refl e4 S_LO_BYTE_SHIFT (g := (mkF m 53 #[.val (.ref a0), .val (.int ((p1 <<< ((1 : Int32) &&& 31)) + (1 : Int32)))] [(.int ((StrChars.hi8 ch) &&& (255 : Int32))), (.int (((StrChars.lo8 ch) &&& (255 : Int32)) <<< ((0 : Int32) &&& 31)))])) rfl (hb hby d30_53)
  refine OwnGo.of st6 ?_
  show OwnGo p.tables e below _ (T6.setTop (mkF m 56 #[.val (.ref a0), .val (.int ((p1 <<< ((1 : Int32) &&& 31)) + (1 : Int32)))] [(.int (8 : Int32)), (.int ((StrChars.hi8 ch) &&& (255 : Int32))), (.int (((StrChars.lo8 ch) &&& (255 : Int32)) <<< ((0 : Int32) &&& 31)))]))
  refine OwnGo.of (B := T6.setTop (mkF m 59 #[.val (.ref a0), .val (.int ((p1 <<< ((1 : Int32) &&& 31)) + (1 : Int32)))] [(.int (((((StrChars.lo8 ch) &&& (255 : Int32)) <<< ((0 : Int32) &&& 31)) ||| (((StrChars.hi8 ch) &&& (255 : Int32)) <<< ((8 : Int32) &&& 31))).toUInt32.toUInt16.toUInt32.toInt32))])) (fun t k => ?_) ?_
  · show Steps p.tables e below (T6.setTop (mkF m 56 #[.val (.ref a0), .val (.int ((p1 <<< ((1 : Int32) &&& 31)) + (1 : Int32)))] [(.int (8 : Int32)), (.int ((StrChars.hi8 ch) &&& (255 : Int32))), (.int (((StrChars.lo8 ch) &&& (255 : Int32)) <<< ((0 : Int32) &&& 31)))])) t
    refine XS.ishl X6.here hx rfl (hb hby d30_56) rfl ?_
    refine XS.ior X6.here hx rfl (hb hby d30_57) rfl ?_
    refine XS.i2c X6.here hx rfl (hb hby d30_58) rfl ?_
    exact k
  obtain ⟨fs, hr, hrun, hended, hW, hsame⟩ := X6.leave (v := some (.int (nar .char (((((StrChars.lo8 ch) &&& (255 : Int32)) <<< ((0 : Int32) &&& 31)) ||| (((StrChars.hi8 ch) &&& (255 : Int32)) <<< ((8 : Int32) &&& 31))).toUInt32.toUInt16.toUInt32.toInt32)))) (fun h => by rw [Bd.returns] at h; cases h) hlk
  refine ⟨_, _, ?_, hrun, hended, _, _, rfl, ?_, ⟨_, rfl⟩, hW, hsame.mono (by decide) (by decide)⟩
  · show Steps p.tables e below (T6.setTop (mkF m 59 #[.val (.ref a0), .val (.int ((p1 <<< ((1 : Int32) &&& 31)) + (1 : Int32)))] [(.int (((((StrChars.lo8 ch) &&& (255 : Int32)) <<< ((0 : Int32) &&& 31)) ||| (((StrChars.hi8 ch) &&& (255 : Int32)) <<< ((8 : Int32) &&& 31))).toUInt32.toUInt16.toUInt32.toInt32))])) _
    exact retN X6 hx (t := .char) Bd.returns (by simp) (hb hby d30_59) hr
  · show Qrm30 Z a0 p1 ka z vs ch h0 n0 _ (T6.setFrames fs).heap _
    rw [show (T6.setFrames fs).heap = h0 from e6]
    exact ⟨own_cp hc, N0, rfl⟩
theorem w135 {Z aw} (hw : OwnHW aw Z) : Cond.before (Jvm.Cond.methodLink "java/lang/StringUTF16" (67 : Nat) ({ cls := "java/lang/StringUTF16", name := "checkIndex", desc := "(I[B)V" } : Jvm.MethodName)) aw Z = true := hw _ (List.mem_of_getElem? (i := 135) rfl)
theorem w137 {Z aw} (hw : OwnHW aw Z) : Cond.before (Jvm.Cond.code ({ cls := "java/lang/StringUTF16", name := "checkIndex", desc := "(I[B)V" } : Jvm.MethodName) jdk_52_method_91_code (2 : Nat) (Option.none : Option Jvm.ClassFile.FieldType)) aw Z = true := hw _ (List.mem_of_getElem? (i := 137) rfl)
theorem pd_72 : parseMethodDescriptor "(I[B)V" = some ⟨[.int, (.array .byte)], none⟩ := by decide +kernel
theorem w136 {Z aw} (hw : OwnHW aw Z) : Cond.before (Jvm.Cond.static ({ cls := "java/lang/StringUTF16", name := "checkIndex", desc := "(I[B)V" } : Jvm.MethodName)) aw Z = true := hw _ (List.mem_of_getElem? (i := 136) rfl)
theorem w129 {Z aw} (hw : OwnHW aw Z) : Cond.before (Jvm.Cond.methodLink "java/lang/StringUTF16" (71 : Nat) ({ cls := "java/lang/StringUTF16", name := "getChar", desc := "([BI)C" } : Jvm.MethodName)) aw Z = true := hw _ (List.mem_of_getElem? (i := 129) rfl)
theorem w131 {Z aw} (hw : OwnHW aw Z) : Cond.before (Jvm.Cond.code ({ cls := "java/lang/StringUTF16", name := "getChar", desc := "([BI)C" } : Jvm.MethodName) jdk_52_method_5_code (2 : Nat) (Option.some Jvm.ClassFile.FieldType.char)) aw Z = true := hw _ (List.mem_of_getElem? (i := 131) rfl)
theorem pd_76 : parseMethodDescriptor "([BI)C" = some ⟨[(.array .byte), .int], some .char⟩ := by decide +kernel
theorem w130 {Z aw} (hw : OwnHW aw Z) : Cond.before (Jvm.Cond.static ({ cls := "java/lang/StringUTF16", name := "getChar", desc := "([BI)C" } : Jvm.MethodName)) aw Z = true := hw _ (List.mem_of_getElem? (i := 130) rfl)
theorem d31_0 : decode jdk_52_method_83_code 0 = .ok (.iload_n 1, 1) := by decide +kernel
theorem d31_1 : decode jdk_52_method_83_code 1 = .ok (.aload_n 0, 1) := by decide +kernel
theorem d31_2 : decode jdk_52_method_83_code 2 = .ok (.invokestatic 67, 3) := by decide +kernel
theorem d31_5 : decode jdk_52_method_83_code 5 = .ok (.aload_n 0, 1) := by decide +kernel
theorem d31_6 : decode jdk_52_method_83_code 6 = .ok (.iload_n 1, 1) := by decide +kernel
theorem d31_7 : decode jdk_52_method_83_code 7 = .ok (.invokestatic 71, 3) := by decide +kernel
theorem d31_10 : decode jdk_52_method_83_code 10 = .ok (.ireturn, 1) := by decide +kernel
theorem ef_rm31 (m : MethodId) (a0 : Addr) (p1 : Int32) : entryFrame m #[(.ref a0), (.int p1)] 2 = mkF m 0 #[.val (.ref a0), .val (.int p1)] [] := by first | (simp [entryFrame, mkF, argsToLocals, Value.category]; done) | rfl
def Qrm31 (Z : State) (a0 : Addr) (p1 : Int32) (ka : ClassId) (z : Int32) (vs : List Value) (ch : Int32) (fm : Value) (h0 : Heap) (n0 : Nat) (v : Option Value) (h : Heap) (L : List Loc) : Prop := v = some (.int ch) ∧ Fr n0 L ∧ h = h0
set_option maxRecDepth 65536 in
set_option maxHeartbeats 40000000 in
theorem rm31 (l : Launch) (Z : State) (aw : Array Value) (hw : ∀ d ∈ tables_1, d.before aw Z = true) (ws : List Jvm.Cond) (a0 : Addr) (p1 : Int32) (ka : ClassId) (z : Int32) (vs : List Value) (ch : Int32) (fm : Value) (h0 : Heap) (n0 : Nat) (Z0 : n0 ≤ h0.size) (V_a : Arv Z h0 a0 ka .byte z vs (.int (0 : Int32))) (S_SIOOBE_FORMATTER : Sta Z h0 "jdk/internal/util/Preconditions" "SIOOBE_FORMATTER" "Ljava/util/function/BiFunction;" fm) (rf : fm.isRef = true) (S__assertionsDisabled : Sta Z h0 "java/lang/StringUTF16" "$assertionsDisabled" "Z" (.int (1 : Int32))) (S_HI_BYTE_SHIFT : Sta Z h0 "java/lang/StringUTF16" "HI_BYTE_SHIFT" "I" (.int (0 : Int32))) (S_LO_BYTE_SHIFT : Sta Z h0 "java/lang/StringUTF16" "LO_BYTE_SHIFT" "I" (.int (8 : Int32))) (hb1 : ¬ (p1 <<< ((1 : Int32) &&& 31)) < 0 ∧ (p1 <<< ((1 : Int32) &&& 31)) < z) (hb2 : ¬ ((p1 <<< ((1 : Int32) &&& 31)) + (1 : Int32)) < 0 ∧ ((p1 <<< ((1 : Int32) &&& 31)) + (1 : Int32)) < z) (ha1 : vs.getD (p1 <<< ((1 : Int32) &&& 31)).toNatClampNeg (.int 0) = .int (StrChars.lo8 ch)) (ha2 : vs.getD ((p1 <<< ((1 : Int32) &&& 31)) + (1 : Int32)).toNatClampNeg (.int 0) = .int (StrChars.hi8 ch)) (hc : OwnC16 ch) (hi1 : ¬ (p1 < (0 : Int32))) (hi2 : p1 < (z >>> ((1 : Int32) &&& 31))) :
    MetFree l (⟨"java/lang/StringUTF16", "charAt", "([BI)C"⟩ : MethodName) (head1 (Jvm.Cond.code (⟨"java/lang/StringUTF16", "charAt", "([BI)C"⟩ : MethodName) jdk_52_method_83_code 2 (some .char) :: ws) ({ frames := 3, cells := 0, slots := 0, locals := 40 } : Room)) (fun a U => a = #[(.ref a0), (.int p1)] ∧ Z.Warmed39 U.vm ∧ U.heap = h0) (fun _ _ _ _ _ => True) (fun _ U o U' => ∃ v L, o = .returned v ∧ Qrm31 Z a0 p1 ka z vs ch fm h0 n0 v U'.heap L ∧ FrameEnd U o U' L ({ frames := 3, cells := 0, slots := 0, locals := 40 } : Room).cells ({ frames := 3, cells := 0, slots := 0, locals := 40 } : Room).slots) := by
  refine MetFree.of_bodySF (plainFor_of_name pn_60) hisR ?_
  intro p e s m args below meth c s₁ Bd hml0 hP hK
  obtain ⟨rfl, hZ, hh⟩ := hP
  have hx := Bd.exec
  have hby := Bd.bytes
  have hml : c.maxLocals = 2 := hml0
  have hown : s.vm.findClass "java/lang/StringUTF16" = some m.cls := findClass_of_methodNamed Bd.named
  have hnm := (name_of_methodNamed Bd.named Bd.method).1
  have X0 : Stand p l e ({ frames := 3, cells := 0, slots := 0, locals := 40 } : Room) s m #[(.ref a0), (.int p1)] below meth c s₁ [] 0 0 := Stand.of_body Bd
  have e0 : s₁.heap = h0 := by rw [← hh, Bd.state]; rfl
  have N0 := Fr.nil n0
  have hlk := Bd.notSynchronized
  show OwnGo p.tables e below _ (s₁.setTop (entryFrame m #[(.ref a0), (.int p1)] 2))
  rw [ef_rm31 m a0 p1]
  show OwnGo p.tables e below _ (s₁.setTop (mkF m 0 #[.val (.ref a0), .val (.int p1)] []))
  refine OwnGo.of (B := s₁.setTop (mkF m 2 #[.val (.ref a0), .val (.int p1)] [(.ref a0), (.int p1)])) (fun t k => ?_) ?_
  · show Steps p.tables e below (s₁.setTop (mkF m 0 #[.val (.ref a0), .val (.int p1)] [])) t
    refine XS.iloadN X0.here hx rfl (hb hby d31_0) rfl ?_
    refine XS.aloadN X0.here hx rfl (hb hby d31_1) rfl rfl ?_
    exact k
  obtain ⟨T1, L1, v1, X1, hQ1, st1⟩ := own_callS X0 hx (y := (⟨"java/lang/StringUTF16", "checkIndex", "(I[B)V"⟩ : MethodName)) hown (mvT hZ (w135 hw)) (mvT hZ (w136 hw)) (mvT hZ (w42 hw)) (mvT hZ (w137 hw)) (by decide) (backOf (W := 0) (rm32 l Z aw hw [] p1 a0 ka z vs fm h0 n0 Z0 V_a S_SIOOBE_FORMATTER rf hi1 hi2) hZ (w137 hw) (w42 hw) (by decide) (by decide)) (g := (mkF m 2 #[.val (.ref a0), .val (.int p1)] [(.ref a0), (.int p1)])) rfl (by rw [hml]; rfl) (argsL := [(.int p1), (.ref a0)]) (rest := []) (lenOf pd_72 rfl) rfl (by show 2 * 0 + _ ≤ _; exact Nat.le_of_eq rfl) (hb hby d31_2) rfl e0 (by decide) (by decide)
  obtain ⟨rfl, N1q, eq1⟩ := hQ1
  have N1 := Fr.app N0 N1q
  refine OwnGo.of st1 ?_
  show OwnGo p.tables e below _ (T1.setTop (mkF m 5 #[.val (.ref a0), .val (.int p1)] []))
  refine OwnGo.of (B := T1.setTop (mkF m 7 #[.val (.ref a0), .val (.int p1)] [(.int p1), (.ref a0)])) (fun t k => ?_) ?_
  · show Steps p.tables e below (T1.setTop (mkF m 5 #[.val (.ref a0), .val (.int p1)] [])) t
    refine XS.aloadN X1.here hx rfl (hb hby d31_5) rfl rfl ?_
    refine XS.iloadN X1.here hx rfl (hb hby d31_6) rfl ?_
    exact k
  obtain ⟨T2, L2, v2, X2, hQ2, st2⟩ := own_callS X1 hx (y := (⟨"java/lang/StringUTF16", "getChar", "([BI)C"⟩ : MethodName)) hown (mvT hZ (w129 hw)) (mvT hZ (w130 hw)) (mvT hZ (w42 hw)) (mvT hZ (w131 hw)) (by decide) (backOf (W := 0) (rm30 l Z aw hw [] a0 p1 ka z vs ch h0 n0 Z0 V_a S__assertionsDisabled S_HI_BYTE_SHIFT S_LO_BYTE_SHIFT hb1 hb2 ha1 ha2 hc) hZ (w131 hw) (w42 hw) (by decide) (by decide)) (g := (mkF m 7 #[.val (.ref a0), .val (.int p1)] [(.int p1), (.ref a0)])) rfl (by rw [hml]; rfl) (argsL := [(.ref a0), (.int p1)]) (rest := []) (lenOf pd_76 rfl) rfl (by show 2 * 0 + _ ≤ _; exact Nat.le_of_eq rfl) (hb hby d31_7) rfl eq1 (by decide) (by decide)
  obtain ⟨rfl, N2q, eq2⟩ := hQ2
  have N2 := Fr.app N1 N2q
  refine OwnGo.of st2 ?_
  show OwnGo p.tables e below _ (T2.setTop (mkF m 10 #[.val (.ref a0), .val (.int p1)] [(.int ch)]))
  obtain ⟨fs, hr, hrun, hended, hW, hsame⟩ := X2.leave (v := some (.int (nar .char ch))) (fun h => by rw [Bd.returns] at h; cases h) hlk
  refine ⟨_, _, ?_, hrun, hended, _, _, rfl, ?_, ⟨_, rfl⟩, hW, hsame.mono (by decide) (by decide)⟩
  · show Steps p.tables e below (T2.setTop (mkF m 10 #[.val (.ref a0), .val (.int p1)] [(.int ch)])) _
    exact retN X2 hx (t := .char) Bd.returns (by simp) (hb hby d31_10) hr
  · show Qrm31 Z a0 p1 ka z vs ch fm h0 n0 _ (T2.setFrames fs).heap _
    rw [show (T2.setFrames fs).heap = h0 from eq2]
    exact ⟨congrArg (fun z => some (Value.int z)) (own_c16E hc), N2, rfl⟩

theorem own_gm {cs : List Int32} {i : Nat} (hi : i < cs.length) : cs.getD i 0 ∈ cs := by
  rw [List.getD_eq_getElem?_getD, List.getElem?_eq_getElem hi]; exact List.getElem_mem _
theorem own_two {i n : Nat} (h : i < n) (hn : n ≤ 4000) : (¬ (Int32.ofNat i <<< ((1 : Int32) &&& 31)) < 0 ∧ (Int32.ofNat i <<< ((1 : Int32) &&& 31)) < Int32.ofNat (2 * n)) ∧ (¬ ((Int32.ofNat i <<< ((1 : Int32) &&& 31)) + (1 : Int32)) < 0 ∧ ((Int32.ofNat i <<< ((1 : Int32) &&& 31)) + (1 : Int32)) < Int32.ofNat (2 * n)) ∧ Int32.ofNat i < (Int32.ofNat (2 * n) >>> ((1 : Int32) &&& 31)) := by
  rw [own_dbl, own_suc, StrChars.shr1 (by omega)]
  exact ⟨own_inb (by omega) (by omega), own_inb (by omega) (by omega), (own_inb h (by omega)).2⟩
theorem own_twoA {cs : List Int32} {i : Nat} (h : i < cs.length) (hn : cs.length ≤ 4000) : (StrChars.Road.wideBytes cs).getD (Int32.ofNat i <<< ((1 : Int32) &&& 31)).toNatClampNeg (.int 0) = .int (StrChars.lo8 (cs.getD i 0)) ∧ (StrChars.Road.wideBytes cs).getD ((Int32.ofNat i <<< ((1 : Int32) &&& 31)) + (1 : Int32)).toNatClampNeg (.int 0) = .int (StrChars.hi8 (cs.getD i 0)) := by
  rw [own_dbl, own_suc, own_i32 (by omega), own_i32 (by omega)]
  exact ⟨StrChars.Road.wide_lo _ _ _ h, StrChars.Road.wide_hi _ _ _ h⟩

theorem d14_17 : decode jdk_42_method_154_code 17 = .ok (.iconst 0, 1) := by decide +kernel
theorem ef_rm14b (m : MethodId) (a0 : Addr) : entryFrame m #[(.ref a0)] 1 = mkF m 0 #[.val (.ref a0)] [] := by first | (simp [entryFrame, mkF, argsToLocals, Value.category]; done) | rfl
def Qrm14b (Z : State) (a0 : Addr) (zc : Int32) (h0 : Heap) (n0 : Nat) (v : Option Value) (h : Heap) (L : List Loc) : Prop := v = some (.int (0 : Int32)) ∧ Fr n0 L ∧ h = h0
set_option maxRecDepth 65536 in
set_option maxHeartbeats 40000000 in
theorem rm14b (l : Launch) (Z : State) (aw : Array Value) (hw : ∀ d ∈ tables_1, d.before aw Z = true) (ws : List Jvm.Cond) (a0 : Addr) (zc : Int32) (h0 : Heap) (n0 : Nat) (Z0 : n0 ≤ h0.size) (E_a0 : Exa Z h0 a0 "java/lang/String") (F_a0_coder : Fld Z h0 a0 "java/lang/String" "coder" "B" (.int (1 : Int32))) (S_COMPACT_STRINGS : Sta Z h0 "java/lang/String" "COMPACT_STRINGS" "Z" (.int zc)) (hzc : ¬ zc = 0) :
    MetFree l (⟨"java/lang/String", "isLatin1", "()Z"⟩ : MethodName) (head1 (Jvm.Cond.code (⟨"java/lang/String", "isLatin1", "()Z"⟩ : MethodName) jdk_42_method_154_code 1 (some .boolean) :: ws) ({ frames := 0, cells := 0, slots := 0, locals := 0 } : Room)) (fun a U => a = #[(.ref a0)] ∧ Z.Warmed39 U.vm ∧ U.heap = h0) (fun _ _ _ _ _ => True) (fun _ U o U' => ∃ v L, o = .returned v ∧ Qrm14b Z a0 zc h0 n0 v U'.heap L ∧ FrameEnd U o U' L ({ frames := 0, cells := 0, slots := 0, locals := 0 } : Room).cells ({ frames := 0, cells := 0, slots := 0, locals := 0 } : Room).slots) := by
  refine MetFree.of_bodySF (plainFor_of_name pn_26) hisR ?_
  intro p e s m args below meth c s₁ Bd hml0 hP hK
  obtain ⟨rfl, hZ, hh⟩ := hP
  have hx := Bd.exec
  have hby := Bd.bytes
  have hml : c.maxLocals = 1 := hml0
  have hown : s.vm.findClass "java/lang/String" = some m.cls := findClass_of_methodNamed Bd.named
  have hnm := (name_of_methodNamed Bd.named Bd.method).1
  have X0 : Stand p l e ({ frames := 0, cells := 0, slots := 0, locals := 0 } : Room) s m #[(.ref a0)] below meth c s₁ [] 0 0 := Stand.of_body Bd
  have e0 : s₁.heap = h0 := by rw [← hh, Bd.state]; rfl
  have N0 := Fr.nil n0
  have hlk := Bd.notSynchronized
  show OwnGo p.tables e below _ (s₁.setTop (entryFrame m #[(.ref a0)] 1))
  rw [ef_rm14b m a0]
  show OwnGo p.tables e below _ (s₁.setTop (mkF m 0 #[.val (.ref a0)] []))
  obtain ⟨T1, X1, e1, st1⟩ := getS2 X0 hx hZ hown (host := "") (Or.inl (w39 hw)) Via.refl e0 S_COMPACT_STRINGS (g := (mkF m 0 #[.val (.ref a0)] [])) rfl (hb hby d14_0)
  refine OwnGo.of st1 ?_
  show OwnGo p.tables e below _ (T1.setTop (mkF m 3 #[.val (.ref a0)] [(.int zc)]))
  have hc2 : ¬ (zc = (0 : Int32)) := hzc
  refine OwnGo.of (B := T1.setTop (mkF m 7 #[.val (.ref a0)] [(.ref a0)])) (fun t k => ?_) ?_
  · show Steps p.tables e below (T1.setTop (mkF m 3 #[.val (.ref a0)] [(.int zc)])) t
    refine XS.ifNo X1.here hx rfl (hb hby d14_3) rfl ((if0 _ _).trans (feq hc2).1) ?_
    refine XS.aloadN X1.here hx rfl (hb hby d14_6) rfl rfl ?_
    exact k
  obtain ⟨T3, X3, e3, st3⟩ := getF X1 hx hZ hown (host := "") (Or.inl (w26 hw)) Via.refl e1 F_a0_coder (g := (mkF m 7 #[.val (.ref a0)] [(.ref a0)])) rfl rfl (hb hby d14_7)
  refine OwnGo.of st3 ?_
  show OwnGo p.tables e below _ (T3.setTop (mkF m 10 #[.val (.ref a0)] [(.int (1 : Int32))]))
  have hc4 : ¬ ((1 : Int32) = (0 : Int32)) := by decide
  refine OwnGo.of (B := T3.setTop (mkF m 18 #[.val (.ref a0)] [(.int (0 : Int32))])) (fun t k => ?_) ?_
  · show Steps p.tables e below (T3.setTop (mkF m 10 #[.val (.ref a0)] [(.int (1 : Int32))])) t
    refine XS.ifYes X3.here hx rfl (pc0 := 10) (pc' := 17) rfl (hb hby d14_10) rfl ((if0 _ _).trans (feq hc4).2) (by decide) (by decide) ?_
    refine XS.iconst X3.here hx rfl (hb hby d14_17) ?_
    exact k
  obtain ⟨fs, hr, hrun, hended, hW, hsame⟩ := X3.leave (v := some (.int (nar .boolean (0 : Int32)))) (fun h => by rw [Bd.returns] at h; cases h) hlk
  refine ⟨_, _, ?_, hrun, hended, _, _, rfl, ?_, ⟨_, rfl⟩, hW, hsame.mono (by decide) (by decide)⟩
  · show Steps p.tables e below (T3.setTop (mkF m 18 #[.val (.ref a0)] [(.int (0 : Int32))])) _
    exact retN X3 hx (t := .boolean) Bd.returns (by simp) (hb hby d14_18) hr
  · show Qrm14b Z a0 zc h0 n0 _ (T3.setFrames fs).heap _
    rw [show (T3.setFrames fs).heap = h0 from e3]
    exact ⟨congrArg (fun z => some (Value.int z)) (by decide), N0, rfl⟩
theorem w70 {Z aw} (hw : OwnHW aw Z) : Cond.before (Jvm.Cond.methodLink "java/lang/String" (495 : Nat) ({ cls := "java/lang/StringLatin1", name := "charAt", desc := "([BI)C" } : Jvm.MethodName)) aw Z = true := hw _ (List.mem_of_getElem? (i := 70) rfl)
theorem w73 {Z aw} (hw : OwnHW aw Z) : Cond.before (Jvm.Cond.code ({ cls := "java/lang/StringLatin1", name := "charAt", desc := "([BI)C" } : Jvm.MethodName) jdk_43_method_2_code (2 : Nat) (Option.some Jvm.ClassFile.FieldType.char)) aw Z = true := hw _ (List.mem_of_getElem? (i := 73) rfl)
theorem w71 {Z aw} (hw : OwnHW aw Z) : Cond.before (Jvm.Cond.static ({ cls := "java/lang/StringLatin1", name := "charAt", desc := "([BI)C" } : Jvm.MethodName)) aw Z = true := hw _ (List.mem_of_getElem? (i := 71) rfl)
theorem w132 {Z aw} (hw : OwnHW aw Z) : Cond.before (Jvm.Cond.methodLink "java/lang/String" (498 : Nat) ({ cls := "java/lang/StringUTF16", name := "charAt", desc := "([BI)C" } : Jvm.MethodName)) aw Z = true := hw _ (List.mem_of_getElem? (i := 132) rfl)
theorem w134 {Z aw} (hw : OwnHW aw Z) : Cond.before (Jvm.Cond.code ({ cls := "java/lang/StringUTF16", name := "charAt", desc := "([BI)C" } : Jvm.MethodName) jdk_52_method_83_code (2 : Nat) (Option.some Jvm.ClassFile.FieldType.char)) aw Z = true := hw _ (List.mem_of_getElem? (i := 134) rfl)
theorem w133 {Z aw} (hw : OwnHW aw Z) : Cond.before (Jvm.Cond.static ({ cls := "java/lang/StringUTF16", name := "charAt", desc := "([BI)C" } : Jvm.MethodName)) aw Z = true := hw _ (List.mem_of_getElem? (i := 133) rfl)
theorem d13_0 : decode jdk_42_method_56_code 0 = .ok (.aload_n 0, 1) := by decide +kernel
theorem d13_1 : decode jdk_42_method_56_code 1 = .ok (.invokevirtual 492, 3) := by decide +kernel
theorem d13_4 : decode jdk_42_method_56_code 4 = .ok (.ifCond .eq 12, 3) := by decide +kernel
theorem d13_7 : decode jdk_42_method_56_code 7 = .ok (.aload_n 0, 1) := by decide +kernel
theorem d13_8 : decode jdk_42_method_56_code 8 = .ok (.getfield 9, 3) := by decide +kernel
theorem d13_11 : decode jdk_42_method_56_code 11 = .ok (.iload_n 1, 1) := by decide +kernel
theorem d13_12 : decode jdk_42_method_56_code 12 = .ok (.invokestatic 495, 3) := by decide +kernel
theorem d13_15 : decode jdk_42_method_56_code 15 = .ok (.ireturn, 1) := by decide +kernel
theorem ef_rm13_0 (m : MethodId) (a0 : Addr) (i : Nat) : entryFrame m #[(.ref a0), (.int (Int32.ofNat i))] 2 = mkF m 0 #[.val (.ref a0), .val (.int (Int32.ofNat i))] [] := by first | (simp [entryFrame, mkF, argsToLocals, Value.category]; done) | rfl
def Qrm13_0 (Z : State) (a0 : Addr) (i : Nat) (cs : List Int32) (ka : ClassId) (tv : Addr) (zc : Int32) (fm : Value) (h0 : Heap) (n0 : Nat) (v : Option Value) (h : Heap) (L : List Loc) : Prop := v = some (.int (cs.getD i 0)) ∧ Fr n0 L ∧ h = h0
set_option maxRecDepth 65536 in
set_option maxHeartbeats 40000000 in
theorem rm13_0 (l : Launch) (Z : State) (aw : Array Value) (hw : ∀ d ∈ tables_1, d.before aw Z = true) (ws : List Jvm.Cond) (a0 : Addr) (i : Nat) (cs : List Int32) (ka : ClassId) (tv : Addr) (zc : Int32) (fm : Value) (h0 : Heap) (n0 : Nat) (Z0 : n0 ≤ h0.size) (E_a0 : Exa Z h0 a0 "java/lang/String") (F_a0_coder : Fld Z h0 a0 "java/lang/String" "coder" "B" (.int (0 : Int32))) (F_a0_value : Fld Z h0 a0 "java/lang/String" "value" "[B" (.ref tv)) (V_t : Arv Z h0 tv ka .byte (Int32.ofNat cs.length) (cs.map fun c => Value.int (StrChars.lo8 c)) (.int (0 : Int32))) (hi : i < cs.length) (hl : cs.length ≤ 4000) (up : ∀ c ∈ cs, OwnC16 c) (h8 : ∀ c ∈ cs, ¬ 255 < c) (S_COMPACT_STRINGS : Sta Z h0 "java/lang/String" "COMPACT_STRINGS" "Z" (.int zc)) (hzc : ¬ zc = 0) (S_SIOOBE_FORMATTER : Sta Z h0 "jdk/internal/util/Preconditions" "SIOOBE_FORMATTER" "Ljava/util/function/BiFunction;" fm) (rf : fm.isRef = true) (S__assertionsDisabled : Sta Z h0 "java/lang/StringUTF16" "$assertionsDisabled" "Z" (.int (1 : Int32))) (S_HI_BYTE_SHIFT : Sta Z h0 "java/lang/StringUTF16" "HI_BYTE_SHIFT" "I" (.int (0 : Int32))) (S_LO_BYTE_SHIFT : Sta Z h0 "java/lang/StringUTF16" "LO_BYTE_SHIFT" "I" (.int (8 : Int32))) :
    MetFree l (⟨"java/lang/String", "charAt", "(I)C"⟩ : MethodName) (head1 (Jvm.Cond.code (⟨"java/lang/String", "charAt", "(I)C"⟩ : MethodName) jdk_42_method_56_code 2 (some .char) :: ws) ({ frames := 4, cells := 0, slots := 0, locals := 53 } : Room)) (fun a U => a = #[(.ref a0), (.int (Int32.ofNat i))] ∧ Z.Warmed39 U.vm ∧ U.heap = h0) (fun _ _ _ _ _ => True) (fun _ U o U' => ∃ v L, o = .returned v ∧ Qrm13_0 Z a0 i cs ka tv zc fm h0 n0 v U'.heap L ∧ FrameEnd U o U' L ({ frames := 4, cells := 0, slots := 0, locals := 53 } : Room).cells ({ frames := 4, cells := 0, slots := 0, locals := 53 } : Room).slots) := by
  refine MetFree.of_bodySF (plainFor_of_name pn_26) hisR ?_
  intro p e s m args below meth c s₁ Bd hml0 hP hK
  obtain ⟨rfl, hZ, hh⟩ := hP
  have hx := Bd.exec
  have hby := Bd.bytes
  have hml : c.maxLocals = 2 := hml0
  have hown : s.vm.findClass "java/lang/String" = some m.cls := findClass_of_methodNamed Bd.named
  have hnm := (name_of_methodNamed Bd.named Bd.method).1
  have X0 : Stand p l e ({ frames := 4, cells := 0, slots := 0, locals := 53 } : Room) s m #[(.ref a0), (.int (Int32.ofNat i))] below meth c s₁ [] 0 0 := Stand.of_body Bd
  have e0 : s₁.heap = h0 := by rw [← hh, Bd.state]; rfl
  have N0 := Fr.nil n0
  have hlk := Bd.notSynchronized
  show OwnGo p.tables e below _ (s₁.setTop (entryFrame m #[(.ref a0), (.int (Int32.ofNat i))] 2))
  rw [ef_rm13_0 m a0 i]
  show OwnGo p.tables e below _ (s₁.setTop (mkF m 0 #[.val (.ref a0), .val (.int (Int32.ofNat i))] []))
  refine OwnGo.of (B := s₁.setTop (mkF m 1 #[.val (.ref a0), .val (.int (Int32.ofNat i))] [(.ref a0)])) (fun t k => ?_) ?_
  · show Steps p.tables e below (s₁.setTop (mkF m 0 #[.val (.ref a0), .val (.int (Int32.ofNat i))] [])) t
    refine XS.aloadN X0.here hx rfl (hb hby d13_0) rfl rfl ?_
    exact k
  obtain ⟨cq1, kq1, q1a, q1b, q1c⟩ := isOf hZ e0 E_a0
  obtain ⟨T1, L1, v1, X1, hQ1, st1⟩ := own_callV X0 hx (y := (⟨"java/lang/String", "isLatin1", "()Z"⟩ : MethodName)) (z := (⟨"java/lang/String", "isLatin1", "()Z"⟩ : MethodName)) hown (mvT hZ (w65 hw)) (mvT hZ (w66 hw)) (notFace_of_selects (args := #[]) (mvT hZ (w68 hw))) (mvT hZ (w68 hw)) (mvT hZ (w67 hw)) (by decide) (backOf (W := 0) (rm14 l Z aw hw [] a0 zc h0 n0 Z0 E_a0 F_a0_coder S_COMPACT_STRINGS hzc) hZ (w69 hw) (w8 hw) (by decide) (by decide)) q1a q1c (g := (mkF m 1 #[.val (.ref a0), .val (.int (Int32.ofNat i))] [(.ref a0)])) rfl (by rw [hml]; rfl) (argsL := []) (rest := []) (lenOf pd_30 rfl) rfl (by show 2 * 0 + _ ≤ _; exact Nat.le_of_eq rfl) (hb hby d13_1) rfl e0 (by decide) (by decide)
  obtain ⟨rfl, N1q, eq1⟩ := hQ1
  have N1 := Fr.app N0 N1q
  refine OwnGo.of st1 ?_
  show OwnGo p.tables e below _ (T1.setTop (mkF m 4 #[.val (.ref a0), .val (.int (Int32.ofNat i))] [(.int (1 : Int32))]))
  have hc2 : ¬ ((1 : Int32) = (0 : Int32)) := by decide
  refine OwnGo.of (B := T1.setTop (mkF m 8 #[.val (.ref a0), .val (.int (Int32.ofNat i))] [(.ref a0)])) (fun t k => ?_) ?_
  · show Steps p.tables e below (T1.setTop (mkF m 4 #[.val (.ref a0), .val (.int (Int32.ofNat i))] [(.int (1 : Int32))])) t
    refine XS.ifNo X1.here hx rfl (hb hby d13_4) rfl ((if0 _ _).trans (feq hc2).1) ?_
    refine XS.aloadN X1.here hx rfl (hb hby d13_7) rfl rfl ?_
    exact k
  obtain ⟨T3, X3, e3, st3⟩ := getF X1 hx hZ hown (host := "") (Or.inl (w25 hw)) Via.refl eq1 F_a0_value (g := (mkF m 8 #[.val (.ref a0), .val (.int (Int32.ofNat i))] [(.ref a0)])) rfl rfl (hb hby d13_8)
  refine OwnGo.of st3 ?_
  show OwnGo p.tables e below _ (T3.setTop (mkF m 11 #[.val (.ref a0), .val (.int (Int32.ofNat i))] [(.ref tv)]))
  refine OwnGo.of (B := T3.setTop (mkF m 12 #[.val (.ref a0), .val (.int (Int32.ofNat i))] [(.int (Int32.ofNat i)), (.ref tv)])) (fun t k => ?_) ?_
  · show Steps p.tables e below (T3.setTop (mkF m 11 #[.val (.ref a0), .val (.int (Int32.ofNat i))] [(.ref tv)])) t
    refine XS.iloadN X3.here hx rfl (hb hby d13_11) rfl ?_
    exact k
  obtain ⟨T4, L4, v4, X4, hQ4, st4⟩ := own_callS X3 hx (y := (⟨"java/lang/StringLatin1", "charAt", "([BI)C"⟩ : MethodName)) hown (mvT hZ (w70 hw)) (mvT hZ (w71 hw)) (mvT hZ (w72 hw)) (mvT hZ (w73 hw)) (by decide) (backOf (W := 0) (rm15 l Z aw hw [] tv i ka (Int32.ofNat cs.length) (cs.map fun c => Value.int (StrChars.lo8 c)) (cs.getD i 0) fm h0 n0 Z0 V_t S_SIOOBE_FORMATTER rf (own_inb hi (by omega)) (by rw [own_i32 (by omega)]; exact StrChars.Road.low_at _ _ _ hi) (up _ (own_gm hi)) (h8 _ (own_gm hi))) hZ (w73 hw) (w72 hw) (by decide) (by decide)) (g := (mkF m 12 #[.val (.ref a0), .val (.int (Int32.ofNat i))] [(.int (Int32.ofNat i)), (.ref tv)])) rfl (by rw [hml]; rfl) (argsL := [(.ref tv), (.int (Int32.ofNat i))]) (rest := []) (lenOf pd_76 rfl) rfl (by show 2 * 0 + _ ≤ _; exact Nat.le_of_eq rfl) (hb hby d13_12) rfl e3 (by decide) (by decide)
  obtain ⟨rfl, N4q, eq4⟩ := hQ4
  have N4 := Fr.app N1 N4q
  refine OwnGo.of st4 ?_
  show OwnGo p.tables e below _ (T4.setTop (mkF m 15 #[.val (.ref a0), .val (.int (Int32.ofNat i))] [(.int (cs.getD i 0))]))
  obtain ⟨fs, hr, hrun, hended, hW, hsame⟩ := X4.leave (v := some (.int (nar .char (cs.getD i 0)))) (fun h => by rw [Bd.returns] at h; cases h) hlk
  refine ⟨_, _, ?_, hrun, hended, _, _, rfl, ?_, ⟨_, rfl⟩, hW, hsame.mono (by decide) (by decide)⟩
  · show Steps p.tables e below (T4.setTop (mkF m 15 #[.val (.ref a0), .val (.int (Int32.ofNat i))] [(.int (cs.getD i 0))])) _
    exact retN X4 hx (t := .char) Bd.returns (by simp) (hb hby d13_15) hr
  · show Qrm13_0 Z a0 i cs ka tv zc fm h0 n0 _ (T4.setFrames fs).heap _
    rw [show (T4.setFrames fs).heap = h0 from eq4]
    exact ⟨congrArg (fun z => some (Value.int z)) (own_c16E (up _ (own_gm hi))), N4, rfl⟩
theorem d13_16 : decode jdk_42_method_56_code 16 = .ok (.aload_n 0, 1) := by decide +kernel
theorem d13_17 : decode jdk_42_method_56_code 17 = .ok (.getfield 9, 3) := by decide +kernel
theorem d13_20 : decode jdk_42_method_56_code 20 = .ok (.iload_n 1, 1) := by decide +kernel
theorem d13_21 : decode jdk_42_method_56_code 21 = .ok (.invokestatic 498, 3) := by decide +kernel
theorem d13_24 : decode jdk_42_method_56_code 24 = .ok (.ireturn, 1) := by decide +kernel
theorem ef_rm13_1 (m : MethodId) (a0 : Addr) (i : Nat) : entryFrame m #[(.ref a0), (.int (Int32.ofNat i))] 2 = mkF m 0 #[.val (.ref a0), .val (.int (Int32.ofNat i))] [] := by first | (simp [entryFrame, mkF, argsToLocals, Value.category]; done) | rfl
def Qrm13_1 (Z : State) (a0 : Addr) (i : Nat) (cs : List Int32) (ka : ClassId) (tv : Addr) (zc : Int32) (fm : Value) (h0 : Heap) (n0 : Nat) (v : Option Value) (h : Heap) (L : List Loc) : Prop := v = some (.int (cs.getD i 0)) ∧ Fr n0 L ∧ h = h0
set_option maxRecDepth 65536 in
set_option maxHeartbeats 40000000 in
theorem rm13_1 (l : Launch) (Z : State) (aw : Array Value) (hw : ∀ d ∈ tables_1, d.before aw Z = true) (ws : List Jvm.Cond) (a0 : Addr) (i : Nat) (cs : List Int32) (ka : ClassId) (tv : Addr) (zc : Int32) (fm : Value) (h0 : Heap) (n0 : Nat) (Z0 : n0 ≤ h0.size) (E_a0 : Exa Z h0 a0 "java/lang/String") (F_a0_coder : Fld Z h0 a0 "java/lang/String" "coder" "B" (.int (1 : Int32))) (F_a0_value : Fld Z h0 a0 "java/lang/String" "value" "[B" (.ref tv)) (V_t : Arv Z h0 tv ka .byte (Int32.ofNat (2 * cs.length)) (StrChars.Road.wideBytes cs) (.int (0 : Int32))) (hi : i < cs.length) (hl : cs.length ≤ 4000) (up : ∀ c ∈ cs, OwnC16 c) (S_COMPACT_STRINGS : Sta Z h0 "java/lang/String" "COMPACT_STRINGS" "Z" (.int zc)) (hzc : ¬ zc = 0) (S_SIOOBE_FORMATTER : Sta Z h0 "jdk/internal/util/Preconditions" "SIOOBE_FORMATTER" "Ljava/util/function/BiFunction;" fm) (rf : fm.isRef = true) (S__assertionsDisabled : Sta Z h0 "java/lang/StringUTF16" "$assertionsDisabled" "Z" (.int (1 : Int32))) (S_HI_BYTE_SHIFT : Sta Z h0 "java/lang/StringUTF16" "HI_BYTE_SHIFT" "I" (.int (0 : Int32))) (S_LO_BYTE_SHIFT : Sta Z h0 "java/lang/StringUTF16" "LO_BYTE_SHIFT" "I" (.int (8 : Int32))) :
    MetFree l (⟨"java/lang/String", "charAt", "(I)C"⟩ : MethodName) (head1 (Jvm.Cond.code (⟨"java/lang/String", "charAt", "(I)C"⟩ : MethodName) jdk_42_method_56_code 2 (some .char) :: ws) ({ frames := 4, cells := 0, slots := 0, locals := 53 } : Room)) (fun a U => a = #[(.ref a0), (.int (Int32.ofNat i))] ∧ Z.Warmed39 U.vm ∧ U.heap = h0) (fun _ _ _ _ _ => True) (fun _ U o U' => ∃ v L, o = .returned v ∧ Qrm13_1 Z a0 i cs ka tv zc fm h0 n0 v U'.heap L ∧ FrameEnd U o U' L ({ frames := 4, cells := 0, slots := 0, locals := 53 } : Room).cells ({ frames := 4, cells := 0, slots := 0, locals := 53 } : Room).slots) := by
  refine MetFree.of_bodySF (plainFor_of_name pn_26) hisR ?_
  intro p e s m args below meth c s₁ Bd hml0 hP hK
  obtain ⟨rfl, hZ, hh⟩ := hP
  have hx := Bd.exec
  have hby := Bd.bytes
  have hml : c.maxLocals = 2 := hml0
  have hown : s.vm.findClass "java/lang/String" = some m.cls := findClass_of_methodNamed Bd.named
  have hnm := (name_of_methodNamed Bd.named Bd.method).1
  have X0 : Stand p l e ({ frames := 4, cells := 0, slots := 0, locals := 53 } : Room) s m #[(.ref a0), (.int (Int32.ofNat i))] below meth c s₁ [] 0 0 := Stand.of_body Bd
  have e0 : s₁.heap = h0 := by rw [← hh, Bd.state]; rfl
  have N0 := Fr.nil n0
  have hlk := Bd.notSynchronized
  show OwnGo p.tables e below _ (s₁.setTop (entryFrame m #[(.ref a0), (.int (Int32.ofNat i))] 2))
  rw [ef_rm13_1 m a0 i]
  show OwnGo p.tables e below _ (s₁.setTop (mkF m 0 #[.val (.ref a0), .val (.int (Int32.ofNat i))] []))
  refine OwnGo.of (B := s₁.setTop (mkF m 1 #[.val (.ref a0), .val (.int (Int32.ofNat i))] [(.ref a0)])) (fun t k => ?_) ?_
  · show Steps p.tables e below (s₁.setTop (mkF m 0 #[.val (.ref a0), .val (.int (Int32.ofNat i))] [])) t
    refine XS.aloadN X0.here hx rfl (hb hby d13_0) rfl rfl ?_
    exact k
  obtain ⟨cq1, kq1, q1a, q1b, q1c⟩ := isOf hZ e0 E_a0
  obtain ⟨T1, L1, v1, X1, hQ1, st1⟩ := own_callV X0 hx (y := (⟨"java/lang/String", "isLatin1", "()Z"⟩ : MethodName)) (z := (⟨"java/lang/String", "isLatin1", "()Z"⟩ : MethodName)) hown (mvT hZ (w65 hw)) (mvT hZ (w66 hw)) (notFace_of_selects (args := #[]) (mvT hZ (w68 hw))) (mvT hZ (w68 hw)) (mvT hZ (w67 hw)) (by decide) (backOf (W := 0) (rm14b l Z aw hw [] a0 zc h0 n0 Z0 E_a0 F_a0_coder S_COMPACT_STRINGS hzc) hZ (w69 hw) (w8 hw) (by decide) (by decide)) q1a q1c (g := (mkF m 1 #[.val (.ref a0), .val (.int (Int32.ofNat i))] [(.ref a0)])) rfl (by rw [hml]; rfl) (argsL := []) (rest := []) (lenOf pd_30 rfl) rfl (by show 2 * 0 + _ ≤ _; exact Nat.le_of_eq rfl) (hb hby d13_1) rfl e0 (by decide) (by decide)
  obtain ⟨rfl, N1q, eq1⟩ := hQ1
  have N1 := Fr.app N0 N1q
  refine OwnGo.of st1 ?_
  show OwnGo p.tables e below _ (T1.setTop (mkF m 4 #[.val (.ref a0), .val (.int (Int32.ofNat i))] [(.int (0 : Int32))]))
  have hc2 : (0 : Int32) = (0 : Int32) := by decide
  refine OwnGo.of (B := T1.setTop (mkF m 17 #[.val (.ref a0), .val (.int (Int32.ofNat i))] [(.ref a0)])) (fun t k => ?_) ?_
  · show Steps p.tables e below (T1.setTop (mkF m 4 #[.val (.ref a0), .val (.int (Int32.ofNat i))] [(.int (0 : Int32))])) t
    refine XS.ifYes X1.here hx rfl (pc0 := 4) (pc' := 16) rfl (hb hby d13_4) rfl ((if0 _ _).trans (teq hc2).1) (by decide) (by decide) ?_
    refine XS.aloadN X1.here hx rfl (hb hby d13_16) rfl rfl ?_
    exact k
  obtain ⟨T3, X3, e3, st3⟩ := getF X1 hx hZ hown (host := "") (Or.inl (w25 hw)) Via.refl eq1 F_a0_value (g := (mkF m 17 #[.val (.ref a0), .val (.int (Int32.ofNat i))] [(.ref a0)])) rfl rfl (hb hby d13_17)
  refine OwnGo.of st3 ?_
  show OwnGo p.tables e below _ (T3.setTop (mkF m 20 #[.val (.ref a0), .val (.int (Int32.ofNat i))] [(.ref tv)]))
  refine OwnGo.of (B := T3.setTop (mkF m 21 #[.val (.ref a0), .val (.int (Int32.ofNat i))] [(.int (Int32.ofNat i)), (.ref tv)])) (fun t k => ?_) ?_
  · show Steps p.tables e below (T3.setTop (mkF m 20 #[.val (.ref a0), .val (.int (Int32.ofNat i))] [(.ref tv)])) t
    refine XS.iloadN X3.here hx rfl (hb hby d13_20) rfl ?_
    exact k
  obtain ⟨T4, L4, v4, X4, hQ4, st4⟩ := own_callS X3 hx (y := (⟨"java/lang/StringUTF16", "charAt", "([BI)C"⟩ : MethodName)) hown (mvT hZ (w132 hw)) (mvT hZ (w133 hw)) (mvT hZ (w42 hw)) (mvT hZ (w134 hw)) (by decide) (backOf (W := 0) (rm31 l Z aw hw [] tv (Int32.ofNat i) ka (Int32.ofNat (2 * cs.length)) (StrChars.Road.wideBytes cs) (cs.getD i 0) fm h0 n0 Z0 V_t S_SIOOBE_FORMATTER rf S__assertionsDisabled S_HI_BYTE_SHIFT S_LO_BYTE_SHIFT (own_two hi hl).1 (own_two hi hl).2.1 (own_twoA hi hl).1 (own_twoA hi hl).2 (up _ (own_gm hi)) (own_ofge0 (by omega)) (own_two hi hl).2.2) hZ (w134 hw) (w42 hw) (by decide) (by decide)) (g := (mkF m 21 #[.val (.ref a0), .val (.int (Int32.ofNat i))] [(.int (Int32.ofNat i)), (.ref tv)])) rfl (by rw [hml]; rfl) (argsL := [(.ref tv), (.int (Int32.ofNat i))]) (rest := []) (lenOf pd_76 rfl) rfl (by show 2 * 0 + _ ≤ _; exact Nat.le_of_eq rfl) (hb hby d13_21) rfl e3 (by decide) (by decide)
  obtain ⟨rfl, N4q, eq4⟩ := hQ4
  have N4 := Fr.app N1 N4q
  refine OwnGo.of st4 ?_
  show OwnGo p.tables e below _ (T4.setTop (mkF m 24 #[.val (.ref a0), .val (.int (Int32.ofNat i))] [(.int (cs.getD i 0))]))
  obtain ⟨fs, hr, hrun, hended, hW, hsame⟩ := X4.leave (v := some (.int (nar .char (cs.getD i 0)))) (fun h => by rw [Bd.returns] at h; cases h) hlk
  refine ⟨_, _, ?_, hrun, hended, _, _, rfl, ?_, ⟨_, rfl⟩, hW, hsame.mono (by decide) (by decide)⟩
  · show Steps p.tables e below (T4.setTop (mkF m 24 #[.val (.ref a0), .val (.int (Int32.ofNat i))] [(.int (cs.getD i 0))])) _
    exact retN X4 hx (t := .char) Bd.returns (by simp) (hb hby d13_24) hr
  · show Qrm13_1 Z a0 i cs ka tv zc fm h0 n0 _ (T4.setFrames fs).heap _
    rw [show (T4.setFrames fs).heap = h0 from eq4]
    exact ⟨congrArg (fun z => some (Value.int z)) (own_c16E (up _ (own_gm hi))), N4, rfl⟩
def Qrm13 (Z : State) (i : Nat) (cs : List Int32) (h0 : Heap) (n0 : Nat) (v : Option Value) (h : Heap) (L : List Loc) : Prop := v = some (.int (cs.getD i 0)) ∧ Fr n0 L ∧ h = h0

theorem rm13 (l : Launch) (Z : State) (aw : Array Value) (hw : ∀ d ∈ tables_1, d.before aw Z = true) (ws : List Jvm.Cond) (a0 : Addr) (i : Nat) (cs : List Int32) (zc : Int32) (fm : Value) (h0 : Heap) (n0 : Nat) (Z0 : n0 ≤ h0.size) (S_a : OwnStr Z h0 a0 cs) (hi : i < cs.length) (S_COMPACT_STRINGS : Sta Z h0 "java/lang/String" "COMPACT_STRINGS" "Z" (.int zc)) (hzc : ¬ zc = 0) (S_SIOOBE_FORMATTER : Sta Z h0 "jdk/internal/util/Preconditions" "SIOOBE_FORMATTER" "Ljava/util/function/BiFunction;" fm) (rf : fm.isRef = true) (S__assertionsDisabled : Sta Z h0 "java/lang/StringUTF16" "$assertionsDisabled" "Z" (.int (1 : Int32))) (S_HI_BYTE_SHIFT : Sta Z h0 "java/lang/StringUTF16" "HI_BYTE_SHIFT" "I" (.int (0 : Int32))) (S_LO_BYTE_SHIFT : Sta Z h0 "java/lang/StringUTF16" "LO_BYTE_SHIFT" "I" (.int (8 : Int32))) :
    MetFree l (⟨"java/lang/String", "charAt", "(I)C"⟩ : MethodName) (head1 (Jvm.Cond.code (⟨"java/lang/String", "charAt", "(I)C"⟩ : MethodName) jdk_42_method_56_code 2 (some .char) :: ws) ({ frames := 4, cells := 0, slots := 0, locals := 53 } : Room)) (fun a U => a = #[(.ref a0), (.int (Int32.ofNat i))] ∧ Z.Warmed39 U.vm ∧ U.heap = h0) (fun _ _ _ _ _ => True) (fun _ U o U' => ∃ v L, o = .returned v ∧ Qrm13 Z i cs h0 n0 v U'.heap L ∧ FrameEnd U o U' L ({ frames := 4, cells := 0, slots := 0, locals := 53 } : Room).cells ({ frames := 4, cells := 0, slots := 0, locals := 53 } : Room).slots) := by
  obtain ⟨t, kb, cd, N, vs, E, V, C, K, cod, up, ln⟩ := S_a
  rcases cod with ⟨rfl, rfl, rfl, h8⟩ | ⟨rfl, rfl, rfl, -⟩
  · exact rm13_0 l Z aw hw ws a0 i cs kb t zc fm h0 n0 Z0 E C V K hi ln up h8 S_COMPACT_STRINGS hzc S_SIOOBE_FORMATTER rf S__assertionsDisabled S_HI_BYTE_SHIFT S_LO_BYTE_SHIFT
  · exact rm13_1 l Z aw hw ws a0 i cs kb t zc fm h0 n0 Z0 E C V K hi ln up S_COMPACT_STRINGS hzc S_SIOOBE_FORMATTER rf S__assertionsDisabled S_HI_BYTE_SHIFT S_LO_BYTE_SHIFT

theorem d29_0 : decode jdk_52_method_4_code 0 = .ok (.getstatic 44, 3) := by decide +kernel
theorem d29_3 : decode jdk_52_method_4_code 3 = .ok (.ifCond .ne 25, 3) := by decide +kernel
theorem d29_28 : decode jdk_52_method_4_code 28 = .ok (.iload_n 1, 1) := by decide +kernel
theorem d29_29 : decode jdk_52_method_4_code 29 = .ok (.iconst 1, 1) := by decide +kernel
theorem d29_30 : decode jdk_52_method_4_code 30 = .ok (.ishl, 1) := by decide +kernel
theorem d29_31 : decode jdk_52_method_4_code 31 = .ok (.istore_n 1, 1) := by decide +kernel
theorem d29_32 : decode jdk_52_method_4_code 32 = .ok (.aload_n 0, 1) := by decide +kernel
theorem d29_33 : decode jdk_52_method_4_code 33 = .ok (.iload_n 1, 1) := by decide +kernel
theorem d29_34 : decode jdk_52_method_4_code 34 = .ok (.iinc 1 1, 3) := by decide +kernel
theorem d29_37 : decode jdk_52_method_4_code 37 = .ok (.iload_n 2, 1) := by decide +kernel
theorem d29_38 : decode jdk_52_method_4_code 38 = .ok (.getstatic 59, 3) := by decide +kernel
theorem d29_41 : decode jdk_52_method_4_code 41 = .ok (.ishr, 1) := by decide +kernel
theorem d29_42 : decode jdk_52_method_4_code 42 = .ok (.i2b, 1) := by decide +kernel
theorem d29_43 : decode jdk_52_method_4_code 43 = .ok (.bastore, 1) := by decide +kernel
theorem d29_44 : decode jdk_52_method_4_code 44 = .ok (.aload_n 0, 1) := by decide +kernel
theorem d29_45 : decode jdk_52_method_4_code 45 = .ok (.iload_n 1, 1) := by decide +kernel
theorem d29_46 : decode jdk_52_method_4_code 46 = .ok (.iload_n 2, 1) := by decide +kernel
theorem d29_47 : decode jdk_52_method_4_code 47 = .ok (.getstatic 63, 3) := by decide +kernel
theorem d29_50 : decode jdk_52_method_4_code 50 = .ok (.ishr, 1) := by decide +kernel
theorem d29_51 : decode jdk_52_method_4_code 51 = .ok (.i2b, 1) := by decide +kernel
theorem d29_52 : decode jdk_52_method_4_code 52 = .ok (.bastore, 1) := by decide +kernel
theorem d29_53 : decode jdk_52_method_4_code 53 = .ok (.return_, 1) := by decide +kernel
theorem ef_rm29_0 (m : MethodId) (a0 : Addr) (p2 : Int32) : entryFrame m #[(.ref a0), (.int (0 : Int32)), (.int p2)] 3 = mkF m 0 #[.val (.ref a0), .val (.int (0 : Int32)), .val (.int p2)] [] := by first | (simp [entryFrame, mkF, argsToLocals, Value.category]; done) | rfl
def Qrm29_0 (Z : State) (a0 : Addr) (p2 : Int32) (ka : ClassId) (z : Int32) (vs : List Value) (h0 : Heap) (n0 : Nat) (v : Option Value) (h : Heap) (L : List Loc) : Prop := v = none ∧ Fr n0 L ∧ Keep h0 h [a0] ∧ Arv Z h a0 ka .byte z ((vs.set 0 (.int (StrChars.lo8 p2))).set 1 (.int (StrChars.hi8 p2))) (.int (0 : Int32))
set_option maxRecDepth 65536 in
set_option maxHeartbeats 40000000 in
theorem rm29_0 (l : Launch) (Z : State) (aw : Array Value) (hw : ∀ d ∈ tables_1, d.before aw Z = true) (ws : List Jvm.Cond) (a0 : Addr) (p2 : Int32) (ka : ClassId) (z : Int32) (vs : List Value) (h0 : Heap) (n0 : Nat) (Z0 : n0 ≤ h0.size) (V_a : Arv Z h0 a0 ka .byte z vs (.int (0 : Int32))) (g_a0 : n0 ≤ a0) (S__assertionsDisabled : Sta Z h0 "java/lang/StringUTF16" "$assertionsDisabled" "Z" (.int (1 : Int32))) (S_HI_BYTE_SHIFT : Sta Z h0 "java/lang/StringUTF16" "HI_BYTE_SHIFT" "I" (.int (0 : Int32))) (S_LO_BYTE_SHIFT : Sta Z h0 "java/lang/StringUTF16" "LO_BYTE_SHIFT" "I" (.int (8 : Int32))) (hz0 : (0 : Int32) < z) (hz1 : (1 : Int32) < z) (hl0 : 0 < vs.length) (hl1 : 1 < vs.length) :
    MetFree l (⟨"java/lang/StringUTF16", "putChar", "([BII)V"⟩ : MethodName) (head1 (Jvm.Cond.code (⟨"java/lang/StringUTF16", "putChar", "([BII)V"⟩ : MethodName) jdk_52_method_4_code 3 none :: ws) ({ frames := 0, cells := 0, slots := 0, locals := 0 } : Room)) (fun a U => a = #[(.ref a0), (.int (0 : Int32)), (.int p2)] ∧ Z.Warmed39 U.vm ∧ U.heap = h0) (fun _ _ _ _ _ => True) (fun _ U o U' => ∃ v L, o = .returned v ∧ Qrm29_0 Z a0 p2 ka z vs h0 n0 v U'.heap L ∧ FrameEnd U o U' L ({ frames := 0, cells := 0, slots := 0, locals := 0 } : Room).cells ({ frames := 0, cells := 0, slots := 0, locals := 0 } : Room).slots) := by
  refine MetFree.of_bodySF (plainFor_of_name pn_60) hisR ?_
  intro p e s m args below meth c s₁ Bd hml0 hP hK
  obtain ⟨rfl, hZ, hh⟩ := hP
  have hx := Bd.exec
  have hby := Bd.bytes
  have hml : c.maxLocals = 3 := hml0
  have hown : s.vm.findClass "java/lang/StringUTF16" = some m.cls := findClass_of_methodNamed Bd.named
  have hnm := (name_of_methodNamed Bd.named Bd.method).1
  have X0 : Stand p l e ({ frames := 0, cells := 0, slots := 0, locals := 0 } : Room) s m #[(.ref a0), (.int (0 : Int32)), (.int p2)] below meth c s₁ [] 0 0 := Stand.of_body Bd
  have e0 : s₁.heap = h0 := by rw [← hh, Bd.state]; rfl
  have N0 := Fr.nil n0
  have hlk := Bd.notSynchronized
  show OwnGo p.tables e below _ (s₁.setTop (entryFrame m #[(.ref a0), (.int (0 : Int32)), (.int p2)] 3))
  rw [ef_rm29_0 m a0 p2]
  have K0 : Keep h0 h0 [a0] := Keep.refl _ _
  show OwnGo p.tables e below _ (s₁.setTop (mkF m 0 #[.val (.ref a0), .val (.int (0 : Int32)), .val (.int p2)] []))
  obtain ⟨T1, X1, e1, st1⟩ := getS2 X0 hx hZ hown (host := "") (Or.inl (w126 hw)) Via.refl e0 S__assertionsDisabled (g := (mkF m 0 #[.val (.ref a0), .val (.int (0 : Int32)), .val (.int p2)] [])) rfl (hb hby d29_0)
  refine OwnGo.of st1 ?_
  show OwnGo p.tables e below _ (T1.setTop (mkF m 3 #[.val (.ref a0), .val (.int (0 : Int32)), .val (.int p2)] [(.int (1 : Int32))]))
  have hc2 : ¬ ((1 : Int32) = (0 : Int32)) := by decide
  refine OwnGo.of (B := T1.setTop (mkF m 38 #[.val (.ref a0), .val (.int (1 : Int32)), .val (.int p2)] [(.int p2), (.int (0 : Int32)), (.ref a0)])) (fun t k => ?_) ?_
  · show Steps p.tables e below (T1.setTop (mkF m 3 #[.val (.ref a0), .val (.int (0 : Int32)), .val (.int p2)] [(.int (1 : Int32))])) t
    refine XS.ifYes X1.here hx rfl (pc0 := 3) (pc' := 28) rfl (hb hby d29_3) rfl ((if0 _ _).trans (feq hc2).2) (by decide) (by decide) ?_
    refine XS.iloadN X1.here hx rfl (hb hby d29_28) rfl ?_
    refine XS.iconst X1.here hx rfl (hb hby d29_29) ?_
    refine XS.ishl X1.here hx rfl (hb hby d29_30) rfl ?_
    refine XS.istoreN X1.here hx rfl (hb hby d29_31) rfl (l' := #[.val (.ref a0), .val (.int (0 : Int32)), .val (.int p2)]) rfl ?_
    refine XS.aloadN X1.here hx rfl (hb hby d29_32) rfl rfl ?_
    refine XS.iloadN X1.here hx rfl (hb hby d29_33) rfl ?_
    refine XS.iinc X1.here hx rfl (hb hby d29_34) rfl (l' := #[.val (.ref a0), .val (.int (1 : Int32)), .val (.int p2)]) rfl ?_
    refine XS.iloadN X1.here hx rfl (hb hby d29_37) rfl ?_
    exact k
  obtain ⟨T3, X3, e3, st3⟩ := getS2 X1 hx hZ hown (host := "") (Or.inl (w127 hw)) Via.refl e1 S_HI_BYTE_SHIFT (g := (mkF m 38 #[.val (.ref a0), .val (.int (1 : Int32)), .val (.int p2)] [(.int p2), (.int (0 : Int32)), (.ref a0)])) rfl (hb hby d29_38)
  refine OwnGo.of st3 ?_
  show OwnGo p.tables e below _ (T3.setTop (mkF m 41 #[.val (.ref a0), .val (.int (1 : Int32)), .val (.int p2)] [(.int (0 : Int32)), (.int p2), (.int (0 : Int32)), (.ref a0)]))
  refine OwnGo.of (B := T3.setTop (mkF m 43 #[.val (.ref a0), .val (.int (1 : Int32)), .val (.int p2)] [(.int ((p2 >>> ((0 : Int32) &&& 31)).toInt8.toInt32)), (.int (0 : Int32)), (.ref a0)])) (fun t k => ?_) ?_
  · show Steps p.tables e below (T3.setTop (mkF m 41 #[.val (.ref a0), .val (.int (1 : Int32)), .val (.int p2)] [(.int (0 : Int32)), (.int p2), (.int (0 : Int32)), (.ref a0)])) t
    refine XS.ishr X3.here hx rfl (hb hby d29_41) rfl ?_
    refine XS.i2b X3.here hx rfl (hb hby d29_42) rfl ?_
    exact k
  have cq4 := V_a
  obtain ⟨clq4, Arq4, qq4, Sq4, Nq4, Hq4, Gq4⟩ := cq4
  obtain ⟨T5, h5, X5, e5, W5, st5⟩ := stB X3 hx hZ e3 Arq4 (j := (0 : Int32)) (inb_of Sq4 ⟨by decide, hz0⟩) (g := (mkF m 43 #[.val (.ref a0), .val (.int (1 : Int32)), .val (.int p2)] [(.int ((p2 >>> ((0 : Int32) &&& 31)).toInt8.toInt32)), (.int (0 : Int32)), (.ref a0)])) rfl rfl (hb hby d29_43)
  refine OwnGo.of st5 ?_
  have N5 := Fr.snoc X5 N0 g_a0
  have f6 := Nat.le_trans Z0 (Keep.of_wr W5).1
  have f7 := K0.wr W5 (Or.inl (List.mem_of_getElem? (i := 0) rfl))
  have f8 := S__assertionsDisabled.wr W5
  have f9 := S_HI_BYTE_SHIFT.wr W5
  have f10 := S_LO_BYTE_SHIFT.wr W5
  have f11 : Arv Z h5 a0 ka .byte z (vs.set 0 (.int (((p2 >>> ((0 : Int32) &&& 31)).toInt8.toInt32)).toInt8.toInt32)) (.int (0 : Int32)) := Arv.set Arq4 qq4 Sq4 Nq4 Hq4 Gq4 (fits_nar_byte _) W5 0 rfl hl0
  show OwnGo p.tables e below _ (T5.setTop (mkF m 44 #[.val (.ref a0), .val (.int (1 : Int32)), .val (.int p2)] []))
  refine OwnGo.of (B := T5.setTop (mkF m 47 #[.val (.ref a0), .val (.int (1 : Int32)), .val (.int p2)] [(.int p2), (.int (1 : Int32)), (.ref a0)])) (fun t k => ?_) ?_
  · show Steps p.tables e below (T5.setTop (mkF m 44 #[.val (.ref a0), .val (.int (1 : Int32)), .val (.int p2)] [])) t
    refine XS.aloadN X5.here hx rfl (hb hby d29_44) rfl rfl ?_
    refine XS.iloadN X5.here hx rfl (hb hby d29_45) rfl ?_
    refine XS.iloadN X5.here hx rfl (hb hby d29_46) rfl ?_
    exact k
  obtain ⟨T12, X12, e12, st12⟩ := getS2 X5 hx hZ hown (host := "") (Or.inl (w128 hw)) Via.refl e5 f10 (g := (mkF m 47 #[.val (.ref a0), .val (.int (1 : Int32)), .val (.int p2)] [(.int p2), (.int (1 : Int32)), (.ref a0)])) rfl (hb hby d29_47)
  refine OwnGo.of st12 ?_
  show OwnGo p.tables e below _ (T12.setTop (mkF m 50 #[.val (.ref a0), .val (.int (1 : Int32)), .val (.int p2)] [(.int (8 : Int32)), (.int p2), (.int (1 : Int32)), (.ref a0)]))
  refine OwnGo.of (B := T12.setTop (mkF m 52 #[.val (.ref a0), .val (.int (1 : Int32)), .val (.int p2)] [(.int ((p2 >>> ((8 : Int32) &&& 31)).toInt8.toInt32)), (.int (1 : Int32)), (.ref a0)])) (fun t k => ?_) ?_
  · show Steps p.tables e below (T12.setTop (mkF m 50 #[.val (.ref a0), .val (.int (1 : Int32)), .val (.int p2)] [(.int (8 : Int32)), (.int p2), (.int (1 : Int32)), (.ref a0)])) t
    refine XS.ishr X12.here hx rfl (hb hby d29_50) rfl ?_
    refine XS.i2b X12.here hx rfl (hb hby d29_51) rfl ?_
    exact k
  have cq13 := f11
  obtain ⟨clq13, Arq13, qq13, Sq13, Nq13, Hq13, Gq13⟩ := cq13
  obtain ⟨T14, h14, X14, e14, W14, st14⟩ := stB X12 hx hZ e12 Arq13 (j := (1 : Int32)) (inb_of Sq13 ⟨by decide, hz1⟩) (g := (mkF m 52 #[.val (.ref a0), .val (.int (1 : Int32)), .val (.int p2)] [(.int ((p2 >>> ((8 : Int32) &&& 31)).toInt8.toInt32)), (.int (1 : Int32)), (.ref a0)])) rfl rfl (hb hby d29_52)
  refine OwnGo.of st14 ?_
  have N14 := Fr.snoc X14 N5 g_a0
  have f15 := Nat.le_trans f6 (Keep.of_wr W14).1
  have f16 := f7.wr W14 (Or.inl (List.mem_of_getElem? (i := 0) rfl))
  have f17 := f8.wr W14
  have f18 := f9.wr W14
  have f19 := f10.wr W14
  have f20 : Arv Z h14 a0 ka .byte z ((vs.set 0 (.int (((p2 >>> ((0 : Int32) &&& 31)).toInt8.toInt32)).toInt8.toInt32)).set 1 (.int (((p2 >>> ((8 : Int32) &&& 31)).toInt8.toInt32)).toInt8.toInt32)) (.int (0 : Int32)) := Arv.set Arq13 qq13 Sq13 Nq13 Hq13 Gq13 (fits_nar_byte _) W14 1 rfl (by rw [List.length_set]; exact hl1)
  show OwnGo p.tables e below _ (T14.setTop (mkF m 53 #[.val (.ref a0), .val (.int (1 : Int32)), .val (.int p2)] []))
  obtain ⟨fs, hr, hrun, hended, hW, hsame⟩ := X14.leave (v := none) (fun _ => rfl) hlk
  refine ⟨_, _, ?_, hrun, hended, _, _, rfl, ?_, ⟨_, rfl⟩, hW, hsame.mono (by decide) (by decide)⟩
  · show Steps p.tables e below (T14.setTop (mkF m 53 #[.val (.ref a0), .val (.int (1 : Int32)), .val (.int p2)] [])) _
    exact X14.returnOut hx Bd.returns (hb hby d29_53) hr
  · show Qrm29_0 Z a0 p2 ka z vs h0 n0 _ (T14.setFrames fs).heap _
    rw [show (T14.setFrames fs).heap = h14 from e14]
    have fz := f20
    rw [own_ll, own_ll, StrChars.shr0] at fz
    exact ⟨rfl, N14, f16, fz⟩
theorem ef_rm29_1 (m : MethodId) (a0 : Addr) (p2 : Int32) : entryFrame m #[(.ref a0), (.int (1 : Int32)), (.int p2)] 3 = mkF m 0 #[.val (.ref a0), .val (.int (1 : Int32)), .val (.int p2)] [] := by first | (simp [entryFrame, mkF, argsToLocals, Value.category]; done) | rfl
def Qrm29_1 (Z : State) (a0 : Addr) (p2 : Int32) (ka : ClassId) (z : Int32) (vs : List Value) (h0 : Heap) (n0 : Nat) (v : Option Value) (h : Heap) (L : List Loc) : Prop := v = none ∧ Fr n0 L ∧ Keep h0 h [a0] ∧ Arv Z h a0 ka .byte z ((vs.set 2 (.int (StrChars.lo8 p2))).set 3 (.int (StrChars.hi8 p2))) (.int (0 : Int32))
set_option maxRecDepth 65536 in
set_option maxHeartbeats 40000000 in
theorem rm29_1 (l : Launch) (Z : State) (aw : Array Value) (hw : ∀ d ∈ tables_1, d.before aw Z = true) (ws : List Jvm.Cond) (a0 : Addr) (p2 : Int32) (ka : ClassId) (z : Int32) (vs : List Value) (h0 : Heap) (n0 : Nat) (Z0 : n0 ≤ h0.size) (V_a : Arv Z h0 a0 ka .byte z vs (.int (0 : Int32))) (g_a0 : n0 ≤ a0) (S__assertionsDisabled : Sta Z h0 "java/lang/StringUTF16" "$assertionsDisabled" "Z" (.int (1 : Int32))) (S_HI_BYTE_SHIFT : Sta Z h0 "java/lang/StringUTF16" "HI_BYTE_SHIFT" "I" (.int (0 : Int32))) (S_LO_BYTE_SHIFT : Sta Z h0 "java/lang/StringUTF16" "LO_BYTE_SHIFT" "I" (.int (8 : Int32))) (hz0 : (2 : Int32) < z) (hz1 : (3 : Int32) < z) (hl0 : 2 < vs.length) (hl1 : 3 < vs.length) :
    MetFree l (⟨"java/lang/StringUTF16", "putChar", "([BII)V"⟩ : MethodName) (head1 (Jvm.Cond.code (⟨"java/lang/StringUTF16", "putChar", "([BII)V"⟩ : MethodName) jdk_52_method_4_code 3 none :: ws) ({ frames := 0, cells := 0, slots := 0, locals := 0 } : Room)) (fun a U => a = #[(.ref a0), (.int (1 : Int32)), (.int p2)] ∧ Z.Warmed39 U.vm ∧ U.heap = h0) (fun _ _ _ _ _ => True) (fun _ U o U' => ∃ v L, o = .returned v ∧ Qrm29_1 Z a0 p2 ka z vs h0 n0 v U'.heap L ∧ FrameEnd U o U' L ({ frames := 0, cells := 0, slots := 0, locals := 0 } : Room).cells ({ frames := 0, cells := 0, slots := 0, locals := 0 } : Room).slots) := by
  refine MetFree.of_bodySF (plainFor_of_name pn_60) hisR ?_
  intro p e s m args below meth c s₁ Bd hml0 hP hK
  obtain ⟨rfl, hZ, hh⟩ := hP
  have hx := Bd.exec
  have hby := Bd.bytes
  have hml : c.maxLocals = 3 := hml0
  have hown : s.vm.findClass "java/lang/StringUTF16" = some m.cls := findClass_of_methodNamed Bd.named
  have hnm := (name_of_methodNamed Bd.named Bd.method).1
  have X0 : Stand p l e ({ frames := 0, cells := 0, slots := 0, locals := 0 } : Room) s m #[(.ref a0), (.int (1 : Int32)), (.int p2)] below meth c s₁ [] 0 0 := Stand.of_body Bd
  have e0 : s₁.heap = h0 := by rw [← hh, Bd.state]; rfl
  have N0 := Fr.nil n0
  have hlk := Bd.notSynchronized
  show OwnGo p.tables e below _ (s₁.setTop (entryFrame m #[(.ref a0), (.int (1 : Int32)), (.int p2)] 3))
  rw [ef_rm29_1 m a0 p2]
  have K0 : Keep h0 h0 [a0] := Keep.refl _ _
  show OwnGo p.tables e below _ (s₁.setTop (mkF m 0 #[.val (.ref a0), .val (.int (1 : Int32)), .val (.int p2)] []))
  obtain ⟨T1, X1, e1, st1⟩ := getS2 X0 hx hZ hown (host := "") (Or.inl (w126 hw)) Via.refl e0 S__assertionsDisabled (g := (mkF m 0 #[.val (.ref a0), .val (.int (1 : Int32)), .val (.int p2)] [])) rfl (hb hby d29_0)
  refine OwnGo.of st1 ?_
  show OwnGo p.tables e below _ (T1.setTop (mkF m 3 #[.val (.ref a0), .val (.int (1 : Int32)), .val (.int p2)] [(.int (1 : Int32))]))
  have hc2 : ¬ ((1 : Int32) = (0 : Int32)) := by decide
  refine OwnGo.of (B := T1.setTop (mkF m 38 #[.val (.ref a0), .val (.int (3 : Int32)), .val (.int p2)] [(.int p2), (.int (2 : Int32)), (.ref a0)])) (fun t k => ?_) ?_
  · show Steps p.tables e below (T1.setTop (mkF m 3 #[.val (.ref a0), .val (.int (1 : Int32)), .val (.int p2)] [(.int (1 : Int32))])) t
    refine XS.ifYes X1.here hx rfl (pc0 := 3) (pc' := 28) rfl (hb hby d29_3) rfl ((if0 _ _).trans (feq hc2).2) (by decide) (by decide) ?_
    refine XS.iloadN X1.here hx rfl (hb hby d29_28) rfl ?_
    refine XS.iconst X1.here hx rfl (hb hby d29_29) ?_
    refine XS.ishl X1.here hx rfl (hb hby d29_30) rfl ?_
    refine XS.istoreN X1.here hx rfl (hb hby d29_31) rfl (l' := #[.val (.ref a0), .val (.int (2 : Int32)), .val (.int p2)]) rfl ?_
    refine XS.aloadN X1.here hx rfl (hb hby d29_32) rfl rfl ?_
    refine XS.iloadN X1.here hx rfl (hb hby d29_33) rfl ?_
    refine XS.iinc X1.here hx rfl (hb hby d29_34) rfl (l' := #[.val (.ref a0), .val (.int (3 : Int32)), .val (.int p2)]) rfl ?_
    refine XS.iloadN X1.here hx rfl (hb hby d29_37) rfl ?_
    exact k
  obtain ⟨T3, X3, e3, st3⟩ := getS2 X1 hx hZ hown (host := "") (Or.inl (w127 hw)) Via.refl e1 S_HI_BYTE_SHIFT (g := (mkF m 38 #[.val (.ref a0), .val (.int (3 : Int32)), .val (.int p2)] [(.int p2), (.int (2 : Int32)), (.ref a0)])) rfl (hb hby d29_38)
  refine OwnGo.of st3 ?_
  show OwnGo p.tables e below _ (T3.setTop (mkF m 41 #[.val (.ref a0), .val (.int (3 : Int32)), .val (.int p2)] [(.int (0 : Int32)), (.int p2), (.int (2 : Int32)), (.ref a0)]))
  refine OwnGo.of (B := T3.setTop (mkF m 43 #[.val (.ref a0), .val (.int (3 : Int32)), .val (.int p2)] [(.int ((p2 >>> ((0 : Int32) &&& 31)).toInt8.toInt32)), (.int (2 : Int32)), (.ref a0)])) (fun t k => ?_) ?_
  · show Steps p.tables e below (T3.setTop (mkF m 41 #[.val (.ref a0), .val (.int (3 : Int32)), .val (.int p2)] [(.int (0 : Int32)), (.int p2), (.int (2 : Int32)), (.ref a0)])) t
    refine XS.ishr X3.here hx rfl (hb hby d29_41) rfl ?_
    refine XS.i2b X3.here hx rfl (hb hby d29_42) rfl ?_
    exact k
  have cq4 := V_a
  obtain ⟨clq4, Arq4, qq4, Sq4, Nq4, Hq4, Gq4⟩ := cq4
  obtain ⟨T5, h5, X5, e5, W5, st5⟩ := stB X3 hx hZ e3 Arq4 (j := (2 : Int32)) (inb_of Sq4 ⟨by decide, hz0⟩) (g := (mkF m 43 #[.val (.ref a0), .val (.int (3 : Int32)), .val (.int p2)] [(.int ((p2 >>> ((0 : Int32) &&& 31)).toInt8.toInt32)), (.int (2 : Int32)), (.ref a0)])) rfl rfl (hb hby d29_43)
  refine OwnGo.of st5 ?_
  have N5 := Fr.snoc X5 N0 g_a0
  have f6 := Nat.le_trans Z0 (Keep.of_wr W5).1
  have f7 := K0.wr W5 (Or.inl (List.mem_of_getElem? (i := 0) rfl))
  have f8 := S__assertionsDisabled.wr W5
  have f9 := S_HI_BYTE_SHIFT.wr W5
  have f10 := S_LO_BYTE_SHIFT.wr W5
  have f11 : Arv Z h5 a0 ka .byte z (vs.set 2 (.int (((p2 >>> ((0 : Int32) &&& 31)).toInt8.toInt32)).toInt8.toInt32)) (.int (0 : Int32)) := Arv.set Arq4 qq4 Sq4 Nq4 Hq4 Gq4 (fits_nar_byte _) W5 2 rfl hl0
  show OwnGo p.tables e below _ (T5.setTop (mkF m 44 #[.val (.ref a0), .val (.int (3 : Int32)), .val (.int p2)] []))
  refine OwnGo.of (B := T5.setTop (mkF m 47 #[.val (.ref a0), .val (.int (3 : Int32)), .val (.int p2)] [(.int p2), (.int (3 : Int32)), (.ref a0)])) (fun t k => ?_) ?_
  · show Steps p.tables e below (T5.setTop (mkF m 44 #[.val (.ref a0), .val (.int (3 : Int32)), .val (.int p2)] [])) t
    refine XS.aloadN X5.here hx rfl (hb hby d29_44) rfl rfl ?_
    refine XS.iloadN X5.here hx rfl (hb hby d29_45) rfl ?_
    refine XS.iloadN X5.here hx rfl (hb hby d29_46) rfl ?_
    exact k
  obtain ⟨T12, X12, e12, st12⟩ := getS2 X5 hx hZ hown (host := "") (Or.inl (w128 hw)) Via.refl e5 f10 (g := (mkF m 47 #[.val (.ref a0), .val (.int (3 : Int32)), .val (.int p2)] [(.int p2), (.int (3 : Int32)), (.ref a0)])) rfl (hb hby d29_47)
  refine OwnGo.of st12 ?_
  show OwnGo p.tables e below _ (T12.setTop (mkF m 50 #[.val (.ref a0), .val (.int (3 : Int32)), .val (.int p2)] [(.int (8 : Int32)), (.int p2), (.int (3 : Int32)), (.ref a0)]))
  refine OwnGo.of (B := T12.setTop (mkF m 52 #[.val (.ref a0), .val (.int (3 : Int32)), .val (.int p2)] [(.int ((p2 >>> ((8 : Int32) &&& 31)).toInt8.toInt32)), (.int (3 : Int32)), (.ref a0)])) (fun t k => ?_) ?_
  · show Steps p.tables e below (T12.setTop (mkF m 50 #[.val (.ref a0), .val (.int (3 : Int32)), .val (.int p2)] [(.int (8 : Int32)), (.int p2), (.int (3 : Int32)), (.ref a0)])) t
    refine XS.ishr X12.here hx rfl (hb hby d29_50) rfl ?_
    refine XS.i2b X12.here hx rfl (hb hby d29_51) rfl ?_
    exact k
  have cq13 := f11
  obtain ⟨clq13, Arq13, qq13, Sq13, Nq13, Hq13, Gq13⟩ := cq13
  obtain ⟨T14, h14, X14, e14, W14, st14⟩ := stB X12 hx hZ e12 Arq13 (j := (3 : Int32)) (inb_of Sq13 ⟨by decide, hz1⟩) (g := (mkF m 52 #[.val (.ref a0), .val (.int (3 : Int32)), .val (.int p2)] [(.int ((p2 >>> ((8 : Int32) &&& 31)).toInt8.toInt32)), (.int (3 : Int32)), (.ref a0)])) rfl rfl (hb hby d29_52)
  refine OwnGo.of st14 ?_
  have N14 := Fr.snoc X14 N5 g_a0
  have f15 := Nat.le_trans f6 (Keep.of_wr W14).1
  have f16 := f7.wr W14 (Or.inl (List.mem_of_getElem? (i := 0) rfl))
  have f17 := f8.wr W14
  have f18 := f9.wr W14
  have f19 := f10.wr W14
  have f20 : Arv Z h14 a0 ka .byte z ((vs.set 2 (.int (((p2 >>> ((0 : Int32) &&& 31)).toInt8.toInt32)).toInt8.toInt32)).set 3 (.int (((p2 >>> ((8 : Int32) &&& 31)).toInt8.toInt32)).toInt8.toInt32)) (.int (0 : Int32)) := Arv.set Arq13 qq13 Sq13 Nq13 Hq13 Gq13 (fits_nar_byte _) W14 3 rfl (by rw [List.length_set]; exact hl1)
  show OwnGo p.tables e below _ (T14.setTop (mkF m 53 #[.val (.ref a0), .val (.int (3 : Int32)), .val (.int p2)] []))
  obtain ⟨fs, hr, hrun, hended, hW, hsame⟩ := X14.leave (v := none) (fun _ => rfl) hlk
  refine ⟨_, _, ?_, hrun, hended, _, _, rfl, ?_, ⟨_, rfl⟩, hW, hsame.mono (by decide) (by decide)⟩
  · show Steps p.tables e below (T14.setTop (mkF m 53 #[.val (.ref a0), .val (.int (3 : Int32)), .val (.int p2)] [])) _
    exact X14.returnOut hx Bd.returns (hb hby d29_53) hr
  · show Qrm29_1 Z a0 p2 ka z vs h0 n0 _ (T14.setFrames fs).heap _
    rw [show (T14.setFrames fs).heap = h14 from e14]
    have fz := f20
    rw [own_ll, own_ll, StrChars.shr0] at fz
    exact ⟨rfl, N14, f16, fz⟩
theorem ef_rm29_2 (m : MethodId) (a0 : Addr) (p2 : Int32) : entryFrame m #[(.ref a0), (.int (2 : Int32)), (.int p2)] 3 = mkF m 0 #[.val (.ref a0), .val (.int (2 : Int32)), .val (.int p2)] [] := by first | (simp [entryFrame, mkF, argsToLocals, Value.category]; done) | rfl
def Qrm29_2 (Z : State) (a0 : Addr) (p2 : Int32) (ka : ClassId) (z : Int32) (vs : List Value) (h0 : Heap) (n0 : Nat) (v : Option Value) (h : Heap) (L : List Loc) : Prop := v = none ∧ Fr n0 L ∧ Keep h0 h [a0] ∧ Arv Z h a0 ka .byte z ((vs.set 4 (.int (StrChars.lo8 p2))).set 5 (.int (StrChars.hi8 p2))) (.int (0 : Int32))
set_option maxRecDepth 65536 in
set_option maxHeartbeats 40000000 in
theorem rm29_2 (l : Launch) (Z : State) (aw : Array Value) (hw : ∀ d ∈ tables_1, d.before aw Z = true) (ws : List Jvm.Cond) (a0 : Addr) (p2 : Int32) (ka : ClassId) (z : Int32) (vs : List Value) (h0 : Heap) (n0 : Nat) (Z0 : n0 ≤ h0.size) (V_a : Arv Z h0 a0 ka .byte z vs (.int (0 : Int32))) (g_a0 : n0 ≤ a0) (S__assertionsDisabled : Sta Z h0 "java/lang/StringUTF16" "$assertionsDisabled" "Z" (.int (1 : Int32))) (S_HI_BYTE_SHIFT : Sta Z h0 "java/lang/StringUTF16" "HI_BYTE_SHIFT" "I" (.int (0 : Int32))) (S_LO_BYTE_SHIFT : Sta Z h0 "java/lang/StringUTF16" "LO_BYTE_SHIFT" "I" (.int (8 : Int32))) (hz0 : (4 : Int32) < z) (hz1 : (5 : Int32) < z) (hl0 : 4 < vs.length) (hl1 : 5 < vs.length) :
    MetFree l (⟨"java/lang/StringUTF16", "putChar", "([BII)V"⟩ : MethodName) (head1 (Jvm.Cond.code (⟨"java/lang/StringUTF16", "putChar", "([BII)V"⟩ : MethodName) jdk_52_method_4_code 3 none :: ws) ({ frames := 0, cells := 0, slots := 0, locals := 0 } : Room)) (fun a U => a = #[(.ref a0), (.int (2 : Int32)), (.int p2)] ∧ Z.Warmed39 U.vm ∧ U.heap = h0) (fun _ _ _ _ _ => True) (fun _ U o U' => ∃ v L, o = .returned v ∧ Qrm29_2 Z a0 p2 ka z vs h0 n0 v U'.heap L ∧ FrameEnd U o U' L ({ frames := 0, cells := 0, slots := 0, locals := 0 } : Room).cells ({ frames := 0, cells := 0, slots := 0, locals := 0 } : Room).slots) := by
  refine MetFree.of_bodySF (plainFor_of_name pn_60) hisR ?_
  intro p e s m args below meth c s₁ Bd hml0 hP hK
  obtain ⟨rfl, hZ, hh⟩ := hP
  have hx := Bd.exec
  have hby := Bd.bytes
  have hml : c.maxLocals = 3 := hml0
  have hown : s.vm.findClass "java/lang/StringUTF16" = some m.cls := findClass_of_methodNamed Bd.named
  have hnm := (name_of_methodNamed Bd.named Bd.method).1
  have X0 : Stand p l e ({ frames := 0, cells := 0, slots := 0, locals := 0 } : Room) s m #[(.ref a0), (.int (2 : Int32)), (.int p2)] below meth c s₁ [] 0 0 := Stand.of_body Bd
  have e0 : s₁.heap = h0 := by rw [← hh, Bd.state]; rfl
  have N0 := Fr.nil n0
  have hlk := Bd.notSynchronized
  show OwnGo p.tables e below _ (s₁.setTop (entryFrame m #[(.ref a0), (.int (2 : Int32)), (.int p2)] 3))
  rw [ef_rm29_2 m a0 p2]
  have K0 : Keep h0 h0 [a0] := Keep.refl _ _
  show OwnGo p.tables e below _ (s₁.setTop (mkF m 0 #[.val (.ref a0), .val (.int (2 : Int32)), .val (.int p2)] []))
  obtain ⟨T1, X1, e1, st1⟩ := getS2 X0 hx hZ hown (host := "") (Or.inl (w126 hw)) Via.refl e0 S__assertionsDisabled (g := (mkF m 0 #[.val (.ref a0), .val (.int (2 : Int32)), .val (.int p2)] [])) rfl (hb hby d29_0)
  refine OwnGo.of st1 ?_
  show OwnGo p.tables e below _ (T1.setTop (mkF m 3 #[.val (.ref a0), .val (.int (2 : Int32)), .val (.int p2)] [(.int (1 : Int32))]))
  have hc2 : ¬ ((1 : Int32) = (0 : Int32)) := by decide
  refine OwnGo.of (B := T1.setTop (mkF m 38 #[.val (.ref a0), .val (.int (5 : Int32)), .val (.int p2)] [(.int p2), (.int (4 : Int32)), (.ref a0)])) (fun t k => ?_) ?_
  · show Steps p.tables e below (T1.setTop (mkF m 3 #[.val (.ref a0), .val (.int (2 : Int32)), .val (.int p2)] [(.int (1 : Int32))])) t
    refine XS.ifYes X1.here hx rfl (pc0 := 3) (pc' := 28) rfl (hb hby d29_3) rfl ((if0 _ _).trans (feq hc2).2) (by decide) (by decide) ?_
    refine XS.iloadN X1.here hx rfl (hb hby d29_28) rfl ?_
    refine XS.iconst X1.here hx rfl (hb hby d29_29) ?_
    refine XS.ishl X1.here hx rfl (hb hby d29_30) rfl ?_
    refine XS.istoreN X1.here hx rfl (hb hby d29_31) rfl (l' := #[.val (.ref a0), .val (.int (4 : Int32)), .val (.int p2)]) rfl ?_
    refine XS.aloadN X1.here hx rfl (hb hby d29_32) rfl rfl ?_
    refine XS.iloadN X1.here hx rfl (hb hby d29_33) rfl ?_
    refine XS.iinc X1.here hx rfl (hb hby d29_34) rfl (l' := #[.val (.ref a0), .val (.int (5 : Int32)), .val (.int p2)]) rfl ?_
    refine XS.iloadN X1.here hx rfl (hb hby d29_37) rfl ?_
    exact k
  obtain ⟨T3, X3, e3, st3⟩ := getS2 X1 hx hZ hown (host := "") (Or.inl (w127 hw)) Via.refl e1 S_HI_BYTE_SHIFT (g := (mkF m 38 #[.val (.ref a0), .val (.int (5 : Int32)), .val (.int p2)] [(.int p2), (.int (4 : Int32)), (.ref a0)])) rfl (hb hby d29_38)
  refine OwnGo.of st3 ?_
  show OwnGo p.tables e below _ (T3.setTop (mkF m 41 #[.val (.ref a0), .val (.int (5 : Int32)), .val (.int p2)] [(.int (0 : Int32)), (.int p2), (.int (4 : Int32)), (.ref a0)]))
  refine OwnGo.of (B := T3.setTop (mkF m 43 #[.val (.ref a0), .val (.int (5 : Int32)), .val (.int p2)] [(.int ((p2 >>> ((0 : Int32) &&& 31)).toInt8.toInt32)), (.int (4 : Int32)), (.ref a0)])) (fun t k => ?_) ?_
  · show Steps p.tables e below (T3.setTop (mkF m 41 #[.val (.ref a0), .val (.int (5 : Int32)), .val (.int p2)] [(.int (0 : Int32)), (.int p2), (.int (4 : Int32)), (.ref a0)])) t
    refine XS.ishr X3.here hx rfl (hb hby d29_41) rfl ?_
    refine XS.i2b X3.here hx rfl (hb hby d29_42) rfl ?_
    exact k
  have cq4 := V_a
  obtain ⟨clq4, Arq4, qq4, Sq4, Nq4, Hq4, Gq4⟩ := cq4
  obtain ⟨T5, h5, X5, e5, W5, st5⟩ := stB X3 hx hZ e3 Arq4 (j := (4 : Int32)) (inb_of Sq4 ⟨by decide, hz0⟩) (g := (mkF m 43 #[.val (.ref a0), .val (.int (5 : Int32)), .val (.int p2)] [(.int ((p2 >>> ((0 : Int32) &&& 31)).toInt8.toInt32)), (.int (4 : Int32)), (.ref a0)])) rfl rfl (hb hby d29_43)
  refine OwnGo.of st5 ?_
  have N5 := Fr.snoc X5 N0 g_a0
  have f6 := Nat.le_trans Z0 (Keep.of_wr W5).1
  have f7 := K0.wr W5 (Or.inl (List.mem_of_getElem? (i := 0) rfl))
  have f8 := S__assertionsDisabled.wr W5
  have f9 := S_HI_BYTE_SHIFT.wr W5
  have f10 := S_LO_BYTE_SHIFT.wr W5
  have f11 : Arv Z h5 a0 ka .byte z (vs.set 4 (.int (((p2 >>> ((0 : Int32) &&& 31)).toInt8.toInt32)).toInt8.toInt32)) (.int (0 : Int32)) := Arv.set Arq4 qq4 Sq4 Nq4 Hq4 Gq4 (fits_nar_byte _) W5 4 rfl hl0
  show OwnGo p.tables e below _ (T5.setTop (mkF m 44 #[.val (.ref a0), .val (.int (5 : Int32)), .val (.int p2)] []))
  refine OwnGo.of (B := T5.setTop (mkF m 47 #[.val (.ref a0), .val (.int (5 : Int32)), .val (.int p2)] [(.int p2), (.int (5 : Int32)), (.ref a0)])) (fun t k => ?_) ?_
  · show Steps p.tables e below (T5.setTop (mkF m 44 #[.val (.ref a0), .val (.int (5 : Int32)), .val (.int p2)] [])) t
    refine XS.aloadN X5.here hx rfl (hb hby d29_44) rfl rfl ?_
    refine XS.iloadN X5.here hx rfl (hb hby d29_45) rfl ?_
    refine XS.iloadN X5.here hx rfl (hb hby d29_46) rfl ?_
    exact k
  obtain ⟨T12, X12, e12, st12⟩ := getS2 X5 hx hZ hown (host := "") (Or.inl (w128 hw)) Via.refl e5 f10 (g := (mkF m 47 #[.val (.ref a0), .val (.int (5 : Int32)), .val (.int p2)] [(.int p2), (.int (5 : Int32)), (.ref a0)])) rfl (hb hby d29_47)
  refine OwnGo.of st12 ?_
  show OwnGo p.tables e below _ (T12.setTop (mkF m 50 #[.val (.ref a0), .val (.int (5 : Int32)), .val (.int p2)] [(.int (8 : Int32)), (.int p2), (.int (5 : Int32)), (.ref a0)]))
  refine OwnGo.of (B := T12.setTop (mkF m 52 #[.val (.ref a0), .val (.int (5 : Int32)), .val (.int p2)] [(.int ((p2 >>> ((8 : Int32) &&& 31)).toInt8.toInt32)), (.int (5 : Int32)), (.ref a0)])) (fun t k => ?_) ?_
  · show Steps p.tables e below (T12.setTop (mkF m 50 #[.val (.ref a0), .val (.int (5 : Int32)), .val (.int p2)] [(.int (8 : Int32)), (.int p2), (.int (5 : Int32)), (.ref a0)])) t
    refine XS.ishr X12.here hx rfl (hb hby d29_50) rfl ?_
    refine XS.i2b X12.here hx rfl (hb hby d29_51) rfl ?_
    exact k
  have cq13 := f11
  obtain ⟨clq13, Arq13, qq13, Sq13, Nq13, Hq13, Gq13⟩ := cq13
  obtain ⟨T14, h14, X14, e14, W14, st14⟩ := stB X12 hx hZ e12 Arq13 (j := (5 : Int32)) (inb_of Sq13 ⟨by decide, hz1⟩) (g := (mkF m 52 #[.val (.ref a0), .val (.int (5 : Int32)), .val (.int p2)] [(.int ((p2 >>> ((8 : Int32) &&& 31)).toInt8.toInt32)), (.int (5 : Int32)), (.ref a0)])) rfl rfl (hb hby d29_52)
  refine OwnGo.of st14 ?_
  have N14 := Fr.snoc X14 N5 g_a0
  have f15 := Nat.le_trans f6 (Keep.of_wr W14).1
  have f16 := f7.wr W14 (Or.inl (List.mem_of_getElem? (i := 0) rfl))
  have f17 := f8.wr W14
  have f18 := f9.wr W14
  have f19 := f10.wr W14
  have f20 : Arv Z h14 a0 ka .byte z ((vs.set 4 (.int (((p2 >>> ((0 : Int32) &&& 31)).toInt8.toInt32)).toInt8.toInt32)).set 5 (.int (((p2 >>> ((8 : Int32) &&& 31)).toInt8.toInt32)).toInt8.toInt32)) (.int (0 : Int32)) := Arv.set Arq13 qq13 Sq13 Nq13 Hq13 Gq13 (fits_nar_byte _) W14 5 rfl (by rw [List.length_set]; exact hl1)
  show OwnGo p.tables e below _ (T14.setTop (mkF m 53 #[.val (.ref a0), .val (.int (5 : Int32)), .val (.int p2)] []))
  obtain ⟨fs, hr, hrun, hended, hW, hsame⟩ := X14.leave (v := none) (fun _ => rfl) hlk
  refine ⟨_, _, ?_, hrun, hended, _, _, rfl, ?_, ⟨_, rfl⟩, hW, hsame.mono (by decide) (by decide)⟩
  · show Steps p.tables e below (T14.setTop (mkF m 53 #[.val (.ref a0), .val (.int (5 : Int32)), .val (.int p2)] [])) _
    exact X14.returnOut hx Bd.returns (hb hby d29_53) hr
  · show Qrm29_2 Z a0 p2 ka z vs h0 n0 _ (T14.setFrames fs).heap _
    rw [show (T14.setFrames fs).heap = h14 from e14]
    have fz := f20
    rw [own_ll, own_ll, StrChars.shr0] at fz
    exact ⟨rfl, N14, f16, fz⟩
theorem ef_rm29_3 (m : MethodId) (a0 : Addr) (p2 : Int32) : entryFrame m #[(.ref a0), (.int (3 : Int32)), (.int p2)] 3 = mkF m 0 #[.val (.ref a0), .val (.int (3 : Int32)), .val (.int p2)] [] := by first | (simp [entryFrame, mkF, argsToLocals, Value.category]; done) | rfl
def Qrm29_3 (Z : State) (a0 : Addr) (p2 : Int32) (ka : ClassId) (z : Int32) (vs : List Value) (h0 : Heap) (n0 : Nat) (v : Option Value) (h : Heap) (L : List Loc) : Prop := v = none ∧ Fr n0 L ∧ Keep h0 h [a0] ∧ Arv Z h a0 ka .byte z ((vs.set 6 (.int (StrChars.lo8 p2))).set 7 (.int (StrChars.hi8 p2))) (.int (0 : Int32))
set_option maxRecDepth 65536 in
set_option maxHeartbeats 40000000 in
theorem rm29_3 (l : Launch) (Z : State) (aw : Array Value) (hw : ∀ d ∈ tables_1, d.before aw Z = true) (ws : List Jvm.Cond) (a0 : Addr) (p2 : Int32) (ka : ClassId) (z : Int32) (vs : List Value) (h0 : Heap) (n0 : Nat) (Z0 : n0 ≤ h0.size) (V_a : Arv Z h0 a0 ka .byte z vs (.int (0 : Int32))) (g_a0 : n0 ≤ a0) (S__assertionsDisabled : Sta Z h0 "java/lang/StringUTF16" "$assertionsDisabled" "Z" (.int (1 : Int32))) (S_HI_BYTE_SHIFT : Sta Z h0 "java/lang/StringUTF16" "HI_BYTE_SHIFT" "I" (.int (0 : Int32))) (S_LO_BYTE_SHIFT : Sta Z h0 "java/lang/StringUTF16" "LO_BYTE_SHIFT" "I" (.int (8 : Int32))) (hz0 : (6 : Int32) < z) (hz1 : (7 : Int32) < z) (hl0 : 6 < vs.length) (hl1 : 7 < vs.length) :
    MetFree l (⟨"java/lang/StringUTF16", "putChar", "([BII)V"⟩ : MethodName) (head1 (Jvm.Cond.code (⟨"java/lang/StringUTF16", "putChar", "([BII)V"⟩ : MethodName) jdk_52_method_4_code 3 none :: ws) ({ frames := 0, cells := 0, slots := 0, locals := 0 } : Room)) (fun a U => a = #[(.ref a0), (.int (3 : Int32)), (.int p2)] ∧ Z.Warmed39 U.vm ∧ U.heap = h0) (fun _ _ _ _ _ => True) (fun _ U o U' => ∃ v L, o = .returned v ∧ Qrm29_3 Z a0 p2 ka z vs h0 n0 v U'.heap L ∧ FrameEnd U o U' L ({ frames := 0, cells := 0, slots := 0, locals := 0 } : Room).cells ({ frames := 0, cells := 0, slots := 0, locals := 0 } : Room).slots) := by
  refine MetFree.of_bodySF (plainFor_of_name pn_60) hisR ?_
  intro p e s m args below meth c s₁ Bd hml0 hP hK
  obtain ⟨rfl, hZ, hh⟩ := hP
  have hx := Bd.exec
  have hby := Bd.bytes
  have hml : c.maxLocals = 3 := hml0
  have hown : s.vm.findClass "java/lang/StringUTF16" = some m.cls := findClass_of_methodNamed Bd.named
  have hnm := (name_of_methodNamed Bd.named Bd.method).1
  have X0 : Stand p l e ({ frames := 0, cells := 0, slots := 0, locals := 0 } : Room) s m #[(.ref a0), (.int (3 : Int32)), (.int p2)] below meth c s₁ [] 0 0 := Stand.of_body Bd
  have e0 : s₁.heap = h0 := by rw [← hh, Bd.state]; rfl
  have N0 := Fr.nil n0
  have hlk := Bd.notSynchronized
  show OwnGo p.tables e below _ (s₁.setTop (entryFrame m #[(.ref a0), (.int (3 : Int32)), (.int p2)] 3))
  rw [ef_rm29_3 m a0 p2]
  have K0 : Keep h0 h0 [a0] := Keep.refl _ _
  show OwnGo p.tables e below _ (s₁.setTop (mkF m 0 #[.val (.ref a0), .val (.int (3 : Int32)), .val (.int p2)] []))
  obtain ⟨T1, X1, e1, st1⟩ := getS2 X0 hx hZ hown (host := "") (Or.inl (w126 hw)) Via.refl e0 S__assertionsDisabled (g := (mkF m 0 #[.val (.ref a0), .val (.int (3 : Int32)), .val (.int p2)] [])) rfl (hb hby d29_0)
  refine OwnGo.of st1 ?_
  show OwnGo p.tables e below _ (T1.setTop (mkF m 3 #[.val (.ref a0), .val (.int (3 : Int32)), .val (.int p2)] [(.int (1 : Int32))]))
  have hc2 : ¬ ((1 : Int32) = (0 : Int32)) := by decide
  refine OwnGo.of (B := T1.setTop (mkF m 38 #[.val (.ref a0), .val (.int (7 : Int32)), .val (.int p2)] [(.int p2), (.int (6 : Int32)), (.ref a0)])) (fun t k => ?_) ?_
  · show Steps p.tables e below (T1.setTop (mkF m 3 #[.val (.ref a0), .val (.int (3 : Int32)), .val (.int p2)] [(.int (1 : Int32))])) t
    refine XS.ifYes X1.here hx rfl (pc0 := 3) (pc' := 28) rfl (hb hby d29_3) rfl ((if0 _ _).trans (feq hc2).2) (by decide) (by decide) ?_
    refine XS.iloadN X1.here hx rfl (hb hby d29_28) rfl ?_
    refine XS.iconst X1.here hx rfl (hb hby d29_29) ?_
    refine XS.ishl X1.here hx rfl (hb hby d29_30) rfl ?_
    refine XS.istoreN X1.here hx rfl (hb hby d29_31) rfl (l' := #[.val (.ref a0), .val (.int (6 : Int32)), .val (.int p2)]) rfl ?_
    refine XS.aloadN X1.here hx rfl (hb hby d29_32) rfl rfl ?_
    refine XS.iloadN X1.here hx rfl (hb hby d29_33) rfl ?_
    refine XS.iinc X1.here hx rfl (hb hby d29_34) rfl (l' := #[.val (.ref a0), .val (.int (7 : Int32)), .val (.int p2)]) rfl ?_
    refine XS.iloadN X1.here hx rfl (hb hby d29_37) rfl ?_
    exact k
  obtain ⟨T3, X3, e3, st3⟩ := getS2 X1 hx hZ hown (host := "") (Or.inl (w127 hw)) Via.refl e1 S_HI_BYTE_SHIFT (g := (mkF m 38 #[.val (.ref a0), .val (.int (7 : Int32)), .val (.int p2)] [(.int p2), (.int (6 : Int32)), (.ref a0)])) rfl (hb hby d29_38)
  refine OwnGo.of st3 ?_
  show OwnGo p.tables e below _ (T3.setTop (mkF m 41 #[.val (.ref a0), .val (.int (7 : Int32)), .val (.int p2)] [(.int (0 : Int32)), (.int p2), (.int (6 : Int32)), (.ref a0)]))
  refine OwnGo.of (B := T3.setTop (mkF m 43 #[.val (.ref a0), .val (.int (7 : Int32)), .val (.int p2)] [(.int ((p2 >>> ((0 : Int32) &&& 31)).toInt8.toInt32)), (.int (6 : Int32)), (.ref a0)])) (fun t k => ?_) ?_
  · show Steps p.tables e below (T3.setTop (mkF m 41 #[.val (.ref a0), .val (.int (7 : Int32)), .val (.int p2)] [(.int (0 : Int32)), (.int p2), (.int (6 : Int32)), (.ref a0)])) t
    refine XS.ishr X3.here hx rfl (hb hby d29_41) rfl ?_
    refine XS.i2b X3.here hx rfl (hb hby d29_42) rfl ?_
    exact k
  have cq4 := V_a
  obtain ⟨clq4, Arq4, qq4, Sq4, Nq4, Hq4, Gq4⟩ := cq4
  obtain ⟨T5, h5, X5, e5, W5, st5⟩ := stB X3 hx hZ e3 Arq4 (j := (6 : Int32)) (inb_of Sq4 ⟨by decide, hz0⟩) (g := (mkF m 43 #[.val (.ref a0), .val (.int (7 : Int32)), .val (.int p2)] [(.int ((p2 >>> ((0 : Int32) &&& 31)).toInt8.toInt32)), (.int (6 : Int32)), (.ref a0)])) rfl rfl (hb hby d29_43)
  refine OwnGo.of st5 ?_
  have N5 := Fr.snoc X5 N0 g_a0
  have f6 := Nat.le_trans Z0 (Keep.of_wr W5).1
  have f7 := K0.wr W5 (Or.inl (List.mem_of_getElem? (i := 0) rfl))
  have f8 := S__assertionsDisabled.wr W5
  have f9 := S_HI_BYTE_SHIFT.wr W5
  have f10 := S_LO_BYTE_SHIFT.wr W5
  have f11 : Arv Z h5 a0 ka .byte z (vs.set 6 (.int (((p2 >>> ((0 : Int32) &&& 31)).toInt8.toInt32)).toInt8.toInt32)) (.int (0 : Int32)) := Arv.set Arq4 qq4 Sq4 Nq4 Hq4 Gq4 (fits_nar_byte _) W5 6 rfl hl0
  show OwnGo p.tables e below _ (T5.setTop (mkF m 44 #[.val (.ref a0), .val (.int (7 : Int32)), .val (.int p2)] []))
  refine OwnGo.of (B := T5.setTop (mkF m 47 #[.val (.ref a0), .val (.int (7 : Int32)), .val (.int p2)] [(.int p2), (.int (7 : Int32)), (.ref a0)])) (fun t k => ?_) ?_
  · show Steps p.tables e below (T5.setTop (mkF m 44 #[.val (.ref a0), .val (.int (7 : Int32)), .val (.int p2)] [])) t
    refine XS.aloadN X5.here hx rfl (hb hby d29_44) rfl rfl ?_
    refine XS.iloadN X5.here hx rfl (hb hby d29_45) rfl ?_
    refine XS.iloadN X5.here hx rfl (hb hby d29_46) rfl ?_
    exact k
  obtain ⟨T12, X12, e12, st12⟩ := getS2 X5 hx hZ hown (host := "") (Or.inl (w128 hw)) Via.refl e5 f10 (g := (mkF m 47 #[.val (.ref a0), .val (.int (7 : Int32)), .val (.int p2)] [(.int p2), (.int (7 : Int32)), (.ref a0)])) rfl (hb hby d29_47)
  refine OwnGo.of st12 ?_
  show OwnGo p.tables e below _ (T12.setTop (mkF m 50 #[.val (.ref a0), .val (.int (7 : Int32)), .val (.int p2)] [(.int (8 : Int32)), (.int p2), (.int (7 : Int32)), (.ref a0)]))
  refine OwnGo.of (B := T12.setTop (mkF m 52 #[.val (.ref a0), .val (.int (7 : Int32)), .val (.int p2)] [(.int ((p2 >>> ((8 : Int32) &&& 31)).toInt8.toInt32)), (.int (7 : Int32)), (.ref a0)])) (fun t k => ?_) ?_
  · show Steps p.tables e below (T12.setTop (mkF m 50 #[.val (.ref a0), .val (.int (7 : Int32)), .val (.int p2)] [(.int (8 : Int32)), (.int p2), (.int (7 : Int32)), (.ref a0)])) t
    refine XS.ishr X12.here hx rfl (hb hby d29_50) rfl ?_
    refine XS.i2b X12.here hx rfl (hb hby d29_51) rfl ?_
    exact k
  have cq13 := f11
  obtain ⟨clq13, Arq13, qq13, Sq13, Nq13, Hq13, Gq13⟩ := cq13
  obtain ⟨T14, h14, X14, e14, W14, st14⟩ := stB X12 hx hZ e12 Arq13 (j := (7 : Int32)) (inb_of Sq13 ⟨by decide, hz1⟩) (g := (mkF m 52 #[.val (.ref a0), .val (.int (7 : Int32)), .val (.int p2)] [(.int ((p2 >>> ((8 : Int32) &&& 31)).toInt8.toInt32)), (.int (7 : Int32)), (.ref a0)])) rfl rfl (hb hby d29_52)
  refine OwnGo.of st14 ?_
  have N14 := Fr.snoc X14 N5 g_a0
  have f15 := Nat.le_trans f6 (Keep.of_wr W14).1
  have f16 := f7.wr W14 (Or.inl (List.mem_of_getElem? (i := 0) rfl))
  have f17 := f8.wr W14
  have f18 := f9.wr W14
  have f19 := f10.wr W14
  have f20 : Arv Z h14 a0 ka .byte z ((vs.set 6 (.int (((p2 >>> ((0 : Int32) &&& 31)).toInt8.toInt32)).toInt8.toInt32)).set 7 (.int (((p2 >>> ((8 : Int32) &&& 31)).toInt8.toInt32)).toInt8.toInt32)) (.int (0 : Int32)) := Arv.set Arq13 qq13 Sq13 Nq13 Hq13 Gq13 (fits_nar_byte _) W14 7 rfl (by rw [List.length_set]; exact hl1)
  show OwnGo p.tables e below _ (T14.setTop (mkF m 53 #[.val (.ref a0), .val (.int (7 : Int32)), .val (.int p2)] []))
  obtain ⟨fs, hr, hrun, hended, hW, hsame⟩ := X14.leave (v := none) (fun _ => rfl) hlk
  refine ⟨_, _, ?_, hrun, hended, _, _, rfl, ?_, ⟨_, rfl⟩, hW, hsame.mono (by decide) (by decide)⟩
  · show Steps p.tables e below (T14.setTop (mkF m 53 #[.val (.ref a0), .val (.int (7 : Int32)), .val (.int p2)] [])) _
    exact X14.returnOut hx Bd.returns (hb hby d29_53) hr
  · show Qrm29_3 Z a0 p2 ka z vs h0 n0 _ (T14.setFrames fs).heap _
    rw [show (T14.setFrames fs).heap = h14 from e14]
    have fz := f20
    rw [own_ll, own_ll, StrChars.shr0] at fz
    exact ⟨rfl, N14, f16, fz⟩
theorem d10_0 : decode jdk_52_method_15_code 0 = .ok (.iload_n 1, 1) := by decide +kernel
theorem d10_1 : decode jdk_52_method_15_code 1 = .ok (.aload_n 0, 1) := by decide +kernel
theorem d10_2 : decode jdk_52_method_15_code 2 = .ok (.arraylength, 1) := by decide +kernel
theorem d10_3 : decode jdk_52_method_15_code 3 = .ok (.isub, 1) := by decide +kernel
theorem d10_4 : decode jdk_52_method_15_code 4 = .ok (.bipush 31, 2) := by decide +kernel
theorem d10_6 : decode jdk_52_method_15_code 6 = .ok (.iushr, 1) := by decide +kernel
theorem d10_7 : decode jdk_52_method_15_code 7 = .ok (.i2b, 1) := by decide +kernel
theorem d10_8 : decode jdk_52_method_15_code 8 = .ok (.ireturn, 1) := by decide +kernel
theorem ef_rm10 (m : MethodId) (a0 : Addr) (p1 : Int32) : entryFrame m #[(.ref a0), (.int p1)] 2 = mkF m 0 #[.val (.ref a0), .val (.int p1)] [] := by first | (simp [entryFrame, mkF, argsToLocals, Value.category]; done) | rfl
def Qrm10 (Z : State) (a0 : Addr) (p1 : Int32) (ka : ClassId) (z : Int32) (vs : List Value) (cd : Int32) (h0 : Heap) (n0 : Nat) (v : Option Value) (h : Heap) (L : List Loc) : Prop := v = some (.int cd) ∧ Fr n0 L ∧ h = h0
set_option maxRecDepth 65536 in
set_option maxHeartbeats 40000000 in
theorem rm10 (l : Launch) (Z : State) (aw : Array Value) (hw : ∀ d ∈ tables_1, d.before aw Z = true) (ws : List Jvm.Cond) (a0 : Addr) (p1 : Int32) (ka : ClassId) (z : Int32) (vs : List Value) (cd : Int32) (h0 : Heap) (n0 : Nat) (Z0 : n0 ≤ h0.size) (V_a : Arv Z h0 a0 ka .byte z vs (.int (0 : Int32))) (hcd : nar .byte (((p1 - z).toUInt32 >>> ((31 : Int32) &&& 31).toUInt32).toInt32).toInt8.toInt32 = cd) :
    MetFree l (⟨"java/lang/StringUTF16", "coderFromArrayLen", "([BI)B"⟩ : MethodName) (head1 (Jvm.Cond.code (⟨"java/lang/StringUTF16", "coderFromArrayLen", "([BI)B"⟩ : MethodName) jdk_52_method_15_code 2 (some .byte) :: ws) ({ frames := 0, cells := 0, slots := 0, locals := 0 } : Room)) (fun a U => a = #[(.ref a0), (.int p1)] ∧ Z.Warmed39 U.vm ∧ U.heap = h0) (fun _ _ _ _ _ => True) (fun _ U o U' => ∃ v L, o = .returned v ∧ Qrm10 Z a0 p1 ka z vs cd h0 n0 v U'.heap L ∧ FrameEnd U o U' L ({ frames := 0, cells := 0, slots := 0, locals := 0 } : Room).cells ({ frames := 0, cells := 0, slots := 0, locals := 0 } : Room).slots) := by
  refine MetFree.of_bodySF (plainFor_of_name pn_60) hisR ?_
  intro p e s m args below meth c s₁ Bd hml0 hP hK
  obtain ⟨rfl, hZ, hh⟩ := hP
  have hx := Bd.exec
  have hby := Bd.bytes
  have hml : c.maxLocals = 2 := hml0
  have hown : s.vm.findClass "java/lang/StringUTF16" = some m.cls := findClass_of_methodNamed Bd.named
  have hnm := (name_of_methodNamed Bd.named Bd.method).1
  have X0 : Stand p l e ({ frames := 0, cells := 0, slots := 0, locals := 0 } : Room) s m #[(.ref a0), (.int p1)] below meth c s₁ [] 0 0 := Stand.of_body Bd
  have e0 : s₁.heap = h0 := by rw [← hh, Bd.state]; rfl
  have N0 := Fr.nil n0
  have hlk := Bd.notSynchronized
  show OwnGo p.tables e below _ (s₁.setTop (entryFrame m #[(.ref a0), (.int p1)] 2))
  rw [ef_rm10 m a0 p1]
  show OwnGo p.tables e below _ (s₁.setTop (mkF m 0 #[.val (.ref a0), .val (.int p1)] []))
  refine OwnGo.of (B := s₁.setTop (mkF m 2 #[.val (.ref a0), .val (.int p1)] [(.ref a0), (.int p1)])) (fun t k => ?_) ?_
  · show Steps p.tables e below (s₁.setTop (mkF m 0 #[.val (.ref a0), .val (.int p1)] [])) t
    refine XS.iloadN X0.here hx rfl (hb hby d10_0) rfl ?_
    refine XS.aloadN X0.here hx rfl (hb hby d10_1) rfl rfl ?_
    exact k
  have cq1 := V_a
  obtain ⟨clq1, Arq1, qq1, Sq1, Nq1, Hq1, Gq1⟩ := cq1
  refine OwnGo.of (X0.arraylength hx (by rw [e0]; exact Arq1.1) (State.isArrayOf_alike hZ.alike Arq1.2.1) (g := (mkF m 2 #[.val (.ref a0), .val (.int p1)] [(.ref a0), (.int p1)])) rfl rfl (hb hby d10_2)) ?_
  rw [len_of Sq1 Nq1]
  show OwnGo p.tables e below _ (s₁.setTop (mkF m 3 #[.val (.ref a0), .val (.int p1)] [(.int z), (.int p1)]))
  refine OwnGo.of (B := s₁.setTop (mkF m 8 #[.val (.ref a0), .val (.int p1)] [(.int ((((p1 - z).toUInt32 >>> ((31 : Int32) &&& 31).toUInt32).toInt32).toInt8.toInt32))])) (fun t k => ?_) ?_
  · show Steps p.tables e below (s₁.setTop (mkF m 3 #[.val (.ref a0), .val (.int p1)] [(.int z), (.int p1)])) t
    refine XS.isub X0.here hx rfl (hb hby d10_3) rfl ?_
    refine XS.bipush X0.here hx rfl (hb hby d10_4) ?_
    refine XS.iushr X0.here hx rfl (hb hby d10_6) rfl ?_
    refine XS.i2b X0.here hx rfl (hb hby d10_7) rfl ?_
    exact k
  obtain ⟨fs, hr, hrun, hended, hW, hsame⟩ := X0.leave (v := some (.int (nar .byte ((((p1 - z).toUInt32 >>> ((31 : Int32) &&& 31).toUInt32).toInt32).toInt8.toInt32)))) (fun h => by rw [Bd.returns] at h; cases h) hlk
  refine ⟨_, _, ?_, hrun, hended, _, _, rfl, ?_, ⟨_, rfl⟩, hW, hsame.mono (by decide) (by decide)⟩
  · show Steps p.tables e below (s₁.setTop (mkF m 8 #[.val (.ref a0), .val (.int p1)] [(.int ((((p1 - z).toUInt32 >>> ((31 : Int32) &&& 31).toUInt32).toInt32).toInt8.toInt32))])) _
    exact retN X0 hx (t := .byte) Bd.returns (by simp) (hb hby d10_8) hr
  · show Qrm10 Z a0 p1 ka z vs cd h0 n0 _ (s₁.setFrames fs).heap _
    rw [show (s₁.setFrames fs).heap = h0 from e0]
    exact ⟨congrArg (fun z => some (Value.int z)) hcd, N0, rfl⟩
theorem w122 {Z aw} (hw : OwnHW aw Z) : Cond.before (Jvm.Cond.constant "java/lang/StringUTF16" (20 : Nat) (1073741823 : Int32)) aw Z = true := hw _ (List.mem_of_getElem? (i := 122) rfl)
theorem d28_0 : decode jdk_52_method_3_code 0 = .ok (.iload_n 0, 1) := by decide +kernel
theorem d28_1 : decode jdk_52_method_3_code 1 = .ok (.ifCond .ge 11, 3) := by decide +kernel
theorem d28_12 : decode jdk_52_method_3_code 12 = .ok (.iload_n 0, 1) := by decide +kernel
theorem d28_13 : decode jdk_52_method_3_code 13 = .ok (.ldc 20, 2) := by decide +kernel
theorem d28_15 : decode jdk_52_method_3_code 15 = .ok (.if_icmp .lt 40, 3) := by decide +kernel
theorem d28_55 : decode jdk_52_method_3_code 55 = .ok (.iload_n 0, 1) := by decide +kernel
theorem d28_56 : decode jdk_52_method_3_code 56 = .ok (.iconst 1, 1) := by decide +kernel
theorem d28_57 : decode jdk_52_method_3_code 57 = .ok (.ishl, 1) := by decide +kernel
theorem d28_58 : decode jdk_52_method_3_code 58 = .ok (.ireturn, 1) := by decide +kernel
theorem ef_rm28_1 (m : MethodId)  : entryFrame m #[(.int (1 : Int32))] 1 = mkF m 0 #[.val (.int (1 : Int32))] [] := by first | (simp [entryFrame, mkF, argsToLocals, Value.category]; done) | rfl
def Qrm28_1 (Z : State)  (h0 : Heap) (n0 : Nat) (v : Option Value) (h : Heap) (L : List Loc) : Prop := v = some (.int (2 : Int32)) ∧ Fr n0 L ∧ h = h0
set_option maxRecDepth 65536 in
set_option maxHeartbeats 40000000 in
theorem rm28_1 (l : Launch) (Z : State) (aw : Array Value) (hw : ∀ d ∈ tables_1, d.before aw Z = true) (ws : List Jvm.Cond)  (h0 : Heap) (n0 : Nat) (Z0 : n0 ≤ h0.size) :
    MetFree l (⟨"java/lang/StringUTF16", "newBytesLength", "(I)I"⟩ : MethodName) (head1 (Jvm.Cond.code (⟨"java/lang/StringUTF16", "newBytesLength", "(I)I"⟩ : MethodName) jdk_52_method_3_code 1 (some .int) :: ws) ({ frames := 0, cells := 0, slots := 0, locals := 0 } : Room)) (fun a U => a = #[(.int (1 : Int32))] ∧ Z.Warmed39 U.vm ∧ U.heap = h0) (fun _ _ _ _ _ => True) (fun _ U o U' => ∃ v L, o = .returned v ∧ Qrm28_1 Z  h0 n0 v U'.heap L ∧ FrameEnd U o U' L ({ frames := 0, cells := 0, slots := 0, locals := 0 } : Room).cells ({ frames := 0, cells := 0, slots := 0, locals := 0 } : Room).slots) := by
  refine MetFree.of_bodySF (plainFor_of_name pn_60) hisR ?_
  intro p e s m args below meth c s₁ Bd hml0 hP hK
  obtain ⟨rfl, hZ, hh⟩ := hP
  have hx := Bd.exec
  have hby := Bd.bytes
  have hml : c.maxLocals = 1 := hml0
  have hown : s.vm.findClass "java/lang/StringUTF16" = some m.cls := findClass_of_methodNamed Bd.named
  have hnm := (name_of_methodNamed Bd.named Bd.method).1
  have X0 : Stand p l e ({ frames := 0, cells := 0, slots := 0, locals := 0 } : Room) s m #[(.int (1 : Int32))] below meth c s₁ [] 0 0 := Stand.of_body Bd
  have e0 : s₁.heap = h0 := by rw [← hh, Bd.state]; rfl
  have N0 := Fr.nil n0
  have hlk := Bd.notSynchronized
  show OwnGo p.tables e below _ (s₁.setTop (entryFrame m #[(.int (1 : Int32))] 1))
  rw [ef_rm28_1 m ]
  show OwnGo p.tables e below _ (s₁.setTop (mkF m 0 #[.val (.int (1 : Int32))] []))
  refine OwnGo.of (B := s₁.setTop (mkF m 1 #[.val (.int (1 : Int32))] [(.int (1 : Int32))])) (fun t k => ?_) ?_
  · show Steps p.tables e below (s₁.setTop (mkF m 0 #[.val (.int (1 : Int32))] [])) t
    refine XS.iloadN X0.here hx rfl (hb hby d28_0) rfl ?_
    exact k
  have hc1 : ¬ ((1 : Int32) < (0 : Int32)) := by decide
  refine OwnGo.of (B := s₁.setTop (mkF m 15 #[.val (.int (1 : Int32))] [(.int (1073741823 : Int32)), (.int (1 : Int32))])) (fun t k => ?_) ?_
  · show Steps p.tables e below (s₁.setTop (mkF m 1 #[.val (.int (1 : Int32))] [(.int (1 : Int32))])) t
    refine XS.ifYes X0.here hx rfl (pc0 := 1) (pc' := 12) rfl (hb hby d28_1) rfl ((if0 _ _).trans (flt hc1).2.1) (by decide) (by decide) ?_
    refine XS.iloadN X0.here hx rfl (hb hby d28_12) rfl ?_
    refine X0.ldcInt hx hown (mvT hZ (w122 hw)) (g := (mkF m 13 #[.val (.int (1 : Int32))] [(.int (1 : Int32))])) rfl (hb hby d28_13) _ ?_
    exact k
  have hc2 : (1 : Int32) < (1073741823 : Int32) := by decide
  refine OwnGo.of (B := s₁.setTop (mkF m 58 #[.val (.int (1 : Int32))] [(.int (2 : Int32))])) (fun t k => ?_) ?_
  · show Steps p.tables e below (s₁.setTop (mkF m 15 #[.val (.int (1 : Int32))] [(.int (1073741823 : Int32)), (.int (1 : Int32))])) t
    refine XS.icmpYes X0.here hx rfl (pc0 := 15) (pc' := 55) rfl (hb hby d28_15) rfl (tlt hc2).1 (by decide) (by decide) ?_
    refine XS.iloadN X0.here hx rfl (hb hby d28_55) rfl ?_
    refine XS.iconst X0.here hx rfl (hb hby d28_56) ?_
    refine XS.ishl X0.here hx rfl (hb hby d28_57) rfl ?_
    exact k
  obtain ⟨fs, hr, hrun, hended, hW, hsame⟩ := X0.leave (v := some (.int (2 : Int32))) (fun h => by rw [Bd.returns] at h; cases h) hlk
  refine ⟨_, _, ?_, hrun, hended, _, _, rfl, ?_, ⟨_, rfl⟩, hW, hsame.mono (by decide) (by decide)⟩
  · show Steps p.tables e below (s₁.setTop (mkF m 58 #[.val (.int (1 : Int32))] [(.int (2 : Int32))])) _
    exact own_retI X0 hx Bd.returns (hb hby d28_58) hr
  · show Qrm28_1 Z  h0 n0 _ (s₁.setFrames fs).heap _
    rw [show (s₁.setFrames fs).heap = h0 from e0]
    exact ⟨rfl, N0, rfl⟩
theorem w119 {Z aw} (hw : OwnHW aw Z) : Cond.before (Jvm.Cond.methodLink "java/lang/StringUTF16" (11 : Nat) ({ cls := "java/lang/StringUTF16", name := "newBytesLength", desc := "(I)I" } : Jvm.MethodName)) aw Z = true := hw _ (List.mem_of_getElem? (i := 119) rfl)
theorem w121 {Z aw} (hw : OwnHW aw Z) : Cond.before (Jvm.Cond.code ({ cls := "java/lang/StringUTF16", name := "newBytesLength", desc := "(I)I" } : Jvm.MethodName) jdk_52_method_3_code (1 : Nat) (Option.some Jvm.ClassFile.FieldType.int)) aw Z = true := hw _ (List.mem_of_getElem? (i := 121) rfl)
theorem pd_87 : parseMethodDescriptor "(I)I" = some ⟨[.int], some .int⟩ := by decide +kernel
theorem w120 {Z aw} (hw : OwnHW aw Z) : Cond.before (Jvm.Cond.static ({ cls := "java/lang/StringUTF16", name := "newBytesLength", desc := "(I)I" } : Jvm.MethodName)) aw Z = true := hw _ (List.mem_of_getElem? (i := 120) rfl)
theorem w20 {Z aw} (hw : OwnHW aw Z) : Cond.before (Jvm.Cond.arrayClass Jvm.ClassFile.FieldType.byte) aw Z = true := hw _ (List.mem_of_getElem? (i := 20) rfl)
theorem d27_0 : decode jdk_52_method_2_code 0 = .ok (.iload_n 0, 1) := by decide +kernel
theorem d27_1 : decode jdk_52_method_2_code 1 = .ok (.invokestatic 11, 3) := by decide +kernel
theorem d27_4 : decode jdk_52_method_2_code 4 = .ok (.newarray .byte, 2) := by decide +kernel
theorem d27_6 : decode jdk_52_method_2_code 6 = .ok (.areturn, 1) := by decide +kernel
theorem ef_rm27_1 (m : MethodId)  : entryFrame m #[(.int (1 : Int32))] 1 = mkF m 0 #[.val (.int (1 : Int32))] [] := by first | (simp [entryFrame, mkF, argsToLocals, Value.category]; done) | rfl
def Qrm27_1 (Z : State)  (h0 : Heap) (n0 : Nat) (v : Option Value) (h : Heap) (L : List Loc) : Prop := Fr n0 L ∧ Keep h0 h [] ∧ ∃ (y : Addr) (k : ClassId), v = some (.ref y) ∧ Arv Z h y k .byte (2 : Int32) [(.int (0 : Int32)), (.int (0 : Int32))] (.int (0 : Int32)) ∧ h0.size ≤ y
set_option maxRecDepth 65536 in
set_option maxHeartbeats 40000000 in
theorem rm27_1 (l : Launch) (Z : State) (aw : Array Value) (hw : ∀ d ∈ tables_1, d.before aw Z = true) (ws : List Jvm.Cond)  (h0 : Heap) (n0 : Nat) (Z0 : n0 ≤ h0.size) :
    MetFree l (⟨"java/lang/StringUTF16", "newBytesFor", "(I)[B"⟩ : MethodName) (head1 (Jvm.Cond.code (⟨"java/lang/StringUTF16", "newBytesFor", "(I)[B"⟩ : MethodName) jdk_52_method_2_code 1 (some (.array .byte)) :: ws) ({ frames := 1, cells := 1, slots := 2, locals := 12 } : Room)) (fun a U => a = #[(.int (1 : Int32))] ∧ Z.Warmed39 U.vm ∧ U.heap = h0) (fun _ _ _ _ _ => True) (fun _ U o U' => ∃ v L, o = .returned v ∧ Qrm27_1 Z  h0 n0 v U'.heap L ∧ FrameEnd U o U' L ({ frames := 1, cells := 1, slots := 2, locals := 12 } : Room).cells ({ frames := 1, cells := 1, slots := 2, locals := 12 } : Room).slots) := by
  refine MetFree.of_bodySF (plainFor_of_name pn_60) hisR ?_
  intro p e s m args below meth c s₁ Bd hml0 hP hK
  obtain ⟨rfl, hZ, hh⟩ := hP
  have hx := Bd.exec
  have hby := Bd.bytes
  have hml : c.maxLocals = 1 := hml0
  have hown : s.vm.findClass "java/lang/StringUTF16" = some m.cls := findClass_of_methodNamed Bd.named
  have hnm := (name_of_methodNamed Bd.named Bd.method).1
  have X0 : Stand p l e ({ frames := 1, cells := 1, slots := 2, locals := 12 } : Room) s m #[(.int (1 : Int32))] below meth c s₁ [] 0 0 := Stand.of_body Bd
  have e0 : s₁.heap = h0 := by rw [← hh, Bd.state]; rfl
  have N0 := Fr.nil n0
  have hlk := Bd.notSynchronized
  show OwnGo p.tables e below _ (s₁.setTop (entryFrame m #[(.int (1 : Int32))] 1))
  rw [ef_rm27_1 m ]
  have K0 : Keep h0 h0 [] := Keep.refl _ _
  show OwnGo p.tables e below _ (s₁.setTop (mkF m 0 #[.val (.int (1 : Int32))] []))
  refine OwnGo.of (B := s₁.setTop (mkF m 1 #[.val (.int (1 : Int32))] [(.int (1 : Int32))])) (fun t k => ?_) ?_
  · show Steps p.tables e below (s₁.setTop (mkF m 0 #[.val (.int (1 : Int32))] [])) t
    refine XS.iloadN X0.here hx rfl (hb hby d27_0) rfl ?_
    exact k
  obtain ⟨T1, L1, v1, X1, hQ1, st1⟩ := own_callS X0 hx (y := (⟨"java/lang/StringUTF16", "newBytesLength", "(I)I"⟩ : MethodName)) hown (mvT hZ (w119 hw)) (mvT hZ (w120 hw)) (mvT hZ (w42 hw)) (mvT hZ (w121 hw)) (by decide) (backOf (W := 0) (rm28_1 l Z aw hw []   h0 n0 Z0 ) hZ (w121 hw) (w42 hw) (by decide) (by decide)) (g := (mkF m 1 #[.val (.int (1 : Int32))] [(.int (1 : Int32))])) rfl (by rw [hml]; rfl) (argsL := [(.int (1 : Int32))]) (rest := []) (lenOf pd_87 rfl) rfl (by show 2 * 0 + _ ≤ _; exact Nat.le_of_eq rfl) (hb hby d27_1) rfl e0 (by decide) (by decide)
  obtain ⟨rfl, N1q, eq1⟩ := hQ1
  have N1 := Fr.app N0 N1q
  refine OwnGo.of st1 ?_
  show OwnGo p.tables e below _ (T1.setTop (mkF m 4 #[.val (.int (1 : Int32))] [(.int (2 : Int32))]))
  obtain ⟨T2, h2, kq2, X2, e2, E2, A2, st2⟩ := newP (aty := .byte) X1 hx hZ (w20 hw) eq1 (g := (mkF m 4 #[.val (.int (1 : Int32))] [(.int (2 : Int32))])) rfl (hb hby d27_4) rfl (by decide) (cap := 2) (by decide) (by decide) (by decide) (by decide)
  obtain ⟨b2, g2⟩ : ∃ z, z = h0.size := ⟨_, rfl⟩
  rw [← g2] at A2 st2
  refine OwnGo.of st2 ?_
  have g_b2 : n0 ≤ b2 := Nat.le_trans Z0 (Nat.le_of_eq g2.symm)
  have sz_b2 : h0.size ≤ b2 := Nat.le_trans K0.1 (Nat.le_of_eq g2.symm)
  have f3 := Nat.le_trans Z0 E2.1
  have f4 := K0.ext E2
  have f5 : Arv Z h2 b2 kq2 .byte (2 : Int32) [(.int (0 : Int32)), (.int (0 : Int32))] (.int (0 : Int32)) := (Arv.new A2 (by decide)).pad (pad_rep [] (.int (0 : Int32)) 2)
  show OwnGo p.tables e below _ (T2.setTop (mkF m 6 #[.val (.int (1 : Int32))] [(.ref b2)]))
  obtain ⟨fs, hr, hrun, hended, hW, hsame⟩ := X2.leave (v := some (.ref b2)) (fun h => by rw [Bd.returns] at h; cases h) hlk
  refine ⟨_, _, ?_, hrun, hended, _, _, rfl, ?_, ⟨_, rfl⟩, hW, hsame.mono (by decide) (by decide)⟩
  · show Steps p.tables e below (T2.setTop (mkF m 6 #[.val (.int (1 : Int32))] [(.ref b2)])) _
    exact own_retA X2 hx Bd.returns rfl rfl rfl (hb hby d27_6) hr
  · show Qrm27_1 Z  h0 n0 _ (T2.setFrames fs).heap _
    rw [show (T2.setFrames fs).heap = h2 from e2]
    exact ⟨N1, f4, b2, _, rfl, f5, sz_b2⟩
theorem w116 {Z aw} (hw : OwnHW aw Z) : Cond.before (Jvm.Cond.methodLink "java/lang/StringUTF16" (107 : Nat) ({ cls := "java/lang/StringUTF16", name := "newBytesFor", desc := "(I)[B" } : Jvm.MethodName)) aw Z = true := hw _ (List.mem_of_getElem? (i := 116) rfl)
theorem w118 {Z aw} (hw : OwnHW aw Z) : Cond.before (Jvm.Cond.code ({ cls := "java/lang/StringUTF16", name := "newBytesFor", desc := "(I)[B" } : Jvm.MethodName) jdk_52_method_2_code (1 : Nat) (Option.some (Jvm.ClassFile.FieldType.array Jvm.ClassFile.FieldType.byte))) aw Z = true := hw _ (List.mem_of_getElem? (i := 118) rfl)
theorem pd_92 : parseMethodDescriptor "(I)[B" = some ⟨[.int], some (.array .byte)⟩ := by decide +kernel
theorem w117 {Z aw} (hw : OwnHW aw Z) : Cond.before (Jvm.Cond.static ({ cls := "java/lang/StringUTF16", name := "newBytesFor", desc := "(I)[B" } : Jvm.MethodName)) aw Z = true := hw _ (List.mem_of_getElem? (i := 117) rfl)
theorem w123 {Z aw} (hw : OwnHW aw Z) : Cond.before (Jvm.Cond.methodLink "java/lang/StringUTF16" (111 : Nat) ({ cls := "java/lang/StringUTF16", name := "putChar", desc := "([BII)V" } : Jvm.MethodName)) aw Z = true := hw _ (List.mem_of_getElem? (i := 123) rfl)
theorem w125 {Z aw} (hw : OwnHW aw Z) : Cond.before (Jvm.Cond.code ({ cls := "java/lang/StringUTF16", name := "putChar", desc := "([BII)V" } : Jvm.MethodName) jdk_52_method_4_code (3 : Nat) (Option.none : Option Jvm.ClassFile.FieldType)) aw Z = true := hw _ (List.mem_of_getElem? (i := 125) rfl)
theorem pd_96 : parseMethodDescriptor "([BII)V" = some ⟨[(.array .byte), .int, .int], none⟩ := by decide +kernel
theorem w124 {Z aw} (hw : OwnHW aw Z) : Cond.before (Jvm.Cond.static ({ cls := "java/lang/StringUTF16", name := "putChar", desc := "([BII)V" } : Jvm.MethodName)) aw Z = true := hw _ (List.mem_of_getElem? (i := 124) rfl)
theorem d26_0 : decode jdk_52_method_14_code 0 = .ok (.iload_n 2, 1) := by decide +kernel
theorem d26_1 : decode jdk_52_method_14_code 1 = .ok (.invokestatic 107, 3) := by decide +kernel
theorem d26_4 : decode jdk_52_method_14_code 4 = .ok (.astore_n 3, 1) := by decide +kernel
theorem d26_5 : decode jdk_52_method_14_code 5 = .ok (.iconst 0, 1) := by decide +kernel
theorem d26_6 : decode jdk_52_method_14_code 6 = .ok (.istore 4, 2) := by decide +kernel
theorem d26_8 : decode jdk_52_method_14_code 8 = .ok (.iload 4, 2) := by decide +kernel
theorem d26_10 : decode jdk_52_method_14_code 10 = .ok (.iload_n 2, 1) := by decide +kernel
theorem d26_11 : decode jdk_52_method_14_code 11 = .ok (.if_icmp .ge 21, 3) := by decide +kernel
theorem d26_14 : decode jdk_52_method_14_code 14 = .ok (.aload_n 3, 1) := by decide +kernel
theorem d26_15 : decode jdk_52_method_14_code 15 = .ok (.iload 4, 2) := by decide +kernel
theorem d26_17 : decode jdk_52_method_14_code 17 = .ok (.aload_n 0, 1) := by decide +kernel
theorem d26_18 : decode jdk_52_method_14_code 18 = .ok (.iload_n 1, 1) := by decide +kernel
theorem d26_19 : decode jdk_52_method_14_code 19 = .ok (.caload, 1) := by decide +kernel
theorem d26_20 : decode jdk_52_method_14_code 20 = .ok (.invokestatic 111, 3) := by decide +kernel
theorem d26_23 : decode jdk_52_method_14_code 23 = .ok (.iinc 1 1, 3) := by decide +kernel
theorem d26_26 : decode jdk_52_method_14_code 26 = .ok (.iinc 4 1, 3) := by decide +kernel
theorem d26_29 : decode jdk_52_method_14_code 29 = .ok (.goto (-21), 3) := by decide +kernel
theorem d26_32 : decode jdk_52_method_14_code 32 = .ok (.aload_n 3, 1) := by decide +kernel
theorem d26_33 : decode jdk_52_method_14_code 33 = .ok (.areturn, 1) := by decide +kernel
theorem ef_rm26_1 (m : MethodId) (a0 : Addr) : entryFrame m #[(.ref a0), (.int (0 : Int32)), (.int (1 : Int32))] 5 = mkF m 0 #[.val (.ref a0), .val (.int (0 : Int32)), .val (.int (1 : Int32)), .unset, .unset] [] := by first | (simp [entryFrame, mkF, argsToLocals, Value.category]; done) | rfl
def Qrm26_1 (Z : State) (a0 : Addr) (k0 : Int32) (kc : ClassId) (h0 : Heap) (n0 : Nat) (v : Option Value) (h : Heap) (L : List Loc) : Prop := Fr n0 L ∧ Keep h0 h [] ∧ ∃ (y : Addr) (k : ClassId), v = some (.ref y) ∧ Arv Z h y k .byte (2 : Int32) (StrChars.Road.wideBytes ([k0] : List Int32)) (.int (0 : Int32)) ∧ h0.size ≤ y
set_option maxRecDepth 65536 in
set_option maxHeartbeats 40000000 in
theorem rm26_1 (l : Launch) (Z : State) (aw : Array Value) (hw : ∀ d ∈ tables_1, d.before aw Z = true) (ws : List Jvm.Cond) (a0 : Addr) (k0 : Int32) (kc : ClassId) (h0 : Heap) (n0 : Nat) (Z0 : n0 ≤ h0.size) (V_a : Arv Z h0 a0 kc .char (1 : Int32) [(.int k0)] (.int (0 : Int32))) (S__assertionsDisabled : Sta Z h0 "java/lang/StringUTF16" "$assertionsDisabled" "Z" (.int (1 : Int32))) (S_HI_BYTE_SHIFT : Sta Z h0 "java/lang/StringUTF16" "HI_BYTE_SHIFT" "I" (.int (0 : Int32))) (S_LO_BYTE_SHIFT : Sta Z h0 "java/lang/StringUTF16" "LO_BYTE_SHIFT" "I" (.int (8 : Int32))) :
    MetFree l (⟨"java/lang/StringUTF16", "toBytes", "([CII)[B"⟩ : MethodName) (head1 (Jvm.Cond.code (⟨"java/lang/StringUTF16", "toBytes", "([CII)[B"⟩ : MethodName) jdk_52_method_14_code 5 (some (.array .byte)) :: ws) ({ frames := 2, cells := 1, slots := 2, locals := 24 } : Room)) (fun a U => a = #[(.ref a0), (.int (0 : Int32)), (.int (1 : Int32))] ∧ Z.Warmed39 U.vm ∧ U.heap = h0) (fun _ _ _ _ _ => True) (fun _ U o U' => ∃ v L, o = .returned v ∧ Qrm26_1 Z a0 k0 kc h0 n0 v U'.heap L ∧ FrameEnd U o U' L ({ frames := 2, cells := 1, slots := 2, locals := 24 } : Room).cells ({ frames := 2, cells := 1, slots := 2, locals := 24 } : Room).slots) := by
  refine MetFree.of_bodySF (plainFor_of_name pn_60) hisR ?_
  intro p e s m args below meth c s₁ Bd hml0 hP hK
  obtain ⟨rfl, hZ, hh⟩ := hP
  have hx := Bd.exec
  have hby := Bd.bytes
  have hml : c.maxLocals = 5 := hml0
  have hown : s.vm.findClass "java/lang/StringUTF16" = some m.cls := findClass_of_methodNamed Bd.named
  have hnm := (name_of_methodNamed Bd.named Bd.method).1
  have X0 : Stand p l e ({ frames := 2, cells := 1, slots := 2, locals := 24 } : Room) s m #[(.ref a0), (.int (0 : Int32)), (.int (1 : Int32))] below meth c s₁ [] 0 0 := Stand.of_body Bd
  have e0 : s₁.heap = h0 := by rw [← hh, Bd.state]; rfl
  have N0 := Fr.nil n0
  have hlk := Bd.notSynchronized
  show OwnGo p.tables e below _ (s₁.setTop (entryFrame m #[(.ref a0), (.int (0 : Int32)), (.int (1 : Int32))] 5))
  rw [ef_rm26_1 m a0]
  have K0 : Keep h0 h0 [] := Keep.refl _ _
  show OwnGo p.tables e below _ (s₁.setTop (mkF m 0 #[.val (.ref a0), .val (.int (0 : Int32)), .val (.int (1 : Int32)), .unset, .unset] []))
  refine OwnGo.of (B := s₁.setTop (mkF m 1 #[.val (.ref a0), .val (.int (0 : Int32)), .val (.int (1 : Int32)), .unset, .unset] [(.int (1 : Int32))])) (fun t k => ?_) ?_
  · show Steps p.tables e below (s₁.setTop (mkF m 0 #[.val (.ref a0), .val (.int (0 : Int32)), .val (.int (1 : Int32)), .unset, .unset] [])) t
    refine XS.iloadN X0.here hx rfl (hb hby d26_0) rfl ?_
    exact k
  obtain ⟨T1, L1, v1, X1, hQ1, st1⟩ := own_callS X0 hx (y := (⟨"java/lang/StringUTF16", "newBytesFor", "(I)[B"⟩ : MethodName)) hown (mvT hZ (w116 hw)) (mvT hZ (w117 hw)) (mvT hZ (w42 hw)) (mvT hZ (w118 hw)) (by decide) (backOf (W := 0) (rm27_1 l Z aw hw []   h0 n0 Z0 ) hZ (w118 hw) (w42 hw) (by decide) (by decide)) (g := (mkF m 1 #[.val (.ref a0), .val (.int (0 : Int32)), .val (.int (1 : Int32)), .unset, .unset] [(.int (1 : Int32))])) rfl (by rw [hml]; rfl) (argsL := [(.int (1 : Int32))]) (rest := []) (lenOf pd_92 rfl) rfl (by show 2 * 0 + _ ≤ _; exact Nat.le_of_eq rfl) (hb hby d26_1) rfl e0 (by decide) (by decide)
  obtain ⟨N1q, K1, y1, kq1, rfl, A1, gy1⟩ := hQ1
  have ne_a0_y1 : a0 ≠ y1 := Nat.ne_of_lt (Nat.lt_of_lt_of_le V_a.lt gy1)
  have g_y1 : n0 ≤ y1 := Nat.le_trans Z0 gy1
  have sz_y1 : h0.size ≤ y1 := Nat.le_trans K0.1 gy1
  have f2 := Nat.le_trans Z0 K1.1
  have f3 := K0.trans K1 all0
  have f4 := own_sta_keep S__assertionsDisabled K1 all0
  have f5 := own_sta_keep S_HI_BYTE_SHIFT K1 all0
  have f6 := own_sta_keep S_LO_BYTE_SHIFT K1 all0
  have f7 := V_a.keep K1 nin0
  have f8 : Arv Z T1.heap y1 kq1 .byte (2 : Int32) [(.int (0 : Int32)), (.int (0 : Int32))] (.int (0 : Int32)) := A1
  have N1 := Fr.app N0 N1q
  refine OwnGo.of st1 ?_
  show OwnGo p.tables e below _ (T1.setTop (mkF m 4 #[.val (.ref a0), .val (.int (0 : Int32)), .val (.int (1 : Int32)), .unset, .unset] [(.ref y1)]))
  refine OwnGo.of (B := T1.setTop (mkF m 11 #[.val (.ref a0), .val (.int (0 : Int32)), .val (.int (1 : Int32)), .val (.ref y1), .val (.int (0 : Int32))] [(.int (1 : Int32)), (.int (0 : Int32))])) (fun t k => ?_) ?_
  · show Steps p.tables e below (T1.setTop (mkF m 4 #[.val (.ref a0), .val (.int (0 : Int32)), .val (.int (1 : Int32)), .unset, .unset] [(.ref y1)])) t
    refine XS.astoreN X1.here hx rfl (hb hby d26_4) rfl rfl (l' := #[.val (.ref a0), .val (.int (0 : Int32)), .val (.int (1 : Int32)), .val (.ref y1), .unset]) rfl ?_
    refine XS.iconst X1.here hx rfl (hb hby d26_5) ?_
    refine XS.istore X1.here hx rfl (hb hby d26_6) rfl (l' := #[.val (.ref a0), .val (.int (0 : Int32)), .val (.int (1 : Int32)), .val (.ref y1), .val (.int (0 : Int32))]) rfl ?_
    refine XS.iload X1.here hx rfl (hb hby d26_8) rfl ?_
    refine XS.iloadN X1.here hx rfl (hb hby d26_10) rfl ?_
    exact k
  have hc9 : (0 : Int32) < (1 : Int32) := by decide
  refine OwnGo.of (B := T1.setTop (mkF m 19 #[.val (.ref a0), .val (.int (0 : Int32)), .val (.int (1 : Int32)), .val (.ref y1), .val (.int (0 : Int32))] [(.int (0 : Int32)), (.ref a0), (.int (0 : Int32)), (.ref y1)])) (fun t k => ?_) ?_
  · show Steps p.tables e below (T1.setTop (mkF m 11 #[.val (.ref a0), .val (.int (0 : Int32)), .val (.int (1 : Int32)), .val (.ref y1), .val (.int (0 : Int32))] [(.int (1 : Int32)), (.int (0 : Int32))])) t
    refine XS.icmpNo X1.here hx rfl (hb hby d26_11) rfl (tlt hc9).2.1 ?_
    refine XS.aloadN X1.here hx rfl (hb hby d26_14) rfl rfl ?_
    refine XS.iload X1.here hx rfl (hb hby d26_15) rfl ?_
    refine XS.aloadN X1.here hx rfl (hb hby d26_17) rfl rfl ?_
    refine XS.iloadN X1.here hx rfl (hb hby d26_18) rfl ?_
    exact k
  have cq10 := f7
  obtain ⟨clq10, Arq10, qq10, Sq10, Nq10, Hq10, Gq10⟩ := cq10
  have hinq10 := inb_of (j := (0 : Int32)) Sq10 ⟨by decide, by decide⟩
  refine OwnGo.of (X1.caload hx (j := (0 : Int32)) (v := (.int k0)) Arq10.1 (State.isArrayOf_alike hZ.alike Arq10.2.1) Arq10.2.2 hinq10 (Hq10.at hinq10 rfl) (g := (mkF m 19 #[.val (.ref a0), .val (.int (0 : Int32)), .val (.int (1 : Int32)), .val (.ref y1), .val (.int (0 : Int32))] [(.int (0 : Int32)), (.ref a0), (.int (0 : Int32)), (.ref y1)])) rfl rfl (hb hby d26_19)) ?_
  show OwnGo p.tables e below _ (T1.setTop (mkF m 20 #[.val (.ref a0), .val (.int (0 : Int32)), .val (.int (1 : Int32)), .val (.ref y1), .val (.int (0 : Int32))] [(.int k0), (.int (0 : Int32)), (.ref y1)]))
  obtain ⟨T11, L11, v11, X11, hQ11, st11⟩ := own_callS X1 hx (y := (⟨"java/lang/StringUTF16", "putChar", "([BII)V"⟩ : MethodName)) hown (mvT hZ (w123 hw)) (mvT hZ (w124 hw)) (mvT hZ (w42 hw)) (mvT hZ (w125 hw)) (by decide) (backOf (W := 0) (rm29_0 l Z aw hw [] y1 k0 kq1 (2 : Int32) ([(.int (0 : Int32)), (.int (0 : Int32))] : List Value) T1.heap n0 f2 f8 g_y1 f4 f5 f6 (by decide) (by decide) (Nat.le_of_ble_eq_true rfl) (Nat.le_of_ble_eq_true rfl)) hZ (w125 hw) (w42 hw) (by decide) (by decide)) (g := (mkF m 20 #[.val (.ref a0), .val (.int (0 : Int32)), .val (.int (1 : Int32)), .val (.ref y1), .val (.int (0 : Int32))] [(.int k0), (.int (0 : Int32)), (.ref y1)])) rfl (by rw [hml]; rfl) (argsL := [(.ref y1), (.int (0 : Int32)), (.int k0)]) (rest := []) (lenOf pd_96 rfl) rfl (by show 2 * 0 + _ ≤ _; exact Nat.le_of_eq rfl) (hb hby d26_20) rfl rfl (by decide) (by decide)
  obtain ⟨rfl, N11q, K11, y11_0⟩ := hQ11
  have f12 := Nat.le_trans f2 K11.1
  have f13 := f3.trans K11 (allS (Or.inr sz_y1) all0)
  have f14 := own_sta_keep f4 K11 (allS (own_ns_arv f8) all0)
  have f15 := own_sta_keep f5 K11 (allS (own_ns_arv f8) all0)
  have f16 := own_sta_keep f6 K11 (allS (own_ns_arv f8) all0)
  have f17 := f7.keep K11 (ninS ne_a0_y1 nin0)
  have f18 : Arv Z T11.heap y1 kq1 .byte (2 : Int32) [(.int (StrChars.lo8 k0)), (.int (StrChars.hi8 k0))] (.int (0 : Int32)) := y11_0
  have N11 := Fr.app N1 N11q
  refine OwnGo.of st11 ?_
  show OwnGo p.tables e below _ (T11.setTop (mkF m 23 #[.val (.ref a0), .val (.int (0 : Int32)), .val (.int (1 : Int32)), .val (.ref y1), .val (.int (0 : Int32))] []))
  refine OwnGo.of (B := T11.setTop (mkF m 11 #[.val (.ref a0), .val (.int (1 : Int32)), .val (.int (1 : Int32)), .val (.ref y1), .val (.int (1 : Int32))] [(.int (1 : Int32)), (.int (1 : Int32))])) (fun t k => ?_) ?_
  · show Steps p.tables e below (T11.setTop (mkF m 23 #[.val (.ref a0), .val (.int (0 : Int32)), .val (.int (1 : Int32)), .val (.ref y1), .val (.int (0 : Int32))] [])) t
    refine XS.iinc X11.here hx rfl (hb hby d26_23) rfl (l' := #[.val (.ref a0), .val (.int (1 : Int32)), .val (.int (1 : Int32)), .val (.ref y1), .val (.int (0 : Int32))]) rfl ?_
    refine XS.iinc X11.here hx rfl (hb hby d26_26) rfl (l' := #[.val (.ref a0), .val (.int (1 : Int32)), .val (.int (1 : Int32)), .val (.ref y1), .val (.int (1 : Int32))]) rfl ?_
    refine XS.goto X11.here hx rfl (pc0 := 29) (pc' := 8) rfl (hb hby d26_29) (by decide) (by decide) ?_
    refine XS.iload X11.here hx rfl (hb hby d26_8) rfl ?_
    refine XS.iloadN X11.here hx rfl (hb hby d26_10) rfl ?_
    exact k
  have hc19 : ¬ ((1 : Int32) < (1 : Int32)) := by decide
  refine OwnGo.of (B := T11.setTop (mkF m 33 #[.val (.ref a0), .val (.int (1 : Int32)), .val (.int (1 : Int32)), .val (.ref y1), .val (.int (1 : Int32))] [(.ref y1)])) (fun t k => ?_) ?_
  · show Steps p.tables e below (T11.setTop (mkF m 11 #[.val (.ref a0), .val (.int (1 : Int32)), .val (.int (1 : Int32)), .val (.ref y1), .val (.int (1 : Int32))] [(.int (1 : Int32)), (.int (1 : Int32))])) t
    refine XS.icmpYes X11.here hx rfl (pc0 := 11) (pc' := 32) rfl (hb hby d26_11) rfl (flt hc19).2.1 (by decide) (by decide) ?_
    refine XS.aloadN X11.here hx rfl (hb hby d26_32) rfl rfl ?_
    exact k
  obtain ⟨fs, hr, hrun, hended, hW, hsame⟩ := X11.leave (v := some (.ref y1)) (fun h => by rw [Bd.returns] at h; cases h) hlk
  refine ⟨_, _, ?_, hrun, hended, _, _, rfl, ?_, ⟨_, rfl⟩, hW, hsame.mono (by decide) (by decide)⟩
  · show Steps p.tables e below (T11.setTop (mkF m 33 #[.val (.ref a0), .val (.int (1 : Int32)), .val (.int (1 : Int32)), .val (.ref y1), .val (.int (1 : Int32))] [(.ref y1)])) _
    exact own_retA X11 hx Bd.returns rfl rfl rfl (hb hby d26_33) hr
  · show Qrm26_1 Z a0 k0 kc h0 n0 _ (T11.setFrames fs).heap _
    rw [show (T11.setFrames fs).heap = T11.heap from rfl]
    exact ⟨N11, f13, y1, _, rfl, f18, sz_y1⟩
theorem d9_0 : decode jdk_52_method_21_code 0 = .ok (.iconst 0, 1) := by decide +kernel
theorem d9_1 : decode jdk_52_method_21_code 1 = .ok (.istore 5, 2) := by decide +kernel
theorem d9_3 : decode jdk_52_method_21_code 3 = .ok (.iload 5, 2) := by decide +kernel
theorem d9_5 : decode jdk_52_method_21_code 5 = .ok (.iload 4, 2) := by decide +kernel
theorem d9_7 : decode jdk_52_method_21_code 7 = .ok (.if_icmp .ge 37, 3) := by decide +kernel
theorem d9_10 : decode jdk_52_method_21_code 10 = .ok (.aload_n 0, 1) := by decide +kernel
theorem d9_11 : decode jdk_52_method_21_code 11 = .ok (.iload_n 1, 1) := by decide +kernel
theorem d9_12 : decode jdk_52_method_21_code 12 = .ok (.caload, 1) := by decide +kernel
theorem d9_13 : decode jdk_52_method_21_code 13 = .ok (.istore 6, 2) := by decide +kernel
theorem d9_15 : decode jdk_52_method_21_code 15 = .ok (.iload 6, 2) := by decide +kernel
theorem d9_17 : decode jdk_52_method_21_code 17 = .ok (.sipush 255, 3) := by decide +kernel
theorem d9_20 : decode jdk_52_method_21_code 20 = .ok (.if_icmp .le 6, 3) := by decide +kernel
theorem d9_23 : decode jdk_52_method_21_code 23 = .ok (.iload 5, 2) := by decide +kernel
theorem d9_25 : decode jdk_52_method_21_code 25 = .ok (.ireturn, 1) := by decide +kernel
theorem d9_26 : decode jdk_52_method_21_code 26 = .ok (.aload_n 2, 1) := by decide +kernel
theorem d9_27 : decode jdk_52_method_21_code 27 = .ok (.iload_n 3, 1) := by decide +kernel
theorem d9_28 : decode jdk_52_method_21_code 28 = .ok (.iload 6, 2) := by decide +kernel
theorem d9_30 : decode jdk_52_method_21_code 30 = .ok (.i2b, 1) := by decide +kernel
theorem d9_31 : decode jdk_52_method_21_code 31 = .ok (.bastore, 1) := by decide +kernel
theorem d9_32 : decode jdk_52_method_21_code 32 = .ok (.iinc 1 1, 3) := by decide +kernel
theorem d9_35 : decode jdk_52_method_21_code 35 = .ok (.iinc 3 1, 3) := by decide +kernel
theorem d9_38 : decode jdk_52_method_21_code 38 = .ok (.iinc 5 1, 3) := by decide +kernel
theorem d9_41 : decode jdk_52_method_21_code 41 = .ok (.goto (-38), 3) := by decide +kernel
theorem d9_44 : decode jdk_52_method_21_code 44 = .ok (.iload 4, 2) := by decide +kernel
theorem d9_46 : decode jdk_52_method_21_code 46 = .ok (.ireturn, 1) := by decide +kernel
theorem ef_rm9_1 (m : MethodId) (a0 : Addr) (a2 : Addr) : entryFrame m #[(.ref a0), (.int (0 : Int32)), (.ref a2), (.int (0 : Int32)), (.int (1 : Int32))] 7 = mkF m 0 #[.val (.ref a0), .val (.int (0 : Int32)), .val (.ref a2), .val (.int (0 : Int32)), .val (.int (1 : Int32)), .unset, .unset] [] := by first | (simp [entryFrame, mkF, argsToLocals, Value.category]; done) | rfl
def Qrm9_1 (Z : State) (a0 : Addr) (a2 : Addr) (k0 : Int32) (kc : ClassId) (kb : ClassId) (h0 : Heap) (n0 : Nat) (v : Option Value) (h : Heap) (L : List Loc) : Prop := Fr n0 L ∧ Keep h0 h [a2] ∧ ((v = some (.int (1 : Int32)) ∧ (∀ c ∈ ([k0] : List Int32), ¬ 255 < c) ∧ Arv Z h a2 kb .byte (1 : Int32) [(.int (StrChars.lo8 k0))] (.int (0 : Int32))) ∨ (∃ iv : Int32, v = some (.int iv) ∧ ((iv = (0 : Int32) ∧ 255 < k0))))
set_option maxRecDepth 65536 in
set_option maxHeartbeats 40000000 in
theorem rm9_1 (l : Launch) (Z : State) (aw : Array Value) (hw : ∀ d ∈ tables_1, d.before aw Z = true) (ws : List Jvm.Cond) (a0 : Addr) (a2 : Addr) (k0 : Int32) (kc : ClassId) (kb : ClassId) (h0 : Heap) (n0 : Nat) (Z0 : n0 ≤ h0.size) (V_a : Arv Z h0 a0 kc .char (1 : Int32) [(.int k0)] (.int (0 : Int32))) (V_b : Arv Z h0 a2 kb .byte (1 : Int32) [(.int (0 : Int32))] (.int (0 : Int32))) (g_a2 : n0 ≤ a2) (hne : a0 ≠ a2) :
    MetFree l (⟨"java/lang/StringUTF16", "compress", "([CI[BII)I"⟩ : MethodName) (head1 (Jvm.Cond.code (⟨"java/lang/StringUTF16", "compress", "([CI[BII)I"⟩ : MethodName) jdk_52_method_21_code 7 (some .int) :: ws) ({ frames := 0, cells := 0, slots := 0, locals := 0 } : Room)) (fun a U => a = #[(.ref a0), (.int (0 : Int32)), (.ref a2), (.int (0 : Int32)), (.int (1 : Int32))] ∧ Z.Warmed39 U.vm ∧ U.heap = h0) (fun _ _ _ _ _ => True) (fun _ U o U' => ∃ v L, o = .returned v ∧ Qrm9_1 Z a0 a2 k0 kc kb h0 n0 v U'.heap L ∧ FrameEnd U o U' L ({ frames := 0, cells := 0, slots := 0, locals := 0 } : Room).cells ({ frames := 0, cells := 0, slots := 0, locals := 0 } : Room).slots) := by
  refine MetFree.of_bodySF (plainFor_of_name pn_60) hisR ?_
  intro p e s m args below meth c s₁ Bd hml0 hP hK
  obtain ⟨rfl, hZ, hh⟩ := hP
  have hx := Bd.exec
  have hby := Bd.bytes
  have hml : c.maxLocals = 7 := hml0
  have hown : s.vm.findClass "java/lang/StringUTF16" = some m.cls := findClass_of_methodNamed Bd.named
  have hnm := (name_of_methodNamed Bd.named Bd.method).1
  have X0 : Stand p l e ({ frames := 0, cells := 0, slots := 0, locals := 0 } : Room) s m #[(.ref a0), (.int (0 : Int32)), (.ref a2), (.int (0 : Int32)), (.int (1 : Int32))] below meth c s₁ [] 0 0 := Stand.of_body Bd
  have e0 : s₁.heap = h0 := by rw [← hh, Bd.state]; rfl
  have N0 := Fr.nil n0
  have hlk := Bd.notSynchronized
  show OwnGo p.tables e below _ (s₁.setTop (entryFrame m #[(.ref a0), (.int (0 : Int32)), (.ref a2), (.int (0 : Int32)), (.int (1 : Int32))] 7))
  rw [ef_rm9_1 m a0 a2]
  have K0 : Keep h0 h0 [a2] := Keep.refl _ _
  have ne1 : a0 ≠ a2 := hne
  show OwnGo p.tables e below _ (s₁.setTop (mkF m 0 #[.val (.ref a0), .val (.int (0 : Int32)), .val (.ref a2), .val (.int (0 : Int32)), .val (.int (1 : Int32)), .unset, .unset] []))
  refine OwnGo.of (B := s₁.setTop (mkF m 7 #[.val (.ref a0), .val (.int (0 : Int32)), .val (.ref a2), .val (.int (0 : Int32)), .val (.int (1 : Int32)), .val (.int (0 : Int32)), .unset] [(.int (1 : Int32)), (.int (0 : Int32))])) (fun t k => ?_) ?_
  · show Steps p.tables e below (s₁.setTop (mkF m 0 #[.val (.ref a0), .val (.int (0 : Int32)), .val (.ref a2), .val (.int (0 : Int32)), .val (.int (1 : Int32)), .unset, .unset] [])) t
    refine XS.iconst X0.here hx rfl (hb hby d9_0) ?_
    refine XS.istore X0.here hx rfl (hb hby d9_1) rfl (l' := #[.val (.ref a0), .val (.int (0 : Int32)), .val (.ref a2), .val (.int (0 : Int32)), .val (.int (1 : Int32)), .val (.int (0 : Int32)), .unset]) rfl ?_
    refine XS.iload X0.here hx rfl (hb hby d9_3) rfl ?_
    refine XS.iload X0.here hx rfl (hb hby d9_5) rfl ?_
    exact k
  have hc1 : (0 : Int32) < (1 : Int32) := by decide
  refine OwnGo.of (B := s₁.setTop (mkF m 12 #[.val (.ref a0), .val (.int (0 : Int32)), .val (.ref a2), .val (.int (0 : Int32)), .val (.int (1 : Int32)), .val (.int (0 : Int32)), .unset] [(.int (0 : Int32)), (.ref a0)])) (fun t k => ?_) ?_
  · show Steps p.tables e below (s₁.setTop (mkF m 7 #[.val (.ref a0), .val (.int (0 : Int32)), .val (.ref a2), .val (.int (0 : Int32)), .val (.int (1 : Int32)), .val (.int (0 : Int32)), .unset] [(.int (1 : Int32)), (.int (0 : Int32))])) t
    refine XS.icmpNo X0.here hx rfl (hb hby d9_7) rfl (tlt hc1).2.1 ?_
    refine XS.aloadN X0.here hx rfl (hb hby d9_10) rfl rfl ?_
    refine XS.iloadN X0.here hx rfl (hb hby d9_11) rfl ?_
    exact k
  have cq2 := V_a
  obtain ⟨clq2, Arq2, qq2, Sq2, Nq2, Hq2, Gq2⟩ := cq2
  have hinq2 := inb_of (j := (0 : Int32)) Sq2 ⟨by decide, by decide⟩
  refine OwnGo.of (X0.caload hx (j := (0 : Int32)) (v := (.int k0)) (by rw [e0]; exact Arq2.1) (State.isArrayOf_alike hZ.alike Arq2.2.1) Arq2.2.2 hinq2 (Hq2.at hinq2 rfl) (g := (mkF m 12 #[.val (.ref a0), .val (.int (0 : Int32)), .val (.ref a2), .val (.int (0 : Int32)), .val (.int (1 : Int32)), .val (.int (0 : Int32)), .unset] [(.int (0 : Int32)), (.ref a0)])) rfl rfl (hb hby d9_12)) ?_
  show OwnGo p.tables e below _ (s₁.setTop (mkF m 13 #[.val (.ref a0), .val (.int (0 : Int32)), .val (.ref a2), .val (.int (0 : Int32)), .val (.int (1 : Int32)), .val (.int (0 : Int32)), .unset] [(.int k0)]))
  refine OwnGo.of (B := s₁.setTop (mkF m 20 #[.val (.ref a0), .val (.int (0 : Int32)), .val (.ref a2), .val (.int (0 : Int32)), .val (.int (1 : Int32)), .val (.int (0 : Int32)), .val (.int k0)] [(.int (255 : Int32)), (.int k0)])) (fun t k => ?_) ?_
  · show Steps p.tables e below (s₁.setTop (mkF m 13 #[.val (.ref a0), .val (.int (0 : Int32)), .val (.ref a2), .val (.int (0 : Int32)), .val (.int (1 : Int32)), .val (.int (0 : Int32)), .unset] [(.int k0)])) t
    refine XS.istore X0.here hx rfl (hb hby d9_13) rfl (l' := #[.val (.ref a0), .val (.int (0 : Int32)), .val (.ref a2), .val (.int (0 : Int32)), .val (.int (1 : Int32)), .val (.int (0 : Int32)), .val (.int k0)]) rfl ?_
    refine XS.iload X0.here hx rfl (hb hby d9_15) rfl ?_
    refine XS.sipush X0.here hx rfl (hb hby d9_17) ?_
    exact k
  by_cases hc3 : (255 : Int32) < k0
  · refine OwnGo.of (B := s₁.setTop (mkF m 25 #[.val (.ref a0), .val (.int (0 : Int32)), .val (.ref a2), .val (.int (0 : Int32)), .val (.int (1 : Int32)), .val (.int (0 : Int32)), .val (.int k0)] [(.int (0 : Int32))])) (fun t k => ?_) ?_
    · show Steps p.tables e below (s₁.setTop (mkF m 20 #[.val (.ref a0), .val (.int (0 : Int32)), .val (.ref a2), .val (.int (0 : Int32)), .val (.int (1 : Int32)), .val (.int (0 : Int32)), .val (.int k0)] [(.int (255 : Int32)), (.int k0)])) t
      refine XS.icmpNo X0.here hx rfl (hb hby d9_20) rfl (tlt hc3).2.2.2 ?_
      refine XS.iload X0.here hx rfl (hb hby d9_23) rfl ?_
      exact k
    obtain ⟨fs, hr, hrun, hended, hW, hsame⟩ := X0.leave (v := some (.int (0 : Int32))) (fun h => by rw [Bd.returns] at h; cases h) hlk
    refine ⟨_, _, ?_, hrun, hended, _, _, rfl, ?_, ⟨_, rfl⟩, hW, hsame.mono (by decide) (by decide)⟩
    · show Steps p.tables e below (s₁.setTop (mkF m 25 #[.val (.ref a0), .val (.int (0 : Int32)), .val (.ref a2), .val (.int (0 : Int32)), .val (.int (1 : Int32)), .val (.int (0 : Int32)), .val (.int k0)] [(.int (0 : Int32))])) _
      exact own_retI X0 hx Bd.returns (hb hby d9_25) hr
    · show Qrm9_1 Z a0 a2 k0 kc kb h0 n0 _ (s₁.setFrames fs).heap _
      rw [show (s₁.setFrames fs).heap = h0 from e0]
      exact ⟨N0, K0, Or.inr ⟨(0 : Int32), rfl, ⟨rfl, hc3⟩⟩⟩
  · refine OwnGo.of (B := s₁.setTop (mkF m 31 #[.val (.ref a0), .val (.int (0 : Int32)), .val (.ref a2), .val (.int (0 : Int32)), .val (.int (1 : Int32)), .val (.int (0 : Int32)), .val (.int k0)] [(.int (k0.toInt8.toInt32)), (.int (0 : Int32)), (.ref a2)])) (fun t k => ?_) ?_
    · show Steps p.tables e below (s₁.setTop (mkF m 20 #[.val (.ref a0), .val (.int (0 : Int32)), .val (.ref a2), .val (.int (0 : Int32)), .val (.int (1 : Int32)), .val (.int (0 : Int32)), .val (.int k0)] [(.int (255 : Int32)), (.int k0)])) t
      refine XS.icmpYes X0.here hx rfl (pc0 := 20) (pc' := 26) rfl (hb hby d9_20) rfl (flt hc3).2.2.2 (by decide) (by decide) ?_
      refine XS.aloadN X0.here hx rfl (hb hby d9_26) rfl rfl ?_
      refine XS.iloadN X0.here hx rfl (hb hby d9_27) rfl ?_
      refine XS.iload X0.here hx rfl (hb hby d9_28) rfl ?_
      refine XS.i2b X0.here hx rfl (hb hby d9_30) rfl ?_
      exact k
    have cq4 := V_b
    obtain ⟨clq4, Arq4, qq4, Sq4, Nq4, Hq4, Gq4⟩ := cq4
    obtain ⟨T5, h5, X5, e5, W5, st5⟩ := stB X0 hx hZ e0 Arq4 (j := (0 : Int32)) (inb_of Sq4 ⟨by decide, by decide⟩) (g := (mkF m 31 #[.val (.ref a0), .val (.int (0 : Int32)), .val (.ref a2), .val (.int (0 : Int32)), .val (.int (1 : Int32)), .val (.int (0 : Int32)), .val (.int k0)] [(.int (k0.toInt8.toInt32)), (.int (0 : Int32)), (.ref a2)])) rfl rfl (hb hby d9_31)
    refine OwnGo.of st5 ?_
    have N5 := Fr.snoc X5 N0 g_a2
    have f6 := Nat.le_trans Z0 (Keep.of_wr W5).1
    have f7 := K0.wr W5 (Or.inl (List.mem_of_getElem? (i := 0) rfl))
    have f8 := V_a.other W5 ne1
    have f9 : Arv Z h5 a2 kb .byte (1 : Int32) [(.int ((k0.toInt8.toInt32)).toInt8.toInt32)] (.int (0 : Int32)) := Arv.set Arq4 qq4 Sq4 Nq4 Hq4 Gq4 (fits_nar_byte _) W5 0 rfl (Nat.le_of_ble_eq_true rfl)
    show OwnGo p.tables e below _ (T5.setTop (mkF m 32 #[.val (.ref a0), .val (.int (0 : Int32)), .val (.ref a2), .val (.int (0 : Int32)), .val (.int (1 : Int32)), .val (.int (0 : Int32)), .val (.int k0)] []))
    refine OwnGo.of (B := T5.setTop (mkF m 7 #[.val (.ref a0), .val (.int (1 : Int32)), .val (.ref a2), .val (.int (1 : Int32)), .val (.int (1 : Int32)), .val (.int (1 : Int32)), .val (.int k0)] [(.int (1 : Int32)), (.int (1 : Int32))])) (fun t k => ?_) ?_
    · show Steps p.tables e below (T5.setTop (mkF m 32 #[.val (.ref a0), .val (.int (0 : Int32)), .val (.ref a2), .val (.int (0 : Int32)), .val (.int (1 : Int32)), .val (.int (0 : Int32)), .val (.int k0)] [])) t
      refine XS.iinc X5.here hx rfl (hb hby d9_32) rfl (l' := #[.val (.ref a0), .val (.int (1 : Int32)), .val (.ref a2), .val (.int (0 : Int32)), .val (.int (1 : Int32)), .val (.int (0 : Int32)), .val (.int k0)]) rfl ?_
      refine XS.iinc X5.here hx rfl (hb hby d9_35) rfl (l' := #[.val (.ref a0), .val (.int (1 : Int32)), .val (.ref a2), .val (.int (1 : Int32)), .val (.int (1 : Int32)), .val (.int (0 : Int32)), .val (.int k0)]) rfl ?_
      refine XS.iinc X5.here hx rfl (hb hby d9_38) rfl (l' := #[.val (.ref a0), .val (.int (1 : Int32)), .val (.ref a2), .val (.int (1 : Int32)), .val (.int (1 : Int32)), .val (.int (1 : Int32)), .val (.int k0)]) rfl ?_
      refine XS.goto X5.here hx rfl (pc0 := 41) (pc' := 3) rfl (hb hby d9_41) (by decide) (by decide) ?_
      refine XS.iload X5.here hx rfl (hb hby d9_3) rfl ?_
      refine XS.iload X5.here hx rfl (hb hby d9_5) rfl ?_
      exact k
    have hc10 : ¬ ((1 : Int32) < (1 : Int32)) := by decide
    refine OwnGo.of (B := T5.setTop (mkF m 46 #[.val (.ref a0), .val (.int (1 : Int32)), .val (.ref a2), .val (.int (1 : Int32)), .val (.int (1 : Int32)), .val (.int (1 : Int32)), .val (.int k0)] [(.int (1 : Int32))])) (fun t k => ?_) ?_
    · show Steps p.tables e below (T5.setTop (mkF m 7 #[.val (.ref a0), .val (.int (1 : Int32)), .val (.ref a2), .val (.int (1 : Int32)), .val (.int (1 : Int32)), .val (.int (1 : Int32)), .val (.int k0)] [(.int (1 : Int32)), (.int (1 : Int32))])) t
      refine XS.icmpYes X5.here hx rfl (pc0 := 7) (pc' := 44) rfl (hb hby d9_7) rfl (flt hc10).2.1 (by decide) (by decide) ?_
      refine XS.iload X5.here hx rfl (hb hby d9_44) rfl ?_
      exact k
    obtain ⟨fs, hr, hrun, hended, hW, hsame⟩ := X5.leave (v := some (.int (1 : Int32))) (fun h => by rw [Bd.returns] at h; cases h) hlk
    refine ⟨_, _, ?_, hrun, hended, _, _, rfl, ?_, ⟨_, rfl⟩, hW, hsame.mono (by decide) (by decide)⟩
    · show Steps p.tables e below (T5.setTop (mkF m 46 #[.val (.ref a0), .val (.int (1 : Int32)), .val (.ref a2), .val (.int (1 : Int32)), .val (.int (1 : Int32)), .val (.int (1 : Int32)), .val (.int k0)] [(.int (1 : Int32))])) _
      exact own_retI X5 hx Bd.returns (hb hby d9_46) hr
    · show Qrm9_1 Z a0 a2 k0 kc kb h0 n0 _ (T5.setFrames fs).heap _
      rw [show (T5.setFrames fs).heap = h5 from e5]
      have fz := f9
      rw [own_ll] at fz
      exact ⟨N5, f7, Or.inl ⟨rfl, (own_hS hc3 own_h0), fz⟩⟩
theorem w44 {Z aw} (hw : OwnHW aw Z) : Cond.before (Jvm.Cond.methodLink "java/lang/StringUTF16" (115 : Nat) ({ cls := "java/lang/StringUTF16", name := "compress", desc := "([CI[BII)I" } : Jvm.MethodName)) aw Z = true := hw _ (List.mem_of_getElem? (i := 44) rfl)
theorem w46 {Z aw} (hw : OwnHW aw Z) : Cond.before (Jvm.Cond.code ({ cls := "java/lang/StringUTF16", name := "compress", desc := "([CI[BII)I" } : Jvm.MethodName) jdk_52_method_21_code (7 : Nat) (Option.some Jvm.ClassFile.FieldType.int)) aw Z = true := hw _ (List.mem_of_getElem? (i := 46) rfl)
theorem pd_100 : parseMethodDescriptor "([CI[BII)I" = some ⟨[(.array .char), .int, (.array .byte), .int, .int], some .int⟩ := by decide +kernel
theorem w45 {Z aw} (hw : OwnHW aw Z) : Cond.before (Jvm.Cond.static ({ cls := "java/lang/StringUTF16", name := "compress", desc := "([CI[BII)I" } : Jvm.MethodName)) aw Z = true := hw _ (List.mem_of_getElem? (i := 45) rfl)
theorem w113 {Z aw} (hw : OwnHW aw Z) : Cond.before (Jvm.Cond.methodLink "java/lang/StringUTF16" (119 : Nat) ({ cls := "java/lang/StringUTF16", name := "toBytes", desc := "([CII)[B" } : Jvm.MethodName)) aw Z = true := hw _ (List.mem_of_getElem? (i := 113) rfl)
theorem w115 {Z aw} (hw : OwnHW aw Z) : Cond.before (Jvm.Cond.code ({ cls := "java/lang/StringUTF16", name := "toBytes", desc := "([CII)[B" } : Jvm.MethodName) jdk_52_method_14_code (5 : Nat) (Option.some (Jvm.ClassFile.FieldType.array Jvm.ClassFile.FieldType.byte))) aw Z = true := hw _ (List.mem_of_getElem? (i := 115) rfl)
theorem pd_104 : parseMethodDescriptor "([CII)[B" = some ⟨[(.array .char), .int, .int], some (.array .byte)⟩ := by decide +kernel
theorem w114 {Z aw} (hw : OwnHW aw Z) : Cond.before (Jvm.Cond.static ({ cls := "java/lang/StringUTF16", name := "toBytes", desc := "([CII)[B" } : Jvm.MethodName)) aw Z = true := hw _ (List.mem_of_getElem? (i := 114) rfl)
theorem ef_rm28_2 (m : MethodId)  : entryFrame m #[(.int (2 : Int32))] 1 = mkF m 0 #[.val (.int (2 : Int32))] [] := by first | (simp [entryFrame, mkF, argsToLocals, Value.category]; done) | rfl
def Qrm28_2 (Z : State)  (h0 : Heap) (n0 : Nat) (v : Option Value) (h : Heap) (L : List Loc) : Prop := v = some (.int (4 : Int32)) ∧ Fr n0 L ∧ h = h0
set_option maxRecDepth 65536 in
set_option maxHeartbeats 40000000 in
theorem rm28_2 (l : Launch) (Z : State) (aw : Array Value) (hw : ∀ d ∈ tables_1, d.before aw Z = true) (ws : List Jvm.Cond)  (h0 : Heap) (n0 : Nat) (Z0 : n0 ≤ h0.size) :
    MetFree l (⟨"java/lang/StringUTF16", "newBytesLength", "(I)I"⟩ : MethodName) (head1 (Jvm.Cond.code (⟨"java/lang/StringUTF16", "newBytesLength", "(I)I"⟩ : MethodName) jdk_52_method_3_code 1 (some .int) :: ws) ({ frames := 0, cells := 0, slots := 0, locals := 0 } : Room)) (fun a U => a = #[(.int (2 : Int32))] ∧ Z.Warmed39 U.vm ∧ U.heap = h0) (fun _ _ _ _ _ => True) (fun _ U o U' => ∃ v L, o = .returned v ∧ Qrm28_2 Z  h0 n0 v U'.heap L ∧ FrameEnd U o U' L ({ frames := 0, cells := 0, slots := 0, locals := 0 } : Room).cells ({ frames := 0, cells := 0, slots := 0, locals := 0 } : Room).slots) := by
  refine MetFree.of_bodySF (plainFor_of_name pn_60) hisR ?_
  intro p e s m args below meth c s₁ Bd hml0 hP hK
  obtain ⟨rfl, hZ, hh⟩ := hP
  have hx := Bd.exec
  have hby := Bd.bytes
  have hml : c.maxLocals = 1 := hml0
  have hown : s.vm.findClass "java/lang/StringUTF16" = some m.cls := findClass_of_methodNamed Bd.named
  have hnm := (name_of_methodNamed Bd.named Bd.method).1
  have X0 : Stand p l e ({ frames := 0, cells := 0, slots := 0, locals := 0 } : Room) s m #[(.int (2 : Int32))] below meth c s₁ [] 0 0 := Stand.of_body Bd
  have e0 : s₁.heap = h0 := by rw [← hh, Bd.state]; rfl
  have N0 := Fr.nil n0
  have hlk := Bd.notSynchronized
  show OwnGo p.tables e below _ (s₁.setTop (entryFrame m #[(.int (2 : Int32))] 1))
  rw [ef_rm28_2 m ]
  show OwnGo p.tables e below _ (s₁.setTop (mkF m 0 #[.val (.int (2 : Int32))] []))
  refine OwnGo.of (B := s₁.setTop (mkF m 1 #[.val (.int (2 : Int32))] [(.int (2 : Int32))])) (fun t k => ?_) ?_
  · show Steps p.tables e below (s₁.setTop (mkF m 0 #[.val (.int (2 : Int32))] [])) t
    refine XS.iloadN X0.here hx rfl (hb hby d28_0) rfl ?_
    exact k
  have hc1 : ¬ ((2 : Int32) < (0 : Int32)) := by decide
  refine OwnGo.of (B := s₁.setTop (mkF m 15 #[.val (.int (2 : Int32))] [(.int (1073741823 : Int32)), (.int (2 : Int32))])) (fun t k => ?_) ?_
  · show Steps p.tables e below (s₁.setTop (mkF m 1 #[.val (.int (2 : Int32))] [(.int (2 : Int32))])) t
    refine XS.ifYes X0.here hx rfl (pc0 := 1) (pc' := 12) rfl (hb hby d28_1) rfl ((if0 _ _).trans (flt hc1).2.1) (by decide) (by decide) ?_
    refine XS.iloadN X0.here hx rfl (hb hby d28_12) rfl ?_
    refine X0.ldcInt hx hown (mvT hZ (w122 hw)) (g := (mkF m 13 #[.val (.int (2 : Int32))] [(.int (2 : Int32))])) rfl (hb hby d28_13) _ ?_
    exact k
  have hc2 : (2 : Int32) < (1073741823 : Int32) := by decide
  refine OwnGo.of (B := s₁.setTop (mkF m 58 #[.val (.int (2 : Int32))] [(.int (4 : Int32))])) (fun t k => ?_) ?_
  · show Steps p.tables e below (s₁.setTop (mkF m 15 #[.val (.int (2 : Int32))] [(.int (1073741823 : Int32)), (.int (2 : Int32))])) t
    refine XS.icmpYes X0.here hx rfl (pc0 := 15) (pc' := 55) rfl (hb hby d28_15) rfl (tlt hc2).1 (by decide) (by decide) ?_
    refine XS.iloadN X0.here hx rfl (hb hby d28_55) rfl ?_
    refine XS.iconst X0.here hx rfl (hb hby d28_56) ?_
    refine XS.ishl X0.here hx rfl (hb hby d28_57) rfl ?_
    exact k
  obtain ⟨fs, hr, hrun, hended, hW, hsame⟩ := X0.leave (v := some (.int (4 : Int32))) (fun h => by rw [Bd.returns] at h; cases h) hlk
  refine ⟨_, _, ?_, hrun, hended, _, _, rfl, ?_, ⟨_, rfl⟩, hW, hsame.mono (by decide) (by decide)⟩
  · show Steps p.tables e below (s₁.setTop (mkF m 58 #[.val (.int (2 : Int32))] [(.int (4 : Int32))])) _
    exact own_retI X0 hx Bd.returns (hb hby d28_58) hr
  · show Qrm28_2 Z  h0 n0 _ (s₁.setFrames fs).heap _
    rw [show (s₁.setFrames fs).heap = h0 from e0]
    exact ⟨rfl, N0, rfl⟩
theorem ef_rm27_2 (m : MethodId)  : entryFrame m #[(.int (2 : Int32))] 1 = mkF m 0 #[.val (.int (2 : Int32))] [] := by first | (simp [entryFrame, mkF, argsToLocals, Value.category]; done) | rfl
def Qrm27_2 (Z : State)  (h0 : Heap) (n0 : Nat) (v : Option Value) (h : Heap) (L : List Loc) : Prop := Fr n0 L ∧ Keep h0 h [] ∧ ∃ (y : Addr) (k : ClassId), v = some (.ref y) ∧ Arv Z h y k .byte (4 : Int32) [(.int (0 : Int32)), (.int (0 : Int32)), (.int (0 : Int32)), (.int (0 : Int32))] (.int (0 : Int32)) ∧ h0.size ≤ y
set_option maxRecDepth 65536 in
set_option maxHeartbeats 40000000 in
theorem rm27_2 (l : Launch) (Z : State) (aw : Array Value) (hw : ∀ d ∈ tables_1, d.before aw Z = true) (ws : List Jvm.Cond)  (h0 : Heap) (n0 : Nat) (Z0 : n0 ≤ h0.size) :
    MetFree l (⟨"java/lang/StringUTF16", "newBytesFor", "(I)[B"⟩ : MethodName) (head1 (Jvm.Cond.code (⟨"java/lang/StringUTF16", "newBytesFor", "(I)[B"⟩ : MethodName) jdk_52_method_2_code 1 (some (.array .byte)) :: ws) ({ frames := 1, cells := 1, slots := 4, locals := 12 } : Room)) (fun a U => a = #[(.int (2 : Int32))] ∧ Z.Warmed39 U.vm ∧ U.heap = h0) (fun _ _ _ _ _ => True) (fun _ U o U' => ∃ v L, o = .returned v ∧ Qrm27_2 Z  h0 n0 v U'.heap L ∧ FrameEnd U o U' L ({ frames := 1, cells := 1, slots := 4, locals := 12 } : Room).cells ({ frames := 1, cells := 1, slots := 4, locals := 12 } : Room).slots) := by
  refine MetFree.of_bodySF (plainFor_of_name pn_60) hisR ?_
  intro p e s m args below meth c s₁ Bd hml0 hP hK
  obtain ⟨rfl, hZ, hh⟩ := hP
  have hx := Bd.exec
  have hby := Bd.bytes
  have hml : c.maxLocals = 1 := hml0
  have hown : s.vm.findClass "java/lang/StringUTF16" = some m.cls := findClass_of_methodNamed Bd.named
  have hnm := (name_of_methodNamed Bd.named Bd.method).1
  have X0 : Stand p l e ({ frames := 1, cells := 1, slots := 4, locals := 12 } : Room) s m #[(.int (2 : Int32))] below meth c s₁ [] 0 0 := Stand.of_body Bd
  have e0 : s₁.heap = h0 := by rw [← hh, Bd.state]; rfl
  have N0 := Fr.nil n0
  have hlk := Bd.notSynchronized
  show OwnGo p.tables e below _ (s₁.setTop (entryFrame m #[(.int (2 : Int32))] 1))
  rw [ef_rm27_2 m ]
  have K0 : Keep h0 h0 [] := Keep.refl _ _
  show OwnGo p.tables e below _ (s₁.setTop (mkF m 0 #[.val (.int (2 : Int32))] []))
  refine OwnGo.of (B := s₁.setTop (mkF m 1 #[.val (.int (2 : Int32))] [(.int (2 : Int32))])) (fun t k => ?_) ?_
  · show Steps p.tables e below (s₁.setTop (mkF m 0 #[.val (.int (2 : Int32))] [])) t
    refine XS.iloadN X0.here hx rfl (hb hby d27_0) rfl ?_
    exact k
  obtain ⟨T1, L1, v1, X1, hQ1, st1⟩ := own_callS X0 hx (y := (⟨"java/lang/StringUTF16", "newBytesLength", "(I)I"⟩ : MethodName)) hown (mvT hZ (w119 hw)) (mvT hZ (w120 hw)) (mvT hZ (w42 hw)) (mvT hZ (w121 hw)) (by decide) (backOf (W := 0) (rm28_2 l Z aw hw []   h0 n0 Z0 ) hZ (w121 hw) (w42 hw) (by decide) (by decide)) (g := (mkF m 1 #[.val (.int (2 : Int32))] [(.int (2 : Int32))])) rfl (by rw [hml]; rfl) (argsL := [(.int (2 : Int32))]) (rest := []) (lenOf pd_87 rfl) rfl (by show 2 * 0 + _ ≤ _; exact Nat.le_of_eq rfl) (hb hby d27_1) rfl e0 (by decide) (by decide)
  obtain ⟨rfl, N1q, eq1⟩ := hQ1
  have N1 := Fr.app N0 N1q
  refine OwnGo.of st1 ?_
  show OwnGo p.tables e below _ (T1.setTop (mkF m 4 #[.val (.int (2 : Int32))] [(.int (4 : Int32))]))
  obtain ⟨T2, h2, kq2, X2, e2, E2, A2, st2⟩ := newP (aty := .byte) X1 hx hZ (w20 hw) eq1 (g := (mkF m 4 #[.val (.int (2 : Int32))] [(.int (4 : Int32))])) rfl (hb hby d27_4) rfl (by decide) (cap := 4) (by decide) (by decide) (by decide) (by decide)
  obtain ⟨b2, g2⟩ : ∃ z, z = h0.size := ⟨_, rfl⟩
  rw [← g2] at A2 st2
  refine OwnGo.of st2 ?_
  have g_b2 : n0 ≤ b2 := Nat.le_trans Z0 (Nat.le_of_eq g2.symm)
  have sz_b2 : h0.size ≤ b2 := Nat.le_trans K0.1 (Nat.le_of_eq g2.symm)
  have f3 := Nat.le_trans Z0 E2.1
  have f4 := K0.ext E2
  have f5 : Arv Z h2 b2 kq2 .byte (4 : Int32) [(.int (0 : Int32)), (.int (0 : Int32)), (.int (0 : Int32)), (.int (0 : Int32))] (.int (0 : Int32)) := (Arv.new A2 (by decide)).pad (pad_rep [] (.int (0 : Int32)) 4)
  show OwnGo p.tables e below _ (T2.setTop (mkF m 6 #[.val (.int (2 : Int32))] [(.ref b2)]))
  obtain ⟨fs, hr, hrun, hended, hW, hsame⟩ := X2.leave (v := some (.ref b2)) (fun h => by rw [Bd.returns] at h; cases h) hlk
  refine ⟨_, _, ?_, hrun, hended, _, _, rfl, ?_, ⟨_, rfl⟩, hW, hsame.mono (by decide) (by decide)⟩
  · show Steps p.tables e below (T2.setTop (mkF m 6 #[.val (.int (2 : Int32))] [(.ref b2)])) _
    exact own_retA X2 hx Bd.returns rfl rfl rfl (hb hby d27_6) hr
  · show Qrm27_2 Z  h0 n0 _ (T2.setFrames fs).heap _
    rw [show (T2.setFrames fs).heap = h2 from e2]
    exact ⟨N1, f4, b2, _, rfl, f5, sz_b2⟩
theorem ef_rm26_2 (m : MethodId) (a0 : Addr) : entryFrame m #[(.ref a0), (.int (0 : Int32)), (.int (2 : Int32))] 5 = mkF m 0 #[.val (.ref a0), .val (.int (0 : Int32)), .val (.int (2 : Int32)), .unset, .unset] [] := by first | (simp [entryFrame, mkF, argsToLocals, Value.category]; done) | rfl
def Qrm26_2 (Z : State) (a0 : Addr) (k0 : Int32) (k1 : Int32) (kc : ClassId) (h0 : Heap) (n0 : Nat) (v : Option Value) (h : Heap) (L : List Loc) : Prop := Fr n0 L ∧ Keep h0 h [] ∧ ∃ (y : Addr) (k : ClassId), v = some (.ref y) ∧ Arv Z h y k .byte (4 : Int32) (StrChars.Road.wideBytes ([k0, k1] : List Int32)) (.int (0 : Int32)) ∧ h0.size ≤ y
set_option maxRecDepth 65536 in
set_option maxHeartbeats 40000000 in
theorem rm26_2 (l : Launch) (Z : State) (aw : Array Value) (hw : ∀ d ∈ tables_1, d.before aw Z = true) (ws : List Jvm.Cond) (a0 : Addr) (k0 : Int32) (k1 : Int32) (kc : ClassId) (h0 : Heap) (n0 : Nat) (Z0 : n0 ≤ h0.size) (V_a : Arv Z h0 a0 kc .char (2 : Int32) [(.int k0), (.int k1)] (.int (0 : Int32))) (S__assertionsDisabled : Sta Z h0 "java/lang/StringUTF16" "$assertionsDisabled" "Z" (.int (1 : Int32))) (S_HI_BYTE_SHIFT : Sta Z h0 "java/lang/StringUTF16" "HI_BYTE_SHIFT" "I" (.int (0 : Int32))) (S_LO_BYTE_SHIFT : Sta Z h0 "java/lang/StringUTF16" "LO_BYTE_SHIFT" "I" (.int (8 : Int32))) :
    MetFree l (⟨"java/lang/StringUTF16", "toBytes", "([CII)[B"⟩ : MethodName) (head1 (Jvm.Cond.code (⟨"java/lang/StringUTF16", "toBytes", "([CII)[B"⟩ : MethodName) jdk_52_method_14_code 5 (some (.array .byte)) :: ws) ({ frames := 2, cells := 1, slots := 4, locals := 24 } : Room)) (fun a U => a = #[(.ref a0), (.int (0 : Int32)), (.int (2 : Int32))] ∧ Z.Warmed39 U.vm ∧ U.heap = h0) (fun _ _ _ _ _ => True) (fun _ U o U' => ∃ v L, o = .returned v ∧ Qrm26_2 Z a0 k0 k1 kc h0 n0 v U'.heap L ∧ FrameEnd U o U' L ({ frames := 2, cells := 1, slots := 4, locals := 24 } : Room).cells ({ frames := 2, cells := 1, slots := 4, locals := 24 } : Room).slots) := by
  refine MetFree.of_bodySF (plainFor_of_name pn_60) hisR ?_
  intro p e s m args below meth c s₁ Bd hml0 hP hK
  obtain ⟨rfl, hZ, hh⟩ := hP
  have hx := Bd.exec
  have hby := Bd.bytes
  have hml : c.maxLocals = 5 := hml0
  have hown : s.vm.findClass "java/lang/StringUTF16" = some m.cls := findClass_of_methodNamed Bd.named
  have hnm := (name_of_methodNamed Bd.named Bd.method).1
  have X0 : Stand p l e ({ frames := 2, cells := 1, slots := 4, locals := 24 } : Room) s m #[(.ref a0), (.int (0 : Int32)), (.int (2 : Int32))] below meth c s₁ [] 0 0 := Stand.of_body Bd
  have e0 : s₁.heap = h0 := by rw [← hh, Bd.state]; rfl
  have N0 := Fr.nil n0
  have hlk := Bd.notSynchronized
  show OwnGo p.tables e below _ (s₁.setTop (entryFrame m #[(.ref a0), (.int (0 : Int32)), (.int (2 : Int32))] 5))
  rw [ef_rm26_2 m a0]
  have K0 : Keep h0 h0 [] := Keep.refl _ _
  show OwnGo p.tables e below _ (s₁.setTop (mkF m 0 #[.val (.ref a0), .val (.int (0 : Int32)), .val (.int (2 : Int32)), .unset, .unset] []))
  refine OwnGo.of (B := s₁.setTop (mkF m 1 #[.val (.ref a0), .val (.int (0 : Int32)), .val (.int (2 : Int32)), .unset, .unset] [(.int (2 : Int32))])) (fun t k => ?_) ?_
  · show Steps p.tables e below (s₁.setTop (mkF m 0 #[.val (.ref a0), .val (.int (0 : Int32)), .val (.int (2 : Int32)), .unset, .unset] [])) t
    refine XS.iloadN X0.here hx rfl (hb hby d26_0) rfl ?_
    exact k
  obtain ⟨T1, L1, v1, X1, hQ1, st1⟩ := own_callS X0 hx (y := (⟨"java/lang/StringUTF16", "newBytesFor", "(I)[B"⟩ : MethodName)) hown (mvT hZ (w116 hw)) (mvT hZ (w117 hw)) (mvT hZ (w42 hw)) (mvT hZ (w118 hw)) (by decide) (backOf (W := 0) (rm27_2 l Z aw hw []   h0 n0 Z0 ) hZ (w118 hw) (w42 hw) (by decide) (by decide)) (g := (mkF m 1 #[.val (.ref a0), .val (.int (0 : Int32)), .val (.int (2 : Int32)), .unset, .unset] [(.int (2 : Int32))])) rfl (by rw [hml]; rfl) (argsL := [(.int (2 : Int32))]) (rest := []) (lenOf pd_92 rfl) rfl (by show 2 * 0 + _ ≤ _; exact Nat.le_of_eq rfl) (hb hby d26_1) rfl e0 (by decide) (by decide)
  obtain ⟨N1q, K1, y1, kq1, rfl, A1, gy1⟩ := hQ1
  have ne_a0_y1 : a0 ≠ y1 := Nat.ne_of_lt (Nat.lt_of_lt_of_le V_a.lt gy1)
  have g_y1 : n0 ≤ y1 := Nat.le_trans Z0 gy1
  have sz_y1 : h0.size ≤ y1 := Nat.le_trans K0.1 gy1
  have f2 := Nat.le_trans Z0 K1.1
  have f3 := K0.trans K1 all0
  have f4 := own_sta_keep S__assertionsDisabled K1 all0
  have f5 := own_sta_keep S_HI_BYTE_SHIFT K1 all0
  have f6 := own_sta_keep S_LO_BYTE_SHIFT K1 all0
  have f7 := V_a.keep K1 nin0
  have f8 : Arv Z T1.heap y1 kq1 .byte (4 : Int32) [(.int (0 : Int32)), (.int (0 : Int32)), (.int (0 : Int32)), (.int (0 : Int32))] (.int (0 : Int32)) := A1
  have N1 := Fr.app N0 N1q
  refine OwnGo.of st1 ?_
  show OwnGo p.tables e below _ (T1.setTop (mkF m 4 #[.val (.ref a0), .val (.int (0 : Int32)), .val (.int (2 : Int32)), .unset, .unset] [(.ref y1)]))
  refine OwnGo.of (B := T1.setTop (mkF m 11 #[.val (.ref a0), .val (.int (0 : Int32)), .val (.int (2 : Int32)), .val (.ref y1), .val (.int (0 : Int32))] [(.int (2 : Int32)), (.int (0 : Int32))])) (fun t k => ?_) ?_
  · show Steps p.tables e below (T1.setTop (mkF m 4 #[.val (.ref a0), .val (.int (0 : Int32)), .val (.int (2 : Int32)), .unset, .unset] [(.ref y1)])) t
    refine XS.astoreN X1.here hx rfl (hb hby d26_4) rfl rfl (l' := #[.val (.ref a0), .val (.int (0 : Int32)), .val (.int (2 : Int32)), .val (.ref y1), .unset]) rfl ?_
    refine XS.iconst X1.here hx rfl (hb hby d26_5) ?_
    refine XS.istore X1.here hx rfl (hb hby d26_6) rfl (l' := #[.val (.ref a0), .val (.int (0 : Int32)), .val (.int (2 : Int32)), .val (.ref y1), .val (.int (0 : Int32))]) rfl ?_
    refine XS.iload X1.here hx rfl (hb hby d26_8) rfl ?_
    refine XS.iloadN X1.here hx rfl (hb hby d26_10) rfl ?_
    exact k
  have hc9 : (0 : Int32) < (2 : Int32) := by decide
  refine OwnGo.of (B := T1.setTop (mkF m 19 #[.val (.ref a0), .val (.int (0 : Int32)), .val (.int (2 : Int32)), .val (.ref y1), .val (.int (0 : Int32))] [(.int (0 : Int32)), (.ref a0), (.int (0 : Int32)), (.ref y1)])) (fun t k => ?_) ?_
  · show Steps p.tables e below (T1.setTop (mkF m 11 #[.val (.ref a0), .val (.int (0 : Int32)), .val (.int (2 : Int32)), .val (.ref y1), .val (.int (0 : Int32))] [(.int (2 : Int32)), (.int (0 : Int32))])) t
    refine XS.icmpNo X1.here hx rfl (hb hby d26_11) rfl (tlt hc9).2.1 ?_
    refine XS.aloadN X1.here hx rfl (hb hby d26_14) rfl rfl ?_
    refine XS.iload X1.here hx rfl (hb hby d26_15) rfl ?_
    refine XS.aloadN X1.here hx rfl (hb hby d26_17) rfl rfl ?_
    refine XS.iloadN X1.here hx rfl (hb hby d26_18) rfl ?_
    exact k
  have cq10 := f7
  obtain ⟨clq10, Arq10, qq10, Sq10, Nq10, Hq10, Gq10⟩ := cq10
  have hinq10 := inb_of (j := (0 : Int32)) Sq10 ⟨by decide, by decide⟩
  refine OwnGo.of (X1.caload hx (j := (0 : Int32)) (v := (.int k0)) Arq10.1 (State.isArrayOf_alike hZ.alike Arq10.2.1) Arq10.2.2 hinq10 (Hq10.at hinq10 rfl) (g := (mkF m 19 #[.val (.ref a0), .val (.int (0 : Int32)), .val (.int (2 : Int32)), .val (.ref y1), .val (.int (0 : Int32))] [(.int (0 : Int32)), (.ref a0), (.int (0 : Int32)), (.ref y1)])) rfl rfl (hb hby d26_19)) ?_
  show OwnGo p.tables e below _ (T1.setTop (mkF m 20 #[.val (.ref a0), .val (.int (0 : Int32)), .val (.int (2 : Int32)), .val (.ref y1), .val (.int (0 : Int32))] [(.int k0), (.int (0 : Int32)), (.ref y1)]))
  obtain ⟨T11, L11, v11, X11, hQ11, st11⟩ := own_callS X1 hx (y := (⟨"java/lang/StringUTF16", "putChar", "([BII)V"⟩ : MethodName)) hown (mvT hZ (w123 hw)) (mvT hZ (w124 hw)) (mvT hZ (w42 hw)) (mvT hZ (w125 hw)) (by decide) (backOf (W := 0) (rm29_0 l Z aw hw [] y1 k0 kq1 (4 : Int32) ([(.int (0 : Int32)), (.int (0 : Int32)), (.int (0 : Int32)), (.int (0 : Int32))] : List Value) T1.heap n0 f2 f8 g_y1 f4 f5 f6 (by decide) (by decide) (Nat.le_of_ble_eq_true rfl) (Nat.le_of_ble_eq_true rfl)) hZ (w125 hw) (w42 hw) (by decide) (by decide)) (g := (mkF m 20 #[.val (.ref a0), .val (.int (0 : Int32)), .val (.int (2 : Int32)), .val (.ref y1), .val (.int (0 : Int32))] [(.int k0), (.int (0 : Int32)), (.ref y1)])) rfl (by rw [hml]; rfl) (argsL := [(.ref y1), (.int (0 : Int32)), (.int k0)]) (rest := []) (lenOf pd_96 rfl) rfl (by show 2 * 0 + _ ≤ _; exact Nat.le_of_eq rfl) (hb hby d26_20) rfl rfl (by decide) (by decide)
  obtain ⟨rfl, N11q, K11, y11_0⟩ := hQ11
  have f12 := Nat.le_trans f2 K11.1
  have f13 := f3.trans K11 (allS (Or.inr sz_y1) all0)
  have f14 := own_sta_keep f4 K11 (allS (own_ns_arv f8) all0)
  have f15 := own_sta_keep f5 K11 (allS (own_ns_arv f8) all0)
  have f16 := own_sta_keep f6 K11 (allS (own_ns_arv f8) all0)
  have f17 := f7.keep K11 (ninS ne_a0_y1 nin0)
  have f18 : Arv Z T11.heap y1 kq1 .byte (4 : Int32) [(.int (StrChars.lo8 k0)), (.int (StrChars.hi8 k0)), (.int (0 : Int32)), (.int (0 : Int32))] (.int (0 : Int32)) := y11_0
  have N11 := Fr.app N1 N11q
  refine OwnGo.of st11 ?_
  show OwnGo p.tables e below _ (T11.setTop (mkF m 23 #[.val (.ref a0), .val (.int (0 : Int32)), .val (.int (2 : Int32)), .val (.ref y1), .val (.int (0 : Int32))] []))
  refine OwnGo.of (B := T11.setTop (mkF m 11 #[.val (.ref a0), .val (.int (1 : Int32)), .val (.int (2 : Int32)), .val (.ref y1), .val (.int (1 : Int32))] [(.int (2 : Int32)), (.int (1 : Int32))])) (fun t k => ?_) ?_
  · show Steps p.tables e below (T11.setTop (mkF m 23 #[.val (.ref a0), .val (.int (0 : Int32)), .val (.int (2 : Int32)), .val (.ref y1), .val (.int (0 : Int32))] [])) t
    refine XS.iinc X11.here hx rfl (hb hby d26_23) rfl (l' := #[.val (.ref a0), .val (.int (1 : Int32)), .val (.int (2 : Int32)), .val (.ref y1), .val (.int (0 : Int32))]) rfl ?_
    refine XS.iinc X11.here hx rfl (hb hby d26_26) rfl (l' := #[.val (.ref a0), .val (.int (1 : Int32)), .val (.int (2 : Int32)), .val (.ref y1), .val (.int (1 : Int32))]) rfl ?_
    refine XS.goto X11.here hx rfl (pc0 := 29) (pc' := 8) rfl (hb hby d26_29) (by decide) (by decide) ?_
    refine XS.iload X11.here hx rfl (hb hby d26_8) rfl ?_
    refine XS.iloadN X11.here hx rfl (hb hby d26_10) rfl ?_
    exact k
  have hc19 : (1 : Int32) < (2 : Int32) := by decide
  refine OwnGo.of (B := T11.setTop (mkF m 19 #[.val (.ref a0), .val (.int (1 : Int32)), .val (.int (2 : Int32)), .val (.ref y1), .val (.int (1 : Int32))] [(.int (1 : Int32)), (.ref a0), (.int (1 : Int32)), (.ref y1)])) (fun t k => ?_) ?_
  · show Steps p.tables e below (T11.setTop (mkF m 11 #[.val (.ref a0), .val (.int (1 : Int32)), .val (.int (2 : Int32)), .val (.ref y1), .val (.int (1 : Int32))] [(.int (2 : Int32)), (.int (1 : Int32))])) t
    refine XS.icmpNo X11.here hx rfl (hb hby d26_11) rfl (tlt hc19).2.1 ?_
    refine XS.aloadN X11.here hx rfl (hb hby d26_14) rfl rfl ?_
    refine XS.iload X11.here hx rfl (hb hby d26_15) rfl ?_
    refine XS.aloadN X11.here hx rfl (hb hby d26_17) rfl rfl ?_
    refine XS.iloadN X11.here hx rfl (hb hby d26_18) rfl ?_
    exact k
  have cq20 := f17
  obtain ⟨clq20, Arq20, qq20, Sq20, Nq20, Hq20, Gq20⟩ := cq20
  have hinq20 := inb_of (j := (1 : Int32)) Sq20 ⟨by decide, by decide⟩
  refine OwnGo.of (X11.caload hx (j := (1 : Int32)) (v := (.int k1)) Arq20.1 (State.isArrayOf_alike hZ.alike Arq20.2.1) Arq20.2.2 hinq20 (Hq20.at hinq20 rfl) (g := (mkF m 19 #[.val (.ref a0), .val (.int (1 : Int32)), .val (.int (2 : Int32)), .val (.ref y1), .val (.int (1 : Int32))] [(.int (1 : Int32)), (.ref a0), (.int (1 : Int32)), (.ref y1)])) rfl rfl (hb hby d26_19)) ?_
  show OwnGo p.tables e below _ (T11.setTop (mkF m 20 #[.val (.ref a0), .val (.int (1 : Int32)), .val (.int (2 : Int32)), .val (.ref y1), .val (.int (1 : Int32))] [(.int k1), (.int (1 : Int32)), (.ref y1)]))
  obtain ⟨T21, L21, v21, X21, hQ21, st21⟩ := own_callS X11 hx (y := (⟨"java/lang/StringUTF16", "putChar", "([BII)V"⟩ : MethodName)) hown (mvT hZ (w123 hw)) (mvT hZ (w124 hw)) (mvT hZ (w42 hw)) (mvT hZ (w125 hw)) (by decide) (backOf (W := 0) (rm29_1 l Z aw hw [] y1 k1 kq1 (4 : Int32) ([(.int (StrChars.lo8 k0)), (.int (StrChars.hi8 k0)), (.int (0 : Int32)), (.int (0 : Int32))] : List Value) T11.heap n0 f12 f18 g_y1 f14 f15 f16 (by decide) (by decide) (Nat.le_of_ble_eq_true rfl) (Nat.le_of_ble_eq_true rfl)) hZ (w125 hw) (w42 hw) (by decide) (by decide)) (g := (mkF m 20 #[.val (.ref a0), .val (.int (1 : Int32)), .val (.int (2 : Int32)), .val (.ref y1), .val (.int (1 : Int32))] [(.int k1), (.int (1 : Int32)), (.ref y1)])) rfl (by rw [hml]; rfl) (argsL := [(.ref y1), (.int (1 : Int32)), (.int k1)]) (rest := []) (lenOf pd_96 rfl) rfl (by show 2 * 0 + _ ≤ _; exact Nat.le_of_eq rfl) (hb hby d26_20) rfl rfl (by decide) (by decide)
  obtain ⟨rfl, N21q, K21, y21_0⟩ := hQ21
  have f22 := Nat.le_trans f12 K21.1
  have f23 := f13.trans K21 (allS (Or.inr sz_y1) all0)
  have f24 := own_sta_keep f14 K21 (allS (own_ns_arv f18) all0)
  have f25 := own_sta_keep f15 K21 (allS (own_ns_arv f18) all0)
  have f26 := own_sta_keep f16 K21 (allS (own_ns_arv f18) all0)
  have f27 := f17.keep K21 (ninS ne_a0_y1 nin0)
  have f28 : Arv Z T21.heap y1 kq1 .byte (4 : Int32) [(.int (StrChars.lo8 k0)), (.int (StrChars.hi8 k0)), (.int (StrChars.lo8 k1)), (.int (StrChars.hi8 k1))] (.int (0 : Int32)) := y21_0
  have N21 := Fr.app N11 N21q
  refine OwnGo.of st21 ?_
  show OwnGo p.tables e below _ (T21.setTop (mkF m 23 #[.val (.ref a0), .val (.int (1 : Int32)), .val (.int (2 : Int32)), .val (.ref y1), .val (.int (1 : Int32))] []))
  refine OwnGo.of (B := T21.setTop (mkF m 11 #[.val (.ref a0), .val (.int (2 : Int32)), .val (.int (2 : Int32)), .val (.ref y1), .val (.int (2 : Int32))] [(.int (2 : Int32)), (.int (2 : Int32))])) (fun t k => ?_) ?_
  · show Steps p.tables e below (T21.setTop (mkF m 23 #[.val (.ref a0), .val (.int (1 : Int32)), .val (.int (2 : Int32)), .val (.ref y1), .val (.int (1 : Int32))] [])) t
    refine XS.iinc X21.here hx rfl (hb hby d26_23) rfl (l' := #[.val (.ref a0), .val (.int (2 : Int32)), .val (.int (2 : Int32)), .val (.ref y1), .val (.int (1 : Int32))]) rfl ?_
    refine XS.iinc X21.here hx rfl (hb hby d26_26) rfl (l' := #[.val (.ref a0), .val (.int (2 : Int32)), .val (.int (2 : Int32)), .val (.ref y1), .val (.int (2 : Int32))]) rfl ?_
    refine XS.goto X21.here hx rfl (pc0 := 29) (pc' := 8) rfl (hb hby d26_29) (by decide) (by decide) ?_
    refine XS.iload X21.here hx rfl (hb hby d26_8) rfl ?_
    refine XS.iloadN X21.here hx rfl (hb hby d26_10) rfl ?_
    exact k
  have hc29 : ¬ ((2 : Int32) < (2 : Int32)) := by decide
  refine OwnGo.of (B := T21.setTop (mkF m 33 #[.val (.ref a0), .val (.int (2 : Int32)), .val (.int (2 : Int32)), .val (.ref y1), .val (.int (2 : Int32))] [(.ref y1)])) (fun t k => ?_) ?_
  · show Steps p.tables e below (T21.setTop (mkF m 11 #[.val (.ref a0), .val (.int (2 : Int32)), .val (.int (2 : Int32)), .val (.ref y1), .val (.int (2 : Int32))] [(.int (2 : Int32)), (.int (2 : Int32))])) t
    refine XS.icmpYes X21.here hx rfl (pc0 := 11) (pc' := 32) rfl (hb hby d26_11) rfl (flt hc29).2.1 (by decide) (by decide) ?_
    refine XS.aloadN X21.here hx rfl (hb hby d26_32) rfl rfl ?_
    exact k
  obtain ⟨fs, hr, hrun, hended, hW, hsame⟩ := X21.leave (v := some (.ref y1)) (fun h => by rw [Bd.returns] at h; cases h) hlk
  refine ⟨_, _, ?_, hrun, hended, _, _, rfl, ?_, ⟨_, rfl⟩, hW, hsame.mono (by decide) (by decide)⟩
  · show Steps p.tables e below (T21.setTop (mkF m 33 #[.val (.ref a0), .val (.int (2 : Int32)), .val (.int (2 : Int32)), .val (.ref y1), .val (.int (2 : Int32))] [(.ref y1)])) _
    exact own_retA X21 hx Bd.returns rfl rfl rfl (hb hby d26_33) hr
  · show Qrm26_2 Z a0 k0 k1 kc h0 n0 _ (T21.setFrames fs).heap _
    rw [show (T21.setFrames fs).heap = T21.heap from rfl]
    exact ⟨N21, f23, y1, _, rfl, f28, sz_y1⟩
theorem ef_rm9_2 (m : MethodId) (a0 : Addr) (a2 : Addr) : entryFrame m #[(.ref a0), (.int (0 : Int32)), (.ref a2), (.int (0 : Int32)), (.int (2 : Int32))] 7 = mkF m 0 #[.val (.ref a0), .val (.int (0 : Int32)), .val (.ref a2), .val (.int (0 : Int32)), .val (.int (2 : Int32)), .unset, .unset] [] := by first | (simp [entryFrame, mkF, argsToLocals, Value.category]; done) | rfl
def Qrm9_2 (Z : State) (a0 : Addr) (a2 : Addr) (k0 : Int32) (k1 : Int32) (kc : ClassId) (kb : ClassId) (h0 : Heap) (n0 : Nat) (v : Option Value) (h : Heap) (L : List Loc) : Prop := Fr n0 L ∧ Keep h0 h [a2] ∧ ((v = some (.int (2 : Int32)) ∧ (∀ c ∈ ([k0, k1] : List Int32), ¬ 255 < c) ∧ Arv Z h a2 kb .byte (2 : Int32) [(.int (StrChars.lo8 k0)), (.int (StrChars.lo8 k1))] (.int (0 : Int32))) ∨ (∃ iv : Int32, v = some (.int iv) ∧ ((iv = (0 : Int32) ∧ 255 < k0) ∨ (iv = (1 : Int32) ∧ 255 < k1))))
set_option maxRecDepth 65536 in
set_option maxHeartbeats 40000000 in
theorem rm9_2 (l : Launch) (Z : State) (aw : Array Value) (hw : ∀ d ∈ tables_1, d.before aw Z = true) (ws : List Jvm.Cond) (a0 : Addr) (a2 : Addr) (k0 : Int32) (k1 : Int32) (kc : ClassId) (kb : ClassId) (h0 : Heap) (n0 : Nat) (Z0 : n0 ≤ h0.size) (V_a : Arv Z h0 a0 kc .char (2 : Int32) [(.int k0), (.int k1)] (.int (0 : Int32))) (V_b : Arv Z h0 a2 kb .byte (2 : Int32) [(.int (0 : Int32)), (.int (0 : Int32))] (.int (0 : Int32))) (g_a2 : n0 ≤ a2) (hne : a0 ≠ a2) :
    MetFree l (⟨"java/lang/StringUTF16", "compress", "([CI[BII)I"⟩ : MethodName) (head1 (Jvm.Cond.code (⟨"java/lang/StringUTF16", "compress", "([CI[BII)I"⟩ : MethodName) jdk_52_method_21_code 7 (some .int) :: ws) ({ frames := 0, cells := 0, slots := 0, locals := 0 } : Room)) (fun a U => a = #[(.ref a0), (.int (0 : Int32)), (.ref a2), (.int (0 : Int32)), (.int (2 : Int32))] ∧ Z.Warmed39 U.vm ∧ U.heap = h0) (fun _ _ _ _ _ => True) (fun _ U o U' => ∃ v L, o = .returned v ∧ Qrm9_2 Z a0 a2 k0 k1 kc kb h0 n0 v U'.heap L ∧ FrameEnd U o U' L ({ frames := 0, cells := 0, slots := 0, locals := 0 } : Room).cells ({ frames := 0, cells := 0, slots := 0, locals := 0 } : Room).slots) := by
  refine MetFree.of_bodySF (plainFor_of_name pn_60) hisR ?_
  intro p e s m args below meth c s₁ Bd hml0 hP hK
  obtain ⟨rfl, hZ, hh⟩ := hP
  have hx := Bd.exec
  have hby := Bd.bytes
  have hml : c.maxLocals = 7 := hml0
  have hown : s.vm.findClass "java/lang/StringUTF16" = some m.cls := findClass_of_methodNamed Bd.named
  have hnm := (name_of_methodNamed Bd.named Bd.method).1
  have X0 : Stand p l e ({ frames := 0, cells := 0, slots := 0, locals := 0 } : Room) s m #[(.ref a0), (.int (0 : Int32)), (.ref a2), (.int (0 : Int32)), (.int (2 : Int32))] below meth c s₁ [] 0 0 := Stand.of_body Bd
  have e0 : s₁.heap = h0 := by rw [← hh, Bd.state]; rfl
  have N0 := Fr.nil n0
  have hlk := Bd.notSynchronized
  show OwnGo p.tables e below _ (s₁.setTop (entryFrame m #[(.ref a0), (.int (0 : Int32)), (.ref a2), (.int (0 : Int32)), (.int (2 : Int32))] 7))
  rw [ef_rm9_2 m a0 a2]
  have K0 : Keep h0 h0 [a2] := Keep.refl _ _
  have ne1 : a0 ≠ a2 := hne
  show OwnGo p.tables e below _ (s₁.setTop (mkF m 0 #[.val (.ref a0), .val (.int (0 : Int32)), .val (.ref a2), .val (.int (0 : Int32)), .val (.int (2 : Int32)), .unset, .unset] []))
  refine OwnGo.of (B := s₁.setTop (mkF m 7 #[.val (.ref a0), .val (.int (0 : Int32)), .val (.ref a2), .val (.int (0 : Int32)), .val (.int (2 : Int32)), .val (.int (0 : Int32)), .unset] [(.int (2 : Int32)), (.int (0 : Int32))])) (fun t k => ?_) ?_
  · show Steps p.tables e below (s₁.setTop (mkF m 0 #[.val (.ref a0), .val (.int (0 : Int32)), .val (.ref a2), .val (.int (0 : Int32)), .val (.int (2 : Int32)), .unset, .unset] [])) t
    refine XS.iconst X0.here hx rfl (hb hby d9_0) ?_
    refine XS.istore X0.here hx rfl (hb hby d9_1) rfl (l' := #[.val (.ref a0), .val (.int (0 : Int32)), .val (.ref a2), .val (.int (0 : Int32)), .val (.int (2 : Int32)), .val (.int (0 : Int32)), .unset]) rfl ?_
    refine XS.iload X0.here hx rfl (hb hby d9_3) rfl ?_
    refine XS.iload X0.here hx rfl (hb hby d9_5) rfl ?_
    exact k
  have hc1 : (0 : Int32) < (2 : Int32) := by decide
  refine OwnGo.of (B := s₁.setTop (mkF m 12 #[.val (.ref a0), .val (.int (0 : Int32)), .val (.ref a2), .val (.int (0 : Int32)), .val (.int (2 : Int32)), .val (.int (0 : Int32)), .unset] [(.int (0 : Int32)), (.ref a0)])) (fun t k => ?_) ?_
  · show Steps p.tables e below (s₁.setTop (mkF m 7 #[.val (.ref a0), .val (.int (0 : Int32)), .val (.ref a2), .val (.int (0 : Int32)), .val (.int (2 : Int32)), .val (.int (0 : Int32)), .unset] [(.int (2 : Int32)), (.int (0 : Int32))])) t
    refine XS.icmpNo X0.here hx rfl (hb hby d9_7) rfl (tlt hc1).2.1 ?_
    refine XS.aloadN X0.here hx rfl (hb hby d9_10) rfl rfl ?_
    refine XS.iloadN X0.here hx rfl (hb hby d9_11) rfl ?_
    exact k
  have cq2 := V_a
  obtain ⟨clq2, Arq2, qq2, Sq2, Nq2, Hq2, Gq2⟩ := cq2
  have hinq2 := inb_of (j := (0 : Int32)) Sq2 ⟨by decide, by decide⟩
  refine OwnGo.of (X0.caload hx (j := (0 : Int32)) (v := (.int k0)) (by rw [e0]; exact Arq2.1) (State.isArrayOf_alike hZ.alike Arq2.2.1) Arq2.2.2 hinq2 (Hq2.at hinq2 rfl) (g := (mkF m 12 #[.val (.ref a0), .val (.int (0 : Int32)), .val (.ref a2), .val (.int (0 : Int32)), .val (.int (2 : Int32)), .val (.int (0 : Int32)), .unset] [(.int (0 : Int32)), (.ref a0)])) rfl rfl (hb hby d9_12)) ?_
  show OwnGo p.tables e below _ (s₁.setTop (mkF m 13 #[.val (.ref a0), .val (.int (0 : Int32)), .val (.ref a2), .val (.int (0 : Int32)), .val (.int (2 : Int32)), .val (.int (0 : Int32)), .unset] [(.int k0)]))
  refine OwnGo.of (B := s₁.setTop (mkF m 20 #[.val (.ref a0), .val (.int (0 : Int32)), .val (.ref a2), .val (.int (0 : Int32)), .val (.int (2 : Int32)), .val (.int (0 : Int32)), .val (.int k0)] [(.int (255 : Int32)), (.int k0)])) (fun t k => ?_) ?_
  · show Steps p.tables e below (s₁.setTop (mkF m 13 #[.val (.ref a0), .val (.int (0 : Int32)), .val (.ref a2), .val (.int (0 : Int32)), .val (.int (2 : Int32)), .val (.int (0 : Int32)), .unset] [(.int k0)])) t
    refine XS.istore X0.here hx rfl (hb hby d9_13) rfl (l' := #[.val (.ref a0), .val (.int (0 : Int32)), .val (.ref a2), .val (.int (0 : Int32)), .val (.int (2 : Int32)), .val (.int (0 : Int32)), .val (.int k0)]) rfl ?_
    refine XS.iload X0.here hx rfl (hb hby d9_15) rfl ?_
    refine XS.sipush X0.here hx rfl (hb hby d9_17) ?_
    exact k
  by_cases hc3 : (255 : Int32) < k0
  · refine OwnGo.of (B := s₁.setTop (mkF m 25 #[.val (.ref a0), .val (.int (0 : Int32)), .val (.ref a2), .val (.int (0 : Int32)), .val (.int (2 : Int32)), .val (.int (0 : Int32)), .val (.int k0)] [(.int (0 : Int32))])) (fun t k => ?_) ?_
    · show Steps p.tables e below (s₁.setTop (mkF m 20 #[.val (.ref a0), .val (.int (0 : Int32)), .val (.ref a2), .val (.int (0 : Int32)), .val (.int (2 : Int32)), .val (.int (0 : Int32)), .val (.int k0)] [(.int (255 : Int32)), (.int k0)])) t
      refine XS.icmpNo X0.here hx rfl (hb hby d9_20) rfl (tlt hc3).2.2.2 ?_
      refine XS.iload X0.here hx rfl (hb hby d9_23) rfl ?_
      exact k
    obtain ⟨fs, hr, hrun, hended, hW, hsame⟩ := X0.leave (v := some (.int (0 : Int32))) (fun h => by rw [Bd.returns] at h; cases h) hlk
    refine ⟨_, _, ?_, hrun, hended, _, _, rfl, ?_, ⟨_, rfl⟩, hW, hsame.mono (by decide) (by decide)⟩
    · show Steps p.tables e below (s₁.setTop (mkF m 25 #[.val (.ref a0), .val (.int (0 : Int32)), .val (.ref a2), .val (.int (0 : Int32)), .val (.int (2 : Int32)), .val (.int (0 : Int32)), .val (.int k0)] [(.int (0 : Int32))])) _
      exact own_retI X0 hx Bd.returns (hb hby d9_25) hr
    · show Qrm9_2 Z a0 a2 k0 k1 kc kb h0 n0 _ (s₁.setFrames fs).heap _
      rw [show (s₁.setFrames fs).heap = h0 from e0]
      exact ⟨N0, K0, Or.inr ⟨(0 : Int32), rfl, Or.inl ⟨rfl, hc3⟩⟩⟩
  · refine OwnGo.of (B := s₁.setTop (mkF m 31 #[.val (.ref a0), .val (.int (0 : Int32)), .val (.ref a2), .val (.int (0 : Int32)), .val (.int (2 : Int32)), .val (.int (0 : Int32)), .val (.int k0)] [(.int (k0.toInt8.toInt32)), (.int (0 : Int32)), (.ref a2)])) (fun t k => ?_) ?_
    · show Steps p.tables e below (s₁.setTop (mkF m 20 #[.val (.ref a0), .val (.int (0 : Int32)), .val (.ref a2), .val (.int (0 : Int32)), .val (.int (2 : Int32)), .val (.int (0 : Int32)), .val (.int k0)] [(.int (255 : Int32)), (.int k0)])) t
      refine XS.icmpYes X0.here hx rfl (pc0 := 20) (pc' := 26) rfl (hb hby d9_20) rfl (flt hc3).2.2.2 (by decide) (by decide) ?_
      refine XS.aloadN X0.here hx rfl (hb hby d9_26) rfl rfl ?_
      refine XS.iloadN X0.here hx rfl (hb hby d9_27) rfl ?_
      refine XS.iload X0.here hx rfl (hb hby d9_28) rfl ?_
      refine XS.i2b X0.here hx rfl (hb hby d9_30) rfl ?_
      exact k
    have cq4 := V_b
    obtain ⟨clq4, Arq4, qq4, Sq4, Nq4, Hq4, Gq4⟩ := cq4
    obtain ⟨T5, h5, X5, e5, W5, st5⟩ := stB X0 hx hZ e0 Arq4 (j := (0 : Int32)) (inb_of Sq4 ⟨by decide, by decide⟩) (g := (mkF m 31 #[.val (.ref a0), .val (.int (0 : Int32)), .val (.ref a2), .val (.int (0 : Int32)), .val (.int (2 : Int32)), .val (.int (0 : Int32)), .val (.int k0)] [(.int (k0.toInt8.toInt32)), (.int (0 : Int32)), (.ref a2)])) rfl rfl (hb hby d9_31)
    refine OwnGo.of st5 ?_
    have N5 := Fr.snoc X5 N0 g_a2
    have f6 := Nat.le_trans Z0 (Keep.of_wr W5).1
    have f7 := K0.wr W5 (Or.inl (List.mem_of_getElem? (i := 0) rfl))
    have f8 := V_a.other W5 ne1
    have f9 : Arv Z h5 a2 kb .byte (2 : Int32) [(.int ((k0.toInt8.toInt32)).toInt8.toInt32), (.int (0 : Int32))] (.int (0 : Int32)) := Arv.set Arq4 qq4 Sq4 Nq4 Hq4 Gq4 (fits_nar_byte _) W5 0 rfl (Nat.le_of_ble_eq_true rfl)
    show OwnGo p.tables e below _ (T5.setTop (mkF m 32 #[.val (.ref a0), .val (.int (0 : Int32)), .val (.ref a2), .val (.int (0 : Int32)), .val (.int (2 : Int32)), .val (.int (0 : Int32)), .val (.int k0)] []))
    refine OwnGo.of (B := T5.setTop (mkF m 7 #[.val (.ref a0), .val (.int (1 : Int32)), .val (.ref a2), .val (.int (1 : Int32)), .val (.int (2 : Int32)), .val (.int (1 : Int32)), .val (.int k0)] [(.int (2 : Int32)), (.int (1 : Int32))])) (fun t k => ?_) ?_
    · show Steps p.tables e below (T5.setTop (mkF m 32 #[.val (.ref a0), .val (.int (0 : Int32)), .val (.ref a2), .val (.int (0 : Int32)), .val (.int (2 : Int32)), .val (.int (0 : Int32)), .val (.int k0)] [])) t
      refine XS.iinc X5.here hx rfl (hb hby d9_32) rfl (l' := #[.val (.ref a0), .val (.int (1 : Int32)), .val (.ref a2), .val (.int (0 : Int32)), .val (.int (2 : Int32)), .val (.int (0 : Int32)), .val (.int k0)]) rfl ?_
      refine XS.iinc X5.here hx rfl (hb hby d9_35) rfl (l' := #[.val (.ref a0), .val (.int (1 : Int32)), .val (.ref a2), .val (.int (1 : Int32)), .val (.int (2 : Int32)), .val (.int (0 : Int32)), .val (.int k0)]) rfl ?_
      refine XS.iinc X5.here hx rfl (hb hby d9_38) rfl (l' := #[.val (.ref a0), .val (.int (1 : Int32)), .val (.ref a2), .val (.int (1 : Int32)), .val (.int (2 : Int32)), .val (.int (1 : Int32)), .val (.int k0)]) rfl ?_
      refine XS.goto X5.here hx rfl (pc0 := 41) (pc' := 3) rfl (hb hby d9_41) (by decide) (by decide) ?_
      refine XS.iload X5.here hx rfl (hb hby d9_3) rfl ?_
      refine XS.iload X5.here hx rfl (hb hby d9_5) rfl ?_
      exact k
    have hc10 : (1 : Int32) < (2 : Int32) := by decide
    refine OwnGo.of (B := T5.setTop (mkF m 12 #[.val (.ref a0), .val (.int (1 : Int32)), .val (.ref a2), .val (.int (1 : Int32)), .val (.int (2 : Int32)), .val (.int (1 : Int32)), .val (.int k0)] [(.int (1 : Int32)), (.ref a0)])) (fun t k => ?_) ?_
    · show Steps p.tables e below (T5.setTop (mkF m 7 #[.val (.ref a0), .val (.int (1 : Int32)), .val (.ref a2), .val (.int (1 : Int32)), .val (.int (2 : Int32)), .val (.int (1 : Int32)), .val (.int k0)] [(.int (2 : Int32)), (.int (1 : Int32))])) t
      refine XS.icmpNo X5.here hx rfl (hb hby d9_7) rfl (tlt hc10).2.1 ?_
      refine XS.aloadN X5.here hx rfl (hb hby d9_10) rfl rfl ?_
      refine XS.iloadN X5.here hx rfl (hb hby d9_11) rfl ?_
      exact k
    have cq11 := f8
    obtain ⟨clq11, Arq11, qq11, Sq11, Nq11, Hq11, Gq11⟩ := cq11
    have hinq11 := inb_of (j := (1 : Int32)) Sq11 ⟨by decide, by decide⟩
    refine OwnGo.of (X5.caload hx (j := (1 : Int32)) (v := (.int k1)) (by rw [e5]; exact Arq11.1) (State.isArrayOf_alike hZ.alike Arq11.2.1) Arq11.2.2 hinq11 (Hq11.at hinq11 rfl) (g := (mkF m 12 #[.val (.ref a0), .val (.int (1 : Int32)), .val (.ref a2), .val (.int (1 : Int32)), .val (.int (2 : Int32)), .val (.int (1 : Int32)), .val (.int k0)] [(.int (1 : Int32)), (.ref a0)])) rfl rfl (hb hby d9_12)) ?_
    show OwnGo p.tables e below _ (T5.setTop (mkF m 13 #[.val (.ref a0), .val (.int (1 : Int32)), .val (.ref a2), .val (.int (1 : Int32)), .val (.int (2 : Int32)), .val (.int (1 : Int32)), .val (.int k0)] [(.int k1)]))
    refine OwnGo.of (B := T5.setTop (mkF m 20 #[.val (.ref a0), .val (.int (1 : Int32)), .val (.ref a2), .val (.int (1 : Int32)), .val (.int (2 : Int32)), .val (.int (1 : Int32)), .val (.int k1)] [(.int (255 : Int32)), (.int k1)])) (fun t k => ?_) ?_
    · show Steps p.tables e below (T5.setTop (mkF m 13 #[.val (.ref a0), .val (.int (1 : Int32)), .val (.ref a2), .val (.int (1 : Int32)), .val (.int (2 : Int32)), .val (.int (1 : Int32)), .val (.int k0)] [(.int k1)])) t
      refine XS.istore X5.here hx rfl (hb hby d9_13) rfl (l' := #[.val (.ref a0), .val (.int (1 : Int32)), .val (.ref a2), .val (.int (1 : Int32)), .val (.int (2 : Int32)), .val (.int (1 : Int32)), .val (.int k1)]) rfl ?_
      refine XS.iload X5.here hx rfl (hb hby d9_15) rfl ?_
      refine XS.sipush X5.here hx rfl (hb hby d9_17) ?_
      exact k
    by_cases hc12 : (255 : Int32) < k1
    · refine OwnGo.of (B := T5.setTop (mkF m 25 #[.val (.ref a0), .val (.int (1 : Int32)), .val (.ref a2), .val (.int (1 : Int32)), .val (.int (2 : Int32)), .val (.int (1 : Int32)), .val (.int k1)] [(.int (1 : Int32))])) (fun t k => ?_) ?_
      · show Steps p.tables e below (T5.setTop (mkF m 20 #[.val (.ref a0), .val (.int (1 : Int32)), .val (.ref a2), .val (.int (1 : Int32)), .val (.int (2 : Int32)), .val (.int (1 : Int32)), .val (.int k1)] [(.int (255 : Int32)), (.int k1)])) t
        refine XS.icmpNo X5.here hx rfl (hb hby d9_20) rfl (tlt hc12).2.2.2 ?_
        refine XS.iload X5.here hx rfl (hb hby d9_23) rfl ?_
        exact k
      obtain ⟨fs, hr, hrun, hended, hW, hsame⟩ := X5.leave (v := some (.int (1 : Int32))) (fun h => by rw [Bd.returns] at h; cases h) hlk
      refine ⟨_, _, ?_, hrun, hended, _, _, rfl, ?_, ⟨_, rfl⟩, hW, hsame.mono (by decide) (by decide)⟩
      · show Steps p.tables e below (T5.setTop (mkF m 25 #[.val (.ref a0), .val (.int (1 : Int32)), .val (.ref a2), .val (.int (1 : Int32)), .val (.int (2 : Int32)), .val (.int (1 : Int32)), .val (.int k1)] [(.int (1 : Int32))])) _
        exact own_retI X5 hx Bd.returns (hb hby d9_25) hr
      · show Qrm9_2 Z a0 a2 k0 k1 kc kb h0 n0 _ (T5.setFrames fs).heap _
        rw [show (T5.setFrames fs).heap = h5 from e5]
        exact ⟨N5, f7, Or.inr ⟨(1 : Int32), rfl, Or.inr (⟨rfl, hc12⟩)⟩⟩
    · refine OwnGo.of (B := T5.setTop (mkF m 31 #[.val (.ref a0), .val (.int (1 : Int32)), .val (.ref a2), .val (.int (1 : Int32)), .val (.int (2 : Int32)), .val (.int (1 : Int32)), .val (.int k1)] [(.int (k1.toInt8.toInt32)), (.int (1 : Int32)), (.ref a2)])) (fun t k => ?_) ?_
      · show Steps p.tables e below (T5.setTop (mkF m 20 #[.val (.ref a0), .val (.int (1 : Int32)), .val (.ref a2), .val (.int (1 : Int32)), .val (.int (2 : Int32)), .val (.int (1 : Int32)), .val (.int k1)] [(.int (255 : Int32)), (.int k1)])) t
        refine XS.icmpYes X5.here hx rfl (pc0 := 20) (pc' := 26) rfl (hb hby d9_20) rfl (flt hc12).2.2.2 (by decide) (by decide) ?_
        refine XS.aloadN X5.here hx rfl (hb hby d9_26) rfl rfl ?_
        refine XS.iloadN X5.here hx rfl (hb hby d9_27) rfl ?_
        refine XS.iload X5.here hx rfl (hb hby d9_28) rfl ?_
        refine XS.i2b X5.here hx rfl (hb hby d9_30) rfl ?_
        exact k
      have cq13 := f9
      obtain ⟨clq13, Arq13, qq13, Sq13, Nq13, Hq13, Gq13⟩ := cq13
      obtain ⟨T14, h14, X14, e14, W14, st14⟩ := stB X5 hx hZ e5 Arq13 (j := (1 : Int32)) (inb_of Sq13 ⟨by decide, by decide⟩) (g := (mkF m 31 #[.val (.ref a0), .val (.int (1 : Int32)), .val (.ref a2), .val (.int (1 : Int32)), .val (.int (2 : Int32)), .val (.int (1 : Int32)), .val (.int k1)] [(.int (k1.toInt8.toInt32)), (.int (1 : Int32)), (.ref a2)])) rfl rfl (hb hby d9_31)
      refine OwnGo.of st14 ?_
      have N14 := Fr.snoc X14 N5 g_a2
      have f15 := Nat.le_trans f6 (Keep.of_wr W14).1
      have f16 := f7.wr W14 (Or.inl (List.mem_of_getElem? (i := 0) rfl))
      have f17 := f8.other W14 ne1
      have f18 : Arv Z h14 a2 kb .byte (2 : Int32) [(.int ((k0.toInt8.toInt32)).toInt8.toInt32), (.int ((k1.toInt8.toInt32)).toInt8.toInt32)] (.int (0 : Int32)) := Arv.set Arq13 qq13 Sq13 Nq13 Hq13 Gq13 (fits_nar_byte _) W14 1 rfl (Nat.le_of_ble_eq_true rfl)
      show OwnGo p.tables e below _ (T14.setTop (mkF m 32 #[.val (.ref a0), .val (.int (1 : Int32)), .val (.ref a2), .val (.int (1 : Int32)), .val (.int (2 : Int32)), .val (.int (1 : Int32)), .val (.int k1)] []))
      refine OwnGo.of (B := T14.setTop (mkF m 7 #[.val (.ref a0), .val (.int (2 : Int32)), .val (.ref a2), .val (.int (2 : Int32)), .val (.int (2 : Int32)), .val (.int (2 : Int32)), .val (.int k1)] [(.int (2 : Int32)), (.int (2 : Int32))])) (fun t k => ?_) ?_
      · show Steps p.tables e below (T14.setTop (mkF m 32 #[.val (.ref a0), .val (.int (1 : Int32)), .val (.ref a2), .val (.int (1 : Int32)), .val (.int (2 : Int32)), .val (.int (1 : Int32)), .val (.int k1)] [])) t
        refine XS.iinc X14.here hx rfl (hb hby d9_32) rfl (l' := #[.val (.ref a0), .val (.int (2 : Int32)), .val (.ref a2), .val (.int (1 : Int32)), .val (.int (2 : Int32)), .val (.int (1 : Int32)), .val (.int k1)]) rfl ?_
        refine XS.iinc X14.here hx rfl (hb hby d9_35) rfl (l' := #[.val (.ref a0), .val (.int (2 : Int32)), .val (.ref a2), .val (.int (2 : Int32)), .val (.int (2 : Int32)), .val (.int (1 : Int32)), .val (.int k1)]) rfl ?_
        refine XS.iinc X14.here hx rfl (hb hby d9_38) rfl (l' := #[.val (.ref a0), .val (.int (2 : Int32)), .val (.ref a2), .val (.int (2 : Int32)), .val (.int (2 : Int32)), .val (.int (2 : Int32)), .val (.int k1)]) rfl ?_
        refine XS.goto X14.here hx rfl (pc0 := 41) (pc' := 3) rfl (hb hby d9_41) (by decide) (by decide) ?_
        refine XS.iload X14.here hx rfl (hb hby d9_3) rfl ?_
        refine XS.iload X14.here hx rfl (hb hby d9_5) rfl ?_
        exact k
      have hc19 : ¬ ((2 : Int32) < (2 : Int32)) := by decide
      refine OwnGo.of (B := T14.setTop (mkF m 46 #[.val (.ref a0), .val (.int (2 : Int32)), .val (.ref a2), .val (.int (2 : Int32)), .val (.int (2 : Int32)), .val (.int (2 : Int32)), .val (.int k1)] [(.int (2 : Int32))])) (fun t k => ?_) ?_
      · show Steps p.tables e below (T14.setTop (mkF m 7 #[.val (.ref a0), .val (.int (2 : Int32)), .val (.ref a2), .val (.int (2 : Int32)), .val (.int (2 : Int32)), .val (.int (2 : Int32)), .val (.int k1)] [(.int (2 : Int32)), (.int (2 : Int32))])) t
        refine XS.icmpYes X14.here hx rfl (pc0 := 7) (pc' := 44) rfl (hb hby d9_7) rfl (flt hc19).2.1 (by decide) (by decide) ?_
        refine XS.iload X14.here hx rfl (hb hby d9_44) rfl ?_
        exact k
      obtain ⟨fs, hr, hrun, hended, hW, hsame⟩ := X14.leave (v := some (.int (2 : Int32))) (fun h => by rw [Bd.returns] at h; cases h) hlk
      refine ⟨_, _, ?_, hrun, hended, _, _, rfl, ?_, ⟨_, rfl⟩, hW, hsame.mono (by decide) (by decide)⟩
      · show Steps p.tables e below (T14.setTop (mkF m 46 #[.val (.ref a0), .val (.int (2 : Int32)), .val (.ref a2), .val (.int (2 : Int32)), .val (.int (2 : Int32)), .val (.int (2 : Int32)), .val (.int k1)] [(.int (2 : Int32))])) _
        exact own_retI X14 hx Bd.returns (hb hby d9_46) hr
      · show Qrm9_2 Z a0 a2 k0 k1 kc kb h0 n0 _ (T14.setFrames fs).heap _
        rw [show (T14.setFrames fs).heap = h14 from e14]
        have fz := f18
        rw [own_ll, own_ll] at fz
        exact ⟨N14, f16, Or.inl ⟨rfl, (own_hS hc3 (own_hS hc12 own_h0)), fz⟩⟩
theorem ef_rm28_3 (m : MethodId)  : entryFrame m #[(.int (3 : Int32))] 1 = mkF m 0 #[.val (.int (3 : Int32))] [] := by first | (simp [entryFrame, mkF, argsToLocals, Value.category]; done) | rfl
def Qrm28_3 (Z : State)  (h0 : Heap) (n0 : Nat) (v : Option Value) (h : Heap) (L : List Loc) : Prop := v = some (.int (6 : Int32)) ∧ Fr n0 L ∧ h = h0
set_option maxRecDepth 65536 in
set_option maxHeartbeats 40000000 in
theorem rm28_3 (l : Launch) (Z : State) (aw : Array Value) (hw : ∀ d ∈ tables_1, d.before aw Z = true) (ws : List Jvm.Cond)  (h0 : Heap) (n0 : Nat) (Z0 : n0 ≤ h0.size) :
    MetFree l (⟨"java/lang/StringUTF16", "newBytesLength", "(I)I"⟩ : MethodName) (head1 (Jvm.Cond.code (⟨"java/lang/StringUTF16", "newBytesLength", "(I)I"⟩ : MethodName) jdk_52_method_3_code 1 (some .int) :: ws) ({ frames := 0, cells := 0, slots := 0, locals := 0 } : Room)) (fun a U => a = #[(.int (3 : Int32))] ∧ Z.Warmed39 U.vm ∧ U.heap = h0) (fun _ _ _ _ _ => True) (fun _ U o U' => ∃ v L, o = .returned v ∧ Qrm28_3 Z  h0 n0 v U'.heap L ∧ FrameEnd U o U' L ({ frames := 0, cells := 0, slots := 0, locals := 0 } : Room).cells ({ frames := 0, cells := 0, slots := 0, locals := 0 } : Room).slots) := by
  refine MetFree.of_bodySF (plainFor_of_name pn_60) hisR ?_
  intro p e s m args below meth c s₁ Bd hml0 hP hK
  obtain ⟨rfl, hZ, hh⟩ := hP
  have hx := Bd.exec
  have hby := Bd.bytes
  have hml : c.maxLocals = 1 := hml0
  have hown : s.vm.findClass "java/lang/StringUTF16" = some m.cls := findClass_of_methodNamed Bd.named
  have hnm := (name_of_methodNamed Bd.named Bd.method).1
  have X0 : Stand p l e ({ frames := 0, cells := 0, slots := 0, locals := 0 } : Room) s m #[(.int (3 : Int32))] below meth c s₁ [] 0 0 := Stand.of_body Bd
  have e0 : s₁.heap = h0 := by rw [← hh, Bd.state]; rfl
  have N0 := Fr.nil n0
  have hlk := Bd.notSynchronized
  show OwnGo p.tables e below _ (s₁.setTop (entryFrame m #[(.int (3 : Int32))] 1))
  rw [ef_rm28_3 m ]
  show OwnGo p.tables e below _ (s₁.setTop (mkF m 0 #[.val (.int (3 : Int32))] []))
  refine OwnGo.of (B := s₁.setTop (mkF m 1 #[.val (.int (3 : Int32))] [(.int (3 : Int32))])) (fun t k => ?_) ?_
  · show Steps p.tables e below (s₁.setTop (mkF m 0 #[.val (.int (3 : Int32))] [])) t
    refine XS.iloadN X0.here hx rfl (hb hby d28_0) rfl ?_
    exact k
  have hc1 : ¬ ((3 : Int32) < (0 : Int32)) := by decide
  refine OwnGo.of (B := s₁.setTop (mkF m 15 #[.val (.int (3 : Int32))] [(.int (1073741823 : Int32)), (.int (3 : Int32))])) (fun t k => ?_) ?_
  · show Steps p.tables e below (s₁.setTop (mkF m 1 #[.val (.int (3 : Int32))] [(.int (3 : Int32))])) t
    refine XS.ifYes X0.here hx rfl (pc0 := 1) (pc' := 12) rfl (hb hby d28_1) rfl ((if0 _ _).trans (flt hc1).2.1) (by decide) (by decide) ?_
    refine XS.iloadN X0.here hx rfl (hb hby d28_12) rfl ?_
    refine X0.ldcInt hx hown (mvT hZ (w122 hw)) (g := (mkF m 13 #[.val (.int (3 : Int32))] [(.int (3 : Int32))])) rfl (hb hby d28_13) _ ?_
    exact k
  have hc2 : (3 : Int32) < (1073741823 : Int32) := by decide
  refine OwnGo.of (B := s₁.setTop (mkF m 58 #[.val (.int (3 : Int32))] [(.int (6 : Int32))])) (fun t k => ?_) ?_
  · show Steps p.tables e below (s₁.setTop (mkF m 15 #[.val (.int (3 : Int32))] [(.int (1073741823 : Int32)), (.int (3 : Int32))])) t
    refine XS.icmpYes X0.here hx rfl (pc0 := 15) (pc' := 55) rfl (hb hby d28_15) rfl (tlt hc2).1 (by decide) (by decide) ?_
    refine XS.iloadN X0.here hx rfl (hb hby d28_55) rfl ?_
    refine XS.iconst X0.here hx rfl (hb hby d28_56) ?_
    refine XS.ishl X0.here hx rfl (hb hby d28_57) rfl ?_
    exact k
  obtain ⟨fs, hr, hrun, hended, hW, hsame⟩ := X0.leave (v := some (.int (6 : Int32))) (fun h => by rw [Bd.returns] at h; cases h) hlk
  refine ⟨_, _, ?_, hrun, hended, _, _, rfl, ?_, ⟨_, rfl⟩, hW, hsame.mono (by decide) (by decide)⟩
  · show Steps p.tables e below (s₁.setTop (mkF m 58 #[.val (.int (3 : Int32))] [(.int (6 : Int32))])) _
    exact own_retI X0 hx Bd.returns (hb hby d28_58) hr
  · show Qrm28_3 Z  h0 n0 _ (s₁.setFrames fs).heap _
    rw [show (s₁.setFrames fs).heap = h0 from e0]
    exact ⟨rfl, N0, rfl⟩
theorem ef_rm27_3 (m : MethodId)  : entryFrame m #[(.int (3 : Int32))] 1 = mkF m 0 #[.val (.int (3 : Int32))] [] := by first | (simp [entryFrame, mkF, argsToLocals, Value.category]; done) | rfl
def Qrm27_3 (Z : State)  (h0 : Heap) (n0 : Nat) (v : Option Value) (h : Heap) (L : List Loc) : Prop := Fr n0 L ∧ Keep h0 h [] ∧ ∃ (y : Addr) (k : ClassId), v = some (.ref y) ∧ Arv Z h y k .byte (6 : Int32) [(.int (0 : Int32)), (.int (0 : Int32)), (.int (0 : Int32)), (.int (0 : Int32)), (.int (0 : Int32)), (.int (0 : Int32))] (.int (0 : Int32)) ∧ h0.size ≤ y
set_option maxRecDepth 65536 in
set_option maxHeartbeats 40000000 in
theorem rm27_3 (l : Launch) (Z : State) (aw : Array Value) (hw : ∀ d ∈ tables_1, d.before aw Z = true) (ws : List Jvm.Cond)  (h0 : Heap) (n0 : Nat) (Z0 : n0 ≤ h0.size) :
    MetFree l (⟨"java/lang/StringUTF16", "newBytesFor", "(I)[B"⟩ : MethodName) (head1 (Jvm.Cond.code (⟨"java/lang/StringUTF16", "newBytesFor", "(I)[B"⟩ : MethodName) jdk_52_method_2_code 1 (some (.array .byte)) :: ws) ({ frames := 1, cells := 1, slots := 6, locals := 12 } : Room)) (fun a U => a = #[(.int (3 : Int32))] ∧ Z.Warmed39 U.vm ∧ U.heap = h0) (fun _ _ _ _ _ => True) (fun _ U o U' => ∃ v L, o = .returned v ∧ Qrm27_3 Z  h0 n0 v U'.heap L ∧ FrameEnd U o U' L ({ frames := 1, cells := 1, slots := 6, locals := 12 } : Room).cells ({ frames := 1, cells := 1, slots := 6, locals := 12 } : Room).slots) := by
  refine MetFree.of_bodySF (plainFor_of_name pn_60) hisR ?_
  intro p e s m args below meth c s₁ Bd hml0 hP hK
  obtain ⟨rfl, hZ, hh⟩ := hP
  have hx := Bd.exec
  have hby := Bd.bytes
  have hml : c.maxLocals = 1 := hml0
  have hown : s.vm.findClass "java/lang/StringUTF16" = some m.cls := findClass_of_methodNamed Bd.named
  have hnm := (name_of_methodNamed Bd.named Bd.method).1
  have X0 : Stand p l e ({ frames := 1, cells := 1, slots := 6, locals := 12 } : Room) s m #[(.int (3 : Int32))] below meth c s₁ [] 0 0 := Stand.of_body Bd
  have e0 : s₁.heap = h0 := by rw [← hh, Bd.state]; rfl
  have N0 := Fr.nil n0
  have hlk := Bd.notSynchronized
  show OwnGo p.tables e below _ (s₁.setTop (entryFrame m #[(.int (3 : Int32))] 1))
  rw [ef_rm27_3 m ]
  have K0 : Keep h0 h0 [] := Keep.refl _ _
  show OwnGo p.tables e below _ (s₁.setTop (mkF m 0 #[.val (.int (3 : Int32))] []))
  refine OwnGo.of (B := s₁.setTop (mkF m 1 #[.val (.int (3 : Int32))] [(.int (3 : Int32))])) (fun t k => ?_) ?_
  · show Steps p.tables e below (s₁.setTop (mkF m 0 #[.val (.int (3 : Int32))] [])) t
    refine XS.iloadN X0.here hx rfl (hb hby d27_0) rfl ?_
    exact k
  obtain ⟨T1, L1, v1, X1, hQ1, st1⟩ := own_callS X0 hx (y := (⟨"java/lang/StringUTF16", "newBytesLength", "(I)I"⟩ : MethodName)) hown (mvT hZ (w119 hw)) (mvT hZ (w120 hw)) (mvT hZ (w42 hw)) (mvT hZ (w121 hw)) (by decide) (backOf (W := 0) (rm28_3 l Z aw hw []   h0 n0 Z0 ) hZ (w121 hw) (w42 hw) (by decide) (by decide)) (g := (mkF m 1 #[.val (.int (3 : Int32))] [(.int (3 : Int32))])) rfl (by rw [hml]; rfl) (argsL := [(.int (3 : Int32))]) (rest := []) (lenOf pd_87 rfl) rfl (by show 2 * 0 + _ ≤ _; exact Nat.le_of_eq rfl) (hb hby d27_1) rfl e0 (by decide) (by decide)
  obtain ⟨rfl, N1q, eq1⟩ := hQ1
  have N1 := Fr.app N0 N1q
  refine OwnGo.of st1 ?_
  show OwnGo p.tables e below _ (T1.setTop (mkF m 4 #[.val (.int (3 : Int32))] [(.int (6 : Int32))]))
  obtain ⟨T2, h2, kq2, X2, e2, E2, A2, st2⟩ := newP (aty := .byte) X1 hx hZ (w20 hw) eq1 (g := (mkF m 4 #[.val (.int (3 : Int32))] [(.int (6 : Int32))])) rfl (hb hby d27_4) rfl (by decide) (cap := 6) (by decide) (by decide) (by decide) (by decide)
  obtain ⟨b2, g2⟩ : ∃ z, z = h0.size := ⟨_, rfl⟩
  rw [← g2] at A2 st2
  refine OwnGo.of st2 ?_
  have g_b2 : n0 ≤ b2 := Nat.le_trans Z0 (Nat.le_of_eq g2.symm)
  have sz_b2 : h0.size ≤ b2 := Nat.le_trans K0.1 (Nat.le_of_eq g2.symm)
  have f3 := Nat.le_trans Z0 E2.1
  have f4 := K0.ext E2
  have f5 : Arv Z h2 b2 kq2 .byte (6 : Int32) [(.int (0 : Int32)), (.int (0 : Int32)), (.int (0 : Int32)), (.int (0 : Int32)), (.int (0 : Int32)), (.int (0 : Int32))] (.int (0 : Int32)) := (Arv.new A2 (by decide)).pad (pad_rep [] (.int (0 : Int32)) 6)
  show OwnGo p.tables e below _ (T2.setTop (mkF m 6 #[.val (.int (3 : Int32))] [(.ref b2)]))
  obtain ⟨fs, hr, hrun, hended, hW, hsame⟩ := X2.leave (v := some (.ref b2)) (fun h => by rw [Bd.returns] at h; cases h) hlk
  refine ⟨_, _, ?_, hrun, hended, _, _, rfl, ?_, ⟨_, rfl⟩, hW, hsame.mono (by decide) (by decide)⟩
  · show Steps p.tables e below (T2.setTop (mkF m 6 #[.val (.int (3 : Int32))] [(.ref b2)])) _
    exact own_retA X2 hx Bd.returns rfl rfl rfl (hb hby d27_6) hr
  · show Qrm27_3 Z  h0 n0 _ (T2.setFrames fs).heap _
    rw [show (T2.setFrames fs).heap = h2 from e2]
    exact ⟨N1, f4, b2, _, rfl, f5, sz_b2⟩
theorem ef_rm26_3 (m : MethodId) (a0 : Addr) : entryFrame m #[(.ref a0), (.int (0 : Int32)), (.int (3 : Int32))] 5 = mkF m 0 #[.val (.ref a0), .val (.int (0 : Int32)), .val (.int (3 : Int32)), .unset, .unset] [] := by first | (simp [entryFrame, mkF, argsToLocals, Value.category]; done) | rfl
def Qrm26_3 (Z : State) (a0 : Addr) (k0 : Int32) (k1 : Int32) (k2 : Int32) (kc : ClassId) (h0 : Heap) (n0 : Nat) (v : Option Value) (h : Heap) (L : List Loc) : Prop := Fr n0 L ∧ Keep h0 h [] ∧ ∃ (y : Addr) (k : ClassId), v = some (.ref y) ∧ Arv Z h y k .byte (6 : Int32) (StrChars.Road.wideBytes ([k0, k1, k2] : List Int32)) (.int (0 : Int32)) ∧ h0.size ≤ y
set_option maxRecDepth 65536 in
set_option maxHeartbeats 40000000 in
theorem rm26_3 (l : Launch) (Z : State) (aw : Array Value) (hw : ∀ d ∈ tables_1, d.before aw Z = true) (ws : List Jvm.Cond) (a0 : Addr) (k0 : Int32) (k1 : Int32) (k2 : Int32) (kc : ClassId) (h0 : Heap) (n0 : Nat) (Z0 : n0 ≤ h0.size) (V_a : Arv Z h0 a0 kc .char (3 : Int32) [(.int k0), (.int k1), (.int k2)] (.int (0 : Int32))) (S__assertionsDisabled : Sta Z h0 "java/lang/StringUTF16" "$assertionsDisabled" "Z" (.int (1 : Int32))) (S_HI_BYTE_SHIFT : Sta Z h0 "java/lang/StringUTF16" "HI_BYTE_SHIFT" "I" (.int (0 : Int32))) (S_LO_BYTE_SHIFT : Sta Z h0 "java/lang/StringUTF16" "LO_BYTE_SHIFT" "I" (.int (8 : Int32))) :
    MetFree l (⟨"java/lang/StringUTF16", "toBytes", "([CII)[B"⟩ : MethodName) (head1 (Jvm.Cond.code (⟨"java/lang/StringUTF16", "toBytes", "([CII)[B"⟩ : MethodName) jdk_52_method_14_code 5 (some (.array .byte)) :: ws) ({ frames := 2, cells := 1, slots := 6, locals := 24 } : Room)) (fun a U => a = #[(.ref a0), (.int (0 : Int32)), (.int (3 : Int32))] ∧ Z.Warmed39 U.vm ∧ U.heap = h0) (fun _ _ _ _ _ => True) (fun _ U o U' => ∃ v L, o = .returned v ∧ Qrm26_3 Z a0 k0 k1 k2 kc h0 n0 v U'.heap L ∧ FrameEnd U o U' L ({ frames := 2, cells := 1, slots := 6, locals := 24 } : Room).cells ({ frames := 2, cells := 1, slots := 6, locals := 24 } : Room).slots) := by
  refine MetFree.of_bodySF (plainFor_of_name pn_60) hisR ?_
  intro p e s m args below meth c s₁ Bd hml0 hP hK
  obtain ⟨rfl, hZ, hh⟩ := hP
  have hx := Bd.exec
  have hby := Bd.bytes
  have hml : c.maxLocals = 5 := hml0
  have hown : s.vm.findClass "java/lang/StringUTF16" = some m.cls := findClass_of_methodNamed Bd.named
  have hnm := (name_of_methodNamed Bd.named Bd.method).1
  have X0 : Stand p l e ({ frames := 2, cells := 1, slots := 6, locals := 24 } : Room) s m #[(.ref a0), (.int (0 : Int32)), (.int (3 : Int32))] below meth c s₁ [] 0 0 := Stand.of_body Bd
  have e0 : s₁.heap = h0 := by rw [← hh, Bd.state]; rfl
  have N0 := Fr.nil n0
  have hlk := Bd.notSynchronized
  show OwnGo p.tables e below _ (s₁.setTop (entryFrame m #[(.ref a0), (.int (0 : Int32)), (.int (3 : Int32))] 5))
  rw [ef_rm26_3 m a0]
  have K0 : Keep h0 h0 [] := Keep.refl _ _
  show OwnGo p.tables e below _ (s₁.setTop (mkF m 0 #[.val (.ref a0), .val (.int (0 : Int32)), .val (.int (3 : Int32)), .unset, .unset] []))
  refine OwnGo.of (B := s₁.setTop (mkF m 1 #[.val (.ref a0), .val (.int (0 : Int32)), .val (.int (3 : Int32)), .unset, .unset] [(.int (3 : Int32))])) (fun t k => ?_) ?_
  · show Steps p.tables e below (s₁.setTop (mkF m 0 #[.val (.ref a0), .val (.int (0 : Int32)), .val (.int (3 : Int32)), .unset, .unset] [])) t
    refine XS.iloadN X0.here hx rfl (hb hby d26_0) rfl ?_
    exact k
  obtain ⟨T1, L1, v1, X1, hQ1, st1⟩ := own_callS X0 hx (y := (⟨"java/lang/StringUTF16", "newBytesFor", "(I)[B"⟩ : MethodName)) hown (mvT hZ (w116 hw)) (mvT hZ (w117 hw)) (mvT hZ (w42 hw)) (mvT hZ (w118 hw)) (by decide) (backOf (W := 0) (rm27_3 l Z aw hw []   h0 n0 Z0 ) hZ (w118 hw) (w42 hw) (by decide) (by decide)) (g := (mkF m 1 #[.val (.ref a0), .val (.int (0 : Int32)), .val (.int (3 : Int32)), .unset, .unset] [(.int (3 : Int32))])) rfl (by rw [hml]; rfl) (argsL := [(.int (3 : Int32))]) (rest := []) (lenOf pd_92 rfl) rfl (by show 2 * 0 + _ ≤ _; exact Nat.le_of_eq rfl) (hb hby d26_1) rfl e0 (by decide) (by decide)
  obtain ⟨N1q, K1, y1, kq1, rfl, A1, gy1⟩ := hQ1
  have ne_a0_y1 : a0 ≠ y1 := Nat.ne_of_lt (Nat.lt_of_lt_of_le V_a.lt gy1)
  have g_y1 : n0 ≤ y1 := Nat.le_trans Z0 gy1
  have sz_y1 : h0.size ≤ y1 := Nat.le_trans K0.1 gy1
  have f2 := Nat.le_trans Z0 K1.1
  have f3 := K0.trans K1 all0
  have f4 := own_sta_keep S__assertionsDisabled K1 all0
  have f5 := own_sta_keep S_HI_BYTE_SHIFT K1 all0
  have f6 := own_sta_keep S_LO_BYTE_SHIFT K1 all0
  have f7 := V_a.keep K1 nin0
  have f8 : Arv Z T1.heap y1 kq1 .byte (6 : Int32) [(.int (0 : Int32)), (.int (0 : Int32)), (.int (0 : Int32)), (.int (0 : Int32)), (.int (0 : Int32)), (.int (0 : Int32))] (.int (0 : Int32)) := A1
  have N1 := Fr.app N0 N1q
  refine OwnGo.of st1 ?_
  show OwnGo p.tables e below _ (T1.setTop (mkF m 4 #[.val (.ref a0), .val (.int (0 : Int32)), .val (.int (3 : Int32)), .unset, .unset] [(.ref y1)]))
  refine OwnGo.of (B := T1.setTop (mkF m 11 #[.val (.ref a0), .val (.int (0 : Int32)), .val (.int (3 : Int32)), .val (.ref y1), .val (.int (0 : Int32))] [(.int (3 : Int32)), (.int (0 : Int32))])) (fun t k => ?_) ?_
  · show Steps p.tables e below (T1.setTop (mkF m 4 #[.val (.ref a0), .val (.int (0 : Int32)), .val (.int (3 : Int32)), .unset, .unset] [(.ref y1)])) t
    refine XS.astoreN X1.here hx rfl (hb hby d26_4) rfl rfl (l' := #[.val (.ref a0), .val (.int (0 : Int32)), .val (.int (3 : Int32)), .val (.ref y1), .unset]) rfl ?_
    refine XS.iconst X1.here hx rfl (hb hby d26_5) ?_
    refine XS.istore X1.here hx rfl (hb hby d26_6) rfl (l' := #[.val (.ref a0), .val (.int (0 : Int32)), .val (.int (3 : Int32)), .val (.ref y1), .val (.int (0 : Int32))]) rfl ?_
    refine XS.iload X1.here hx rfl (hb hby d26_8) rfl ?_
    refine XS.iloadN X1.here hx rfl (hb hby d26_10) rfl ?_
    exact k
  have hc9 : (0 : Int32) < (3 : Int32) := by decide
  refine OwnGo.of (B := T1.setTop (mkF m 19 #[.val (.ref a0), .val (.int (0 : Int32)), .val (.int (3 : Int32)), .val (.ref y1), .val (.int (0 : Int32))] [(.int (0 : Int32)), (.ref a0), (.int (0 : Int32)), (.ref y1)])) (fun t k => ?_) ?_
  · show Steps p.tables e below (T1.setTop (mkF m 11 #[.val (.ref a0), .val (.int (0 : Int32)), .val (.int (3 : Int32)), .val (.ref y1), .val (.int (0 : Int32))] [(.int (3 : Int32)), (.int (0 : Int32))])) t
    refine XS.icmpNo X1.here hx rfl (hb hby d26_11) rfl (tlt hc9).2.1 ?_
    refine XS.aloadN X1.here hx rfl (hb hby d26_14) rfl rfl ?_
    refine XS.iload X1.here hx rfl (hb hby d26_15) rfl ?_
    refine XS.aloadN X1.here hx rfl (hb hby d26_17) rfl rfl ?_
    refine XS.iloadN X1.here hx rfl (hb hby d26_18) rfl ?_
    exact k
  have cq10 := f7
  obtain ⟨clq10, Arq10, qq10, Sq10, Nq10, Hq10, Gq10⟩ := cq10
  have hinq10 := inb_of (j := (0 : Int32)) Sq10 ⟨by decide, by decide⟩
  refine OwnGo.of (X1.caload hx (j := (0 : Int32)) (v := (.int k0)) Arq10.1 (State.isArrayOf_alike hZ.alike Arq10.2.1) Arq10.2.2 hinq10 (Hq10.at hinq10 rfl) (g := (mkF m 19 #[.val (.ref a0), .val (.int (0 : Int32)), .val (.int (3 : Int32)), .val (.ref y1), .val (.int (0 : Int32))] [(.int (0 : Int32)), (.ref a0), (.int (0 : Int32)), (.ref y1)])) rfl rfl (hb hby d26_19)) ?_
  show OwnGo p.tables e below _ (T1.setTop (mkF m 20 #[.val (.ref a0), .val (.int (0 : Int32)), .val (.int (3 : Int32)), .val (.ref y1), .val (.int (0 : Int32))] [(.int k0), (.int (0 : Int32)), (.ref y1)]))
  obtain ⟨T11, L11, v11, X11, hQ11, st11⟩ := own_callS X1 hx (y := (⟨"java/lang/StringUTF16", "putChar", "([BII)V"⟩ : MethodName)) hown (mvT hZ (w123 hw)) (mvT hZ (w124 hw)) (mvT hZ (w42 hw)) (mvT hZ (w125 hw)) (by decide) (backOf (W := 0) (rm29_0 l Z aw hw [] y1 k0 kq1 (6 : Int32) ([(.int (0 : Int32)), (.int (0 : Int32)), (.int (0 : Int32)), (.int (0 : Int32)), (.int (0 : Int32)), (.int (0 : Int32))] : List Value) T1.heap n0 f2 f8 g_y1 f4 f5 f6 (by decide) (by decide) (Nat.le_of_ble_eq_true rfl) (Nat.le_of_ble_eq_true rfl)) hZ (w125 hw) (w42 hw) (by decide) (by decide)) (g := (mkF m 20 #[.val (.ref a0), .val (.int (0 : Int32)), .val (.int (3 : Int32)), .val (.ref y1), .val (.int (0 : Int32))] [(.int k0), (.int (0 : Int32)), (.ref y1)])) rfl (by rw [hml]; rfl) (argsL := [(.ref y1), (.int (0 : Int32)), (.int k0)]) (rest := []) (lenOf pd_96 rfl) rfl (by show 2 * 0 + _ ≤ _; exact Nat.le_of_eq rfl) (hb hby d26_20) rfl rfl (by decide) (by decide)
  obtain ⟨rfl, N11q, K11, y11_0⟩ := hQ11
  have f12 := Nat.le_trans f2 K11.1
  have f13 := f3.trans K11 (allS (Or.inr sz_y1) all0)
  have f14 := own_sta_keep f4 K11 (allS (own_ns_arv f8) all0)
  have f15 := own_sta_keep f5 K11 (allS (own_ns_arv f8) all0)
  have f16 := own_sta_keep f6 K11 (allS (own_ns_arv f8) all0)
  have f17 := f7.keep K11 (ninS ne_a0_y1 nin0)
  have f18 : Arv Z T11.heap y1 kq1 .byte (6 : Int32) [(.int (StrChars.lo8 k0)), (.int (StrChars.hi8 k0)), (.int (0 : Int32)), (.int (0 : Int32)), (.int (0 : Int32)), (.int (0 : Int32))] (.int (0 : Int32)) := y11_0
  have N11 := Fr.app N1 N11q
  refine OwnGo.of st11 ?_
  show OwnGo p.tables e below _ (T11.setTop (mkF m 23 #[.val (.ref a0), .val (.int (0 : Int32)), .val (.int (3 : Int32)), .val (.ref y1), .val (.int (0 : Int32))] []))
  refine OwnGo.of (B := T11.setTop (mkF m 11 #[.val (.ref a0), .val (.int (1 : Int32)), .val (.int (3 : Int32)), .val (.ref y1), .val (.int (1 : Int32))] [(.int (3 : Int32)), (.int (1 : Int32))])) (fun t k => ?_) ?_
  · show Steps p.tables e below (T11.setTop (mkF m 23 #[.val (.ref a0), .val (.int (0 : Int32)), .val (.int (3 : Int32)), .val (.ref y1), .val (.int (0 : Int32))] [])) t
    refine XS.iinc X11.here hx rfl (hb hby d26_23) rfl (l' := #[.val (.ref a0), .val (.int (1 : Int32)), .val (.int (3 : Int32)), .val (.ref y1), .val (.int (0 : Int32))]) rfl ?_
    refine XS.iinc X11.here hx rfl (hb hby d26_26) rfl (l' := #[.val (.ref a0), .val (.int (1 : Int32)), .val (.int (3 : Int32)), .val (.ref y1), .val (.int (1 : Int32))]) rfl ?_
    refine XS.goto X11.here hx rfl (pc0 := 29) (pc' := 8) rfl (hb hby d26_29) (by decide) (by decide) ?_
    refine XS.iload X11.here hx rfl (hb hby d26_8) rfl ?_
    refine XS.iloadN X11.here hx rfl (hb hby d26_10) rfl ?_
    exact k
  have hc19 : (1 : Int32) < (3 : Int32) := by decide
  refine OwnGo.of (B := T11.setTop (mkF m 19 #[.val (.ref a0), .val (.int (1 : Int32)), .val (.int (3 : Int32)), .val (.ref y1), .val (.int (1 : Int32))] [(.int (1 : Int32)), (.ref a0), (.int (1 : Int32)), (.ref y1)])) (fun t k => ?_) ?_
  · show Steps p.tables e below (T11.setTop (mkF m 11 #[.val (.ref a0), .val (.int (1 : Int32)), .val (.int (3 : Int32)), .val (.ref y1), .val (.int (1 : Int32))] [(.int (3 : Int32)), (.int (1 : Int32))])) t
    refine XS.icmpNo X11.here hx rfl (hb hby d26_11) rfl (tlt hc19).2.1 ?_
    refine XS.aloadN X11.here hx rfl (hb hby d26_14) rfl rfl ?_
    refine XS.iload X11.here hx rfl (hb hby d26_15) rfl ?_
    refine XS.aloadN X11.here hx rfl (hb hby d26_17) rfl rfl ?_
    refine XS.iloadN X11.here hx rfl (hb hby d26_18) rfl ?_
    exact k
  have cq20 := f17
  obtain ⟨clq20, Arq20, qq20, Sq20, Nq20, Hq20, Gq20⟩ := cq20
  have hinq20 := inb_of (j := (1 : Int32)) Sq20 ⟨by decide, by decide⟩
  refine OwnGo.of (X11.caload hx (j := (1 : Int32)) (v := (.int k1)) Arq20.1 (State.isArrayOf_alike hZ.alike Arq20.2.1) Arq20.2.2 hinq20 (Hq20.at hinq20 rfl) (g := (mkF m 19 #[.val (.ref a0), .val (.int (1 : Int32)), .val (.int (3 : Int32)), .val (.ref y1), .val (.int (1 : Int32))] [(.int (1 : Int32)), (.ref a0), (.int (1 : Int32)), (.ref y1)])) rfl rfl (hb hby d26_19)) ?_
  show OwnGo p.tables e below _ (T11.setTop (mkF m 20 #[.val (.ref a0), .val (.int (1 : Int32)), .val (.int (3 : Int32)), .val (.ref y1), .val (.int (1 : Int32))] [(.int k1), (.int (1 : Int32)), (.ref y1)]))
  obtain ⟨T21, L21, v21, X21, hQ21, st21⟩ := own_callS X11 hx (y := (⟨"java/lang/StringUTF16", "putChar", "([BII)V"⟩ : MethodName)) hown (mvT hZ (w123 hw)) (mvT hZ (w124 hw)) (mvT hZ (w42 hw)) (mvT hZ (w125 hw)) (by decide) (backOf (W := 0) (rm29_1 l Z aw hw [] y1 k1 kq1 (6 : Int32) ([(.int (StrChars.lo8 k0)), (.int (StrChars.hi8 k0)), (.int (0 : Int32)), (.int (0 : Int32)), (.int (0 : Int32)), (.int (0 : Int32))] : List Value) T11.heap n0 f12 f18 g_y1 f14 f15 f16 (by decide) (by decide) (Nat.le_of_ble_eq_true rfl) (Nat.le_of_ble_eq_true rfl)) hZ (w125 hw) (w42 hw) (by decide) (by decide)) (g := (mkF m 20 #[.val (.ref a0), .val (.int (1 : Int32)), .val (.int (3 : Int32)), .val (.ref y1), .val (.int (1 : Int32))] [(.int k1), (.int (1 : Int32)), (.ref y1)])) rfl (by rw [hml]; rfl) (argsL := [(.ref y1), (.int (1 : Int32)), (.int k1)]) (rest := []) (lenOf pd_96 rfl) rfl (by show 2 * 0 + _ ≤ _; exact Nat.le_of_eq rfl) (hb hby d26_20) rfl rfl (by decide) (by decide)
  obtain ⟨rfl, N21q, K21, y21_0⟩ := hQ21
  have f22 := Nat.le_trans f12 K21.1
  have f23 := f13.trans K21 (allS (Or.inr sz_y1) all0)
  have f24 := own_sta_keep f14 K21 (allS (own_ns_arv f18) all0)
  have f25 := own_sta_keep f15 K21 (allS (own_ns_arv f18) all0)
  have f26 := own_sta_keep f16 K21 (allS (own_ns_arv f18) all0)
  have f27 := f17.keep K21 (ninS ne_a0_y1 nin0)
  have f28 : Arv Z T21.heap y1 kq1 .byte (6 : Int32) [(.int (StrChars.lo8 k0)), (.int (StrChars.hi8 k0)), (.int (StrChars.lo8 k1)), (.int (StrChars.hi8 k1)), (.int (0 : Int32)), (.int (0 : Int32))] (.int (0 : Int32)) := y21_0
  have N21 := Fr.app N11 N21q
  refine OwnGo.of st21 ?_
  show OwnGo p.tables e below _ (T21.setTop (mkF m 23 #[.val (.ref a0), .val (.int (1 : Int32)), .val (.int (3 : Int32)), .val (.ref y1), .val (.int (1 : Int32))] []))
  refine OwnGo.of (B := T21.setTop (mkF m 11 #[.val (.ref a0), .val (.int (2 : Int32)), .val (.int (3 : Int32)), .val (.ref y1), .val (.int (2 : Int32))] [(.int (3 : Int32)), (.int (2 : Int32))])) (fun t k => ?_) ?_
  · show Steps p.tables e below (T21.setTop (mkF m 23 #[.val (.ref a0), .val (.int (1 : Int32)), .val (.int (3 : Int32)), .val (.ref y1), .val (.int (1 : Int32))] [])) t
    refine XS.iinc X21.here hx rfl (hb hby d26_23) rfl (l' := #[.val (.ref a0), .val (.int (2 : Int32)), .val (.int (3 : Int32)), .val (.ref y1), .val (.int (1 : Int32))]) rfl ?_
    refine XS.iinc X21.here hx rfl (hb hby d26_26) rfl (l' := #[.val (.ref a0), .val (.int (2 : Int32)), .val (.int (3 : Int32)), .val (.ref y1), .val (.int (2 : Int32))]) rfl ?_
    refine XS.goto X21.here hx rfl (pc0 := 29) (pc' := 8) rfl (hb hby d26_29) (by decide) (by decide) ?_
    refine XS.iload X21.here hx rfl (hb hby d26_8) rfl ?_
    refine XS.iloadN X21.here hx rfl (hb hby d26_10) rfl ?_
    exact k
  have hc29 : (2 : Int32) < (3 : Int32) := by decide
  refine OwnGo.of (B := T21.setTop (mkF m 19 #[.val (.ref a0), .val (.int (2 : Int32)), .val (.int (3 : Int32)), .val (.ref y1), .val (.int (2 : Int32))] [(.int (2 : Int32)), (.ref a0), (.int (2 : Int32)), (.ref y1)])) (fun t k => ?_) ?_
  · show Steps p.tables e below (T21.setTop (mkF m 11 #[.val (.ref a0), .val (.int (2 : Int32)), .val (.int (3 : Int32)), .val (.ref y1), .val (.int (2 : Int32))] [(.int (3 : Int32)), (.int (2 : Int32))])) t
    refine XS.icmpNo X21.here hx rfl (hb hby d26_11) rfl (tlt hc29).2.1 ?_
    refine XS.aloadN X21.here hx rfl (hb hby d26_14) rfl rfl ?_
    refine XS.iload X21.here hx rfl (hb hby d26_15) rfl ?_
    refine XS.aloadN X21.here hx rfl (hb hby d26_17) rfl rfl ?_
    refine XS.iloadN X21.here hx rfl (hb hby d26_18) rfl ?_
    exact k
  have cq30 := f27
  obtain ⟨clq30, Arq30, qq30, Sq30, Nq30, Hq30, Gq30⟩ := cq30
  have hinq30 := inb_of (j := (2 : Int32)) Sq30 ⟨by decide, by decide⟩
  refine OwnGo.of (X21.caload hx (j := (2 : Int32)) (v := (.int k2)) Arq30.1 (State.isArrayOf_alike hZ.alike Arq30.2.1) Arq30.2.2 hinq30 (Hq30.at hinq30 rfl) (g := (mkF m 19 #[.val (.ref a0), .val (.int (2 : Int32)), .val (.int (3 : Int32)), .val (.ref y1), .val (.int (2 : Int32))] [(.int (2 : Int32)), (.ref a0), (.int (2 : Int32)), (.ref y1)])) rfl rfl (hb hby d26_19)) ?_
  show OwnGo p.tables e below _ (T21.setTop (mkF m 20 #[.val (.ref a0), .val (.int (2 : Int32)), .val (.int (3 : Int32)), .val (.ref y1), .val (.int (2 : Int32))] [(.int k2), (.int (2 : Int32)), (.ref y1)]))
  obtain ⟨T31, L31, v31, X31, hQ31, st31⟩ := own_callS X21 hx (y := (⟨"java/lang/StringUTF16", "putChar", "([BII)V"⟩ : MethodName)) hown (mvT hZ (w123 hw)) (mvT hZ (w124 hw)) (mvT hZ (w42 hw)) (mvT hZ (w125 hw)) (by decide) (backOf (W := 0) (rm29_2 l Z aw hw [] y1 k2 kq1 (6 : Int32) ([(.int (StrChars.lo8 k0)), (.int (StrChars.hi8 k0)), (.int (StrChars.lo8 k1)), (.int (StrChars.hi8 k1)), (.int (0 : Int32)), (.int (0 : Int32))] : List Value) T21.heap n0 f22 f28 g_y1 f24 f25 f26 (by decide) (by decide) (Nat.le_of_ble_eq_true rfl) (Nat.le_of_ble_eq_true rfl)) hZ (w125 hw) (w42 hw) (by decide) (by decide)) (g := (mkF m 20 #[.val (.ref a0), .val (.int (2 : Int32)), .val (.int (3 : Int32)), .val (.ref y1), .val (.int (2 : Int32))] [(.int k2), (.int (2 : Int32)), (.ref y1)])) rfl (by rw [hml]; rfl) (argsL := [(.ref y1), (.int (2 : Int32)), (.int k2)]) (rest := []) (lenOf pd_96 rfl) rfl (by show 2 * 0 + _ ≤ _; exact Nat.le_of_eq rfl) (hb hby d26_20) rfl rfl (by decide) (by decide)
  obtain ⟨rfl, N31q, K31, y31_0⟩ := hQ31
  have f32 := Nat.le_trans f22 K31.1
  have f33 := f23.trans K31 (allS (Or.inr sz_y1) all0)
  have f34 := own_sta_keep f24 K31 (allS (own_ns_arv f28) all0)
  have f35 := own_sta_keep f25 K31 (allS (own_ns_arv f28) all0)
  have f36 := own_sta_keep f26 K31 (allS (own_ns_arv f28) all0)
  have f37 := f27.keep K31 (ninS ne_a0_y1 nin0)
  have f38 : Arv Z T31.heap y1 kq1 .byte (6 : Int32) [(.int (StrChars.lo8 k0)), (.int (StrChars.hi8 k0)), (.int (StrChars.lo8 k1)), (.int (StrChars.hi8 k1)), (.int (StrChars.lo8 k2)), (.int (StrChars.hi8 k2))] (.int (0 : Int32)) := y31_0
  have N31 := Fr.app N21 N31q
  refine OwnGo.of st31 ?_
  show OwnGo p.tables e below _ (T31.setTop (mkF m 23 #[.val (.ref a0), .val (.int (2 : Int32)), .val (.int (3 : Int32)), .val (.ref y1), .val (.int (2 : Int32))] []))
  refine OwnGo.of (B := T31.setTop (mkF m 11 #[.val (.ref a0), .val (.int (3 : Int32)), .val (.int (3 : Int32)), .val (.ref y1), .val (.int (3 : Int32))] [(.int (3 : Int32)), (.int (3 : Int32))])) (fun t k => ?_) ?_
  · show Steps p.tables e below (T31.setTop (mkF m 23 #[.val (.ref a0), .val (.int (2 : Int32)), .val (.int (3 : Int32)), .val (.ref y1), .val (.int (2 : Int32))] [])) t
    refine XS.iinc X31.here hx rfl (hb hby d26_23) rfl (l' := #[.val (.ref a0), .val (.int (3 : Int32)), .val (.int (3 : Int32)), .val (.ref y1), .val (.int (2 : Int32))]) rfl ?_
    refine XS.iinc X31.here hx rfl (hb hby d26_26) rfl (l' := #[.val (.ref a0), .val (.int (3 : Int32)), .val (.int (3 : Int32)), .val (.ref y1), .val (.int (3 : Int32))]) rfl ?_
    refine XS.goto X31.here hx rfl (pc0 := 29) (pc' := 8) rfl (hb hby d26_29) (by decide) (by decide) ?_
    refine XS.iload X31.here hx rfl (hb hby d26_8) rfl ?_
    refine XS.iloadN X31.here hx rfl (hb hby d26_10) rfl ?_
    exact k
  have hc39 : ¬ ((3 : Int32) < (3 : Int32)) := by decide
  refine OwnGo.of (B := T31.setTop (mkF m 33 #[.val (.ref a0), .val (.int (3 : Int32)), .val (.int (3 : Int32)), .val (.ref y1), .val (.int (3 : Int32))] [(.ref y1)])) (fun t k => ?_) ?_
  · show Steps p.tables e below (T31.setTop (mkF m 11 #[.val (.ref a0), .val (.int (3 : Int32)), .val (.int (3 : Int32)), .val (.ref y1), .val (.int (3 : Int32))] [(.int (3 : Int32)), (.int (3 : Int32))])) t
    refine XS.icmpYes X31.here hx rfl (pc0 := 11) (pc' := 32) rfl (hb hby d26_11) rfl (flt hc39).2.1 (by decide) (by decide) ?_
    refine XS.aloadN X31.here hx rfl (hb hby d26_32) rfl rfl ?_
    exact k
  obtain ⟨fs, hr, hrun, hended, hW, hsame⟩ := X31.leave (v := some (.ref y1)) (fun h => by rw [Bd.returns] at h; cases h) hlk
  refine ⟨_, _, ?_, hrun, hended, _, _, rfl, ?_, ⟨_, rfl⟩, hW, hsame.mono (by decide) (by decide)⟩
  · show Steps p.tables e below (T31.setTop (mkF m 33 #[.val (.ref a0), .val (.int (3 : Int32)), .val (.int (3 : Int32)), .val (.ref y1), .val (.int (3 : Int32))] [(.ref y1)])) _
    exact own_retA X31 hx Bd.returns rfl rfl rfl (hb hby d26_33) hr
  · show Qrm26_3 Z a0 k0 k1 k2 kc h0 n0 _ (T31.setFrames fs).heap _
    rw [show (T31.setFrames fs).heap = T31.heap from rfl]
    exact ⟨N31, f33, y1, _, rfl, f38, sz_y1⟩
theorem ef_rm9_3 (m : MethodId) (a0 : Addr) (a2 : Addr) : entryFrame m #[(.ref a0), (.int (0 : Int32)), (.ref a2), (.int (0 : Int32)), (.int (3 : Int32))] 7 = mkF m 0 #[.val (.ref a0), .val (.int (0 : Int32)), .val (.ref a2), .val (.int (0 : Int32)), .val (.int (3 : Int32)), .unset, .unset] [] := by first | (simp [entryFrame, mkF, argsToLocals, Value.category]; done) | rfl
def Qrm9_3 (Z : State) (a0 : Addr) (a2 : Addr) (k0 : Int32) (k1 : Int32) (k2 : Int32) (kc : ClassId) (kb : ClassId) (h0 : Heap) (n0 : Nat) (v : Option Value) (h : Heap) (L : List Loc) : Prop := Fr n0 L ∧ Keep h0 h [a2] ∧ ((v = some (.int (3 : Int32)) ∧ (∀ c ∈ ([k0, k1, k2] : List Int32), ¬ 255 < c) ∧ Arv Z h a2 kb .byte (3 : Int32) [(.int (StrChars.lo8 k0)), (.int (StrChars.lo8 k1)), (.int (StrChars.lo8 k2))] (.int (0 : Int32))) ∨ (∃ iv : Int32, v = some (.int iv) ∧ ((iv = (0 : Int32) ∧ 255 < k0) ∨ (iv = (1 : Int32) ∧ 255 < k1) ∨ (iv = (2 : Int32) ∧ 255 < k2))))
set_option maxRecDepth 65536 in
set_option maxHeartbeats 40000000 in
theorem rm9_3 (l : Launch) (Z : State) (aw : Array Value) (hw : ∀ d ∈ tables_1, d.before aw Z = true) (ws : List Jvm.Cond) (a0 : Addr) (a2 : Addr) (k0 : Int32) (k1 : Int32) (k2 : Int32) (kc : ClassId) (kb : ClassId) (h0 : Heap) (n0 : Nat) (Z0 : n0 ≤ h0.size) (V_a : Arv Z h0 a0 kc .char (3 : Int32) [(.int k0), (.int k1), (.int k2)] (.int (0 : Int32))) (V_b : Arv Z h0 a2 kb .byte (3 : Int32) [(.int (0 : Int32)), (.int (0 : Int32)), (.int (0 : Int32))] (.int (0 : Int32))) (g_a2 : n0 ≤ a2) (hne : a0 ≠ a2) :
    MetFree l (⟨"java/lang/StringUTF16", "compress", "([CI[BII)I"⟩ : MethodName) (head1 (Jvm.Cond.code (⟨"java/lang/StringUTF16", "compress", "([CI[BII)I"⟩ : MethodName) jdk_52_method_21_code 7 (some .int) :: ws) ({ frames := 0, cells := 0, slots := 0, locals := 0 } : Room)) (fun a U => a = #[(.ref a0), (.int (0 : Int32)), (.ref a2), (.int (0 : Int32)), (.int (3 : Int32))] ∧ Z.Warmed39 U.vm ∧ U.heap = h0) (fun _ _ _ _ _ => True) (fun _ U o U' => ∃ v L, o = .returned v ∧ Qrm9_3 Z a0 a2 k0 k1 k2 kc kb h0 n0 v U'.heap L ∧ FrameEnd U o U' L ({ frames := 0, cells := 0, slots := 0, locals := 0 } : Room).cells ({ frames := 0, cells := 0, slots := 0, locals := 0 } : Room).slots) := by
  refine MetFree.of_bodySF (plainFor_of_name pn_60) hisR ?_
  intro p e s m args below meth c s₁ Bd hml0 hP hK
  obtain ⟨rfl, hZ, hh⟩ := hP
  have hx := Bd.exec
  have hby := Bd.bytes
  have hml : c.maxLocals = 7 := hml0
  have hown : s.vm.findClass "java/lang/StringUTF16" = some m.cls := findClass_of_methodNamed Bd.named
  have hnm := (name_of_methodNamed Bd.named Bd.method).1
  have X0 : Stand p l e ({ frames := 0, cells := 0, slots := 0, locals := 0 } : Room) s m #[(.ref a0), (.int (0 : Int32)), (.ref a2), (.int (0 : Int32)), (.int (3 : Int32))] below meth c s₁ [] 0 0 := Stand.of_body Bd
  have e0 : s₁.heap = h0 := by rw [← hh, Bd.state]; rfl
  have N0 := Fr.nil n0
  have hlk := Bd.notSynchronized
  show OwnGo p.tables e below _ (s₁.setTop (entryFrame m #[(.ref a0), (.int (0 : Int32)), (.ref a2), (.int (0 : Int32)), (.int (3 : Int32))] 7))
  rw [ef_rm9_3 m a0 a2]
  have K0 : Keep h0 h0 [a2] := Keep.refl _ _
  have ne1 : a0 ≠ a2 := hne
  show OwnGo p.tables e below _ (s₁.setTop (mkF m 0 #[.val (.ref a0), .val (.int (0 : Int32)), .val (.ref a2), .val (.int (0 : Int32)), .val (.int (3 : Int32)), .unset, .unset] []))
  refine OwnGo.of (B := s₁.setTop (mkF m 7 #[.val (.ref a0), .val (.int (0 : Int32)), .val (.ref a2), .val (.int (0 : Int32)), .val (.int (3 : Int32)), .val (.int (0 : Int32)), .unset] [(.int (3 : Int32)), (.int (0 : Int32))])) (fun t k => ?_) ?_
  · show Steps p.tables e below (s₁.setTop (mkF m 0 #[.val (.ref a0), .val (.int (0 : Int32)), .val (.ref a2), .val (.int (0 : Int32)), .val (.int (3 : Int32)), .unset, .unset] [])) t
    refine XS.iconst X0.here hx rfl (hb hby d9_0) ?_
    refine XS.istore X0.here hx rfl (hb hby d9_1) rfl (l' := #[.val (.ref a0), .val (.int (0 : Int32)), .val (.ref a2), .val (.int (0 : Int32)), .val (.int (3 : Int32)), .val (.int (0 : Int32)), .unset]) rfl ?_
    refine XS.iload X0.here hx rfl (hb hby d9_3) rfl ?_
    refine XS.iload X0.here hx rfl (hb hby d9_5) rfl ?_
    exact k
  have hc1 : (0 : Int32) < (3 : Int32) := by decide
  refine OwnGo.of (B := s₁.setTop (mkF m 12 #[.val (.ref a0), .val (.int (0 : Int32)), .val (.ref a2), .val (.int (0 : Int32)), .val (.int (3 : Int32)), .val (.int (0 : Int32)), .unset] [(.int (0 : Int32)), (.ref a0)])) (fun t k => ?_) ?_
  · show Steps p.tables e below (s₁.setTop (mkF m 7 #[.val (.ref a0), .val (.int (0 : Int32)), .val (.ref a2), .val (.int (0 : Int32)), .val (.int (3 : Int32)), .val (.int (0 : Int32)), .unset] [(.int (3 : Int32)), (.int (0 : Int32))])) t
    refine XS.icmpNo X0.here hx rfl (hb hby d9_7) rfl (tlt hc1).2.1 ?_
    refine XS.aloadN X0.here hx rfl (hb hby d9_10) rfl rfl ?_
    refine XS.iloadN X0.here hx rfl (hb hby d9_11) rfl ?_
    exact k
  have cq2 := V_a
  obtain ⟨clq2, Arq2, qq2, Sq2, Nq2, Hq2, Gq2⟩ := cq2
  have hinq2 := inb_of (j := (0 : Int32)) Sq2 ⟨by decide, by decide⟩
  refine OwnGo.of (X0.caload hx (j := (0 : Int32)) (v := (.int k0)) (by rw [e0]; exact Arq2.1) (State.isArrayOf_alike hZ.alike Arq2.2.1) Arq2.2.2 hinq2 (Hq2.at hinq2 rfl) (g := (mkF m 12 #[.val (.ref a0), .val (.int (0 : Int32)), .val (.ref a2), .val (.int (0 : Int32)), .val (.int (3 : Int32)), .val (.int (0 : Int32)), .unset] [(.int (0 : Int32)), (.ref a0)])) rfl rfl (hb hby d9_12)) ?_
  show OwnGo p.tables e below _ (s₁.setTop (mkF m 13 #[.val (.ref a0), .val (.int (0 : Int32)), .val (.ref a2), .val (.int (0 : Int32)), .val (.int (3 : Int32)), .val (.int (0 : Int32)), .unset] [(.int k0)]))
  refine OwnGo.of (B := s₁.setTop (mkF m 20 #[.val (.ref a0), .val (.int (0 : Int32)), .val (.ref a2), .val (.int (0 : Int32)), .val (.int (3 : Int32)), .val (.int (0 : Int32)), .val (.int k0)] [(.int (255 : Int32)), (.int k0)])) (fun t k => ?_) ?_
  · show Steps p.tables e below (s₁.setTop (mkF m 13 #[.val (.ref a0), .val (.int (0 : Int32)), .val (.ref a2), .val (.int (0 : Int32)), .val (.int (3 : Int32)), .val (.int (0 : Int32)), .unset] [(.int k0)])) t
    refine XS.istore X0.here hx rfl (hb hby d9_13) rfl (l' := #[.val (.ref a0), .val (.int (0 : Int32)), .val (.ref a2), .val (.int (0 : Int32)), .val (.int (3 : Int32)), .val (.int (0 : Int32)), .val (.int k0)]) rfl ?_
    refine XS.iload X0.here hx rfl (hb hby d9_15) rfl ?_
    refine XS.sipush X0.here hx rfl (hb hby d9_17) ?_
    exact k
  by_cases hc3 : (255 : Int32) < k0
  · refine OwnGo.of (B := s₁.setTop (mkF m 25 #[.val (.ref a0), .val (.int (0 : Int32)), .val (.ref a2), .val (.int (0 : Int32)), .val (.int (3 : Int32)), .val (.int (0 : Int32)), .val (.int k0)] [(.int (0 : Int32))])) (fun t k => ?_) ?_
    · show Steps p.tables e below (s₁.setTop (mkF m 20 #[.val (.ref a0), .val (.int (0 : Int32)), .val (.ref a2), .val (.int (0 : Int32)), .val (.int (3 : Int32)), .val (.int (0 : Int32)), .val (.int k0)] [(.int (255 : Int32)), (.int k0)])) t
      refine XS.icmpNo X0.here hx rfl (hb hby d9_20) rfl (tlt hc3).2.2.2 ?_
      refine XS.iload X0.here hx rfl (hb hby d9_23) rfl ?_
      exact k
    obtain ⟨fs, hr, hrun, hended, hW, hsame⟩ := X0.leave (v := some (.int (0 : Int32))) (fun h => by rw [Bd.returns] at h; cases h) hlk
    refine ⟨_, _, ?_, hrun, hended, _, _, rfl, ?_, ⟨_, rfl⟩, hW, hsame.mono (by decide) (by decide)⟩
    · show Steps p.tables e below (s₁.setTop (mkF m 25 #[.val (.ref a0), .val (.int (0 : Int32)), .val (.ref a2), .val (.int (0 : Int32)), .val (.int (3 : Int32)), .val (.int (0 : Int32)), .val (.int k0)] [(.int (0 : Int32))])) _
      exact own_retI X0 hx Bd.returns (hb hby d9_25) hr
    · show Qrm9_3 Z a0 a2 k0 k1 k2 kc kb h0 n0 _ (s₁.setFrames fs).heap _
      rw [show (s₁.setFrames fs).heap = h0 from e0]
      exact ⟨N0, K0, Or.inr ⟨(0 : Int32), rfl, Or.inl ⟨rfl, hc3⟩⟩⟩
  · refine OwnGo.of (B := s₁.setTop (mkF m 31 #[.val (.ref a0), .val (.int (0 : Int32)), .val (.ref a2), .val (.int (0 : Int32)), .val (.int (3 : Int32)), .val (.int (0 : Int32)), .val (.int k0)] [(.int (k0.toInt8.toInt32)), (.int (0 : Int32)), (.ref a2)])) (fun t k => ?_) ?_
    · show Steps p.tables e below (s₁.setTop (mkF m 20 #[.val (.ref a0), .val (.int (0 : Int32)), .val (.ref a2), .val (.int (0 : Int32)), .val (.int (3 : Int32)), .val (.int (0 : Int32)), .val (.int k0)] [(.int (255 : Int32)), (.int k0)])) t
      refine XS.icmpYes X0.here hx rfl (pc0 := 20) (pc' := 26) rfl (hb hby d9_20) rfl (flt hc3).2.2.2 (by decide) (by decide) ?_
      refine XS.aloadN X0.here hx rfl (hb hby d9_26) rfl rfl ?_
      refine XS.iloadN X0.here hx rfl (hb hby d9_27) rfl ?_
      refine XS.iload X0.here hx rfl (hb hby d9_28) rfl ?_
      refine XS.i2b X0.here hx rfl (hb hby d9_30) rfl ?_
      exact k
    have cq4 := V_b
    obtain ⟨clq4, Arq4, qq4, Sq4, Nq4, Hq4, Gq4⟩ := cq4
    obtain ⟨T5, h5, X5, e5, W5, st5⟩ := stB X0 hx hZ e0 Arq4 (j := (0 : Int32)) (inb_of Sq4 ⟨by decide, by decide⟩) (g := (mkF m 31 #[.val (.ref a0), .val (.int (0 : Int32)), .val (.ref a2), .val (.int (0 : Int32)), .val (.int (3 : Int32)), .val (.int (0 : Int32)), .val (.int k0)] [(.int (k0.toInt8.toInt32)), (.int (0 : Int32)), (.ref a2)])) rfl rfl (hb hby d9_31)
    refine OwnGo.of st5 ?_
    have N5 := Fr.snoc X5 N0 g_a2
    have f6 := Nat.le_trans Z0 (Keep.of_wr W5).1
    have f7 := K0.wr W5 (Or.inl (List.mem_of_getElem? (i := 0) rfl))
    have f8 := V_a.other W5 ne1
    have f9 : Arv Z h5 a2 kb .byte (3 : Int32) [(.int ((k0.toInt8.toInt32)).toInt8.toInt32), (.int (0 : Int32)), (.int (0 : Int32))] (.int (0 : Int32)) := Arv.set Arq4 qq4 Sq4 Nq4 Hq4 Gq4 (fits_nar_byte _) W5 0 rfl (Nat.le_of_ble_eq_true rfl)
    show OwnGo p.tables e below _ (T5.setTop (mkF m 32 #[.val (.ref a0), .val (.int (0 : Int32)), .val (.ref a2), .val (.int (0 : Int32)), .val (.int (3 : Int32)), .val (.int (0 : Int32)), .val (.int k0)] []))
    refine OwnGo.of (B := T5.setTop (mkF m 7 #[.val (.ref a0), .val (.int (1 : Int32)), .val (.ref a2), .val (.int (1 : Int32)), .val (.int (3 : Int32)), .val (.int (1 : Int32)), .val (.int k0)] [(.int (3 : Int32)), (.int (1 : Int32))])) (fun t k => ?_) ?_
    · show Steps p.tables e below (T5.setTop (mkF m 32 #[.val (.ref a0), .val (.int (0 : Int32)), .val (.ref a2), .val (.int (0 : Int32)), .val (.int (3 : Int32)), .val (.int (0 : Int32)), .val (.int k0)] [])) t
      refine XS.iinc X5.here hx rfl (hb hby d9_32) rfl (l' := #[.val (.ref a0), .val (.int (1 : Int32)), .val (.ref a2), .val (.int (0 : Int32)), .val (.int (3 : Int32)), .val (.int (0 : Int32)), .val (.int k0)]) rfl ?_
      refine XS.iinc X5.here hx rfl (hb hby d9_35) rfl (l' := #[.val (.ref a0), .val (.int (1 : Int32)), .val (.ref a2), .val (.int (1 : Int32)), .val (.int (3 : Int32)), .val (.int (0 : Int32)), .val (.int k0)]) rfl ?_
      refine XS.iinc X5.here hx rfl (hb hby d9_38) rfl (l' := #[.val (.ref a0), .val (.int (1 : Int32)), .val (.ref a2), .val (.int (1 : Int32)), .val (.int (3 : Int32)), .val (.int (1 : Int32)), .val (.int k0)]) rfl ?_
      refine XS.goto X5.here hx rfl (pc0 := 41) (pc' := 3) rfl (hb hby d9_41) (by decide) (by decide) ?_
      refine XS.iload X5.here hx rfl (hb hby d9_3) rfl ?_
      refine XS.iload X5.here hx rfl (hb hby d9_5) rfl ?_
      exact k
    have hc10 : (1 : Int32) < (3 : Int32) := by decide
    refine OwnGo.of (B := T5.setTop (mkF m 12 #[.val (.ref a0), .val (.int (1 : Int32)), .val (.ref a2), .val (.int (1 : Int32)), .val (.int (3 : Int32)), .val (.int (1 : Int32)), .val (.int k0)] [(.int (1 : Int32)), (.ref a0)])) (fun t k => ?_) ?_
    · show Steps p.tables e below (T5.setTop (mkF m 7 #[.val (.ref a0), .val (.int (1 : Int32)), .val (.ref a2), .val (.int (1 : Int32)), .val (.int (3 : Int32)), .val (.int (1 : Int32)), .val (.int k0)] [(.int (3 : Int32)), (.int (1 : Int32))])) t
      refine XS.icmpNo X5.here hx rfl (hb hby d9_7) rfl (tlt hc10).2.1 ?_
      refine XS.aloadN X5.here hx rfl (hb hby d9_10) rfl rfl ?_
      refine XS.iloadN X5.here hx rfl (hb hby d9_11) rfl ?_
      exact k
    have cq11 := f8
    obtain ⟨clq11, Arq11, qq11, Sq11, Nq11, Hq11, Gq11⟩ := cq11
    have hinq11 := inb_of (j := (1 : Int32)) Sq11 ⟨by decide, by decide⟩
    refine OwnGo.of (X5.caload hx (j := (1 : Int32)) (v := (.int k1)) (by rw [e5]; exact Arq11.1) (State.isArrayOf_alike hZ.alike Arq11.2.1) Arq11.2.2 hinq11 (Hq11.at hinq11 rfl) (g := (mkF m 12 #[.val (.ref a0), .val (.int (1 : Int32)), .val (.ref a2), .val (.int (1 : Int32)), .val (.int (3 : Int32)), .val (.int (1 : Int32)), .val (.int k0)] [(.int (1 : Int32)), (.ref a0)])) rfl rfl (hb hby d9_12)) ?_
    show OwnGo p.tables e below _ (T5.setTop (mkF m 13 #[.val (.ref a0), .val (.int (1 : Int32)), .val (.ref a2), .val (.int (1 : Int32)), .val (.int (3 : Int32)), .val (.int (1 : Int32)), .val (.int k0)] [(.int k1)]))
    refine OwnGo.of (B := T5.setTop (mkF m 20 #[.val (.ref a0), .val (.int (1 : Int32)), .val (.ref a2), .val (.int (1 : Int32)), .val (.int (3 : Int32)), .val (.int (1 : Int32)), .val (.int k1)] [(.int (255 : Int32)), (.int k1)])) (fun t k => ?_) ?_
    · show Steps p.tables e below (T5.setTop (mkF m 13 #[.val (.ref a0), .val (.int (1 : Int32)), .val (.ref a2), .val (.int (1 : Int32)), .val (.int (3 : Int32)), .val (.int (1 : Int32)), .val (.int k0)] [(.int k1)])) t
      refine XS.istore X5.here hx rfl (hb hby d9_13) rfl (l' := #[.val (.ref a0), .val (.int (1 : Int32)), .val (.ref a2), .val (.int (1 : Int32)), .val (.int (3 : Int32)), .val (.int (1 : Int32)), .val (.int k1)]) rfl ?_
      refine XS.iload X5.here hx rfl (hb hby d9_15) rfl ?_
      refine XS.sipush X5.here hx rfl (hb hby d9_17) ?_
      exact k
    by_cases hc12 : (255 : Int32) < k1
    · refine OwnGo.of (B := T5.setTop (mkF m 25 #[.val (.ref a0), .val (.int (1 : Int32)), .val (.ref a2), .val (.int (1 : Int32)), .val (.int (3 : Int32)), .val (.int (1 : Int32)), .val (.int k1)] [(.int (1 : Int32))])) (fun t k => ?_) ?_
      · show Steps p.tables e below (T5.setTop (mkF m 20 #[.val (.ref a0), .val (.int (1 : Int32)), .val (.ref a2), .val (.int (1 : Int32)), .val (.int (3 : Int32)), .val (.int (1 : Int32)), .val (.int k1)] [(.int (255 : Int32)), (.int k1)])) t
        refine XS.icmpNo X5.here hx rfl (hb hby d9_20) rfl (tlt hc12).2.2.2 ?_
        refine XS.iload X5.here hx rfl (hb hby d9_23) rfl ?_
        exact k
      obtain ⟨fs, hr, hrun, hended, hW, hsame⟩ := X5.leave (v := some (.int (1 : Int32))) (fun h => by rw [Bd.returns] at h; cases h) hlk
      refine ⟨_, _, ?_, hrun, hended, _, _, rfl, ?_, ⟨_, rfl⟩, hW, hsame.mono (by decide) (by decide)⟩
      · show Steps p.tables e below (T5.setTop (mkF m 25 #[.val (.ref a0), .val (.int (1 : Int32)), .val (.ref a2), .val (.int (1 : Int32)), .val (.int (3 : Int32)), .val (.int (1 : Int32)), .val (.int k1)] [(.int (1 : Int32))])) _
        exact own_retI X5 hx Bd.returns (hb hby d9_25) hr
      · show Qrm9_3 Z a0 a2 k0 k1 k2 kc kb h0 n0 _ (T5.setFrames fs).heap _
        rw [show (T5.setFrames fs).heap = h5 from e5]
        exact ⟨N5, f7, Or.inr ⟨(1 : Int32), rfl, Or.inr (Or.inl ⟨rfl, hc12⟩)⟩⟩
    · refine OwnGo.of (B := T5.setTop (mkF m 31 #[.val (.ref a0), .val (.int (1 : Int32)), .val (.ref a2), .val (.int (1 : Int32)), .val (.int (3 : Int32)), .val (.int (1 : Int32)), .val (.int k1)] [(.int (k1.toInt8.toInt32)), (.int (1 : Int32)), (.ref a2)])) (fun t k => ?_) ?_
      · show Steps p.tables e below (T5.setTop (mkF m 20 #[.val (.ref a0), .val (.int (1 : Int32)), .val (.ref a2), .val (.int (1 : Int32)), .val (.int (3 : Int32)), .val (.int (1 : Int32)), .val (.int k1)] [(.int (255 : Int32)), (.int k1)])) t
        refine XS.icmpYes X5.here hx rfl (pc0 := 20) (pc' := 26) rfl (hb hby d9_20) rfl (flt hc12).2.2.2 (by decide) (by decide) ?_
        refine XS.aloadN X5.here hx rfl (hb hby d9_26) rfl rfl ?_
        refine XS.iloadN X5.here hx rfl (hb hby d9_27) rfl ?_
        refine XS.iload X5.here hx rfl (hb hby d9_28) rfl ?_
        refine XS.i2b X5.here hx rfl (hb hby d9_30) rfl ?_
        exact k
      have cq13 := f9
      obtain ⟨clq13, Arq13, qq13, Sq13, Nq13, Hq13, Gq13⟩ := cq13
      obtain ⟨T14, h14, X14, e14, W14, st14⟩ := stB X5 hx hZ e5 Arq13 (j := (1 : Int32)) (inb_of Sq13 ⟨by decide, by decide⟩) (g := (mkF m 31 #[.val (.ref a0), .val (.int (1 : Int32)), .val (.ref a2), .val (.int (1 : Int32)), .val (.int (3 : Int32)), .val (.int (1 : Int32)), .val (.int k1)] [(.int (k1.toInt8.toInt32)), (.int (1 : Int32)), (.ref a2)])) rfl rfl (hb hby d9_31)
      refine OwnGo.of st14 ?_
      have N14 := Fr.snoc X14 N5 g_a2
      have f15 := Nat.le_trans f6 (Keep.of_wr W14).1
      have f16 := f7.wr W14 (Or.inl (List.mem_of_getElem? (i := 0) rfl))
      have f17 := f8.other W14 ne1
      have f18 : Arv Z h14 a2 kb .byte (3 : Int32) [(.int ((k0.toInt8.toInt32)).toInt8.toInt32), (.int ((k1.toInt8.toInt32)).toInt8.toInt32), (.int (0 : Int32))] (.int (0 : Int32)) := Arv.set Arq13 qq13 Sq13 Nq13 Hq13 Gq13 (fits_nar_byte _) W14 1 rfl (Nat.le_of_ble_eq_true rfl)
      show OwnGo p.tables e below _ (T14.setTop (mkF m 32 #[.val (.ref a0), .val (.int (1 : Int32)), .val (.ref a2), .val (.int (1 : Int32)), .val (.int (3 : Int32)), .val (.int (1 : Int32)), .val (.int k1)] []))
      refine OwnGo.of (B := T14.setTop (mkF m 7 #[.val (.ref a0), .val (.int (2 : Int32)), .val (.ref a2), .val (.int (2 : Int32)), .val (.int (3 : Int32)), .val (.int (2 : Int32)), .val (.int k1)] [(.int (3 : Int32)), (.int (2 : Int32))])) (fun t k => ?_) ?_
      · show Steps p.tables e below (T14.setTop (mkF m 32 #[.val (.ref a0), .val (.int (1 : Int32)), .val (.ref a2), .val (.int (1 : Int32)), .val (.int (3 : Int32)), .val (.int (1 : Int32)), .val (.int k1)] [])) t
        refine XS.iinc X14.here hx rfl (hb hby d9_32) rfl (l' := #[.val (.ref a0), .val (.int (2 : Int32)), .val (.ref a2), .val (.int (1 : Int32)), .val (.int (3 : Int32)), .val (.int (1 : Int32)), .val (.int k1)]) rfl ?_
        refine XS.iinc X14.here hx rfl (hb hby d9_35) rfl (l' := #[.val (.ref a0), .val (.int (2 : Int32)), .val (.ref a2), .val (.int (2 : Int32)), .val (.int (3 : Int32)), .val (.int (1 : Int32)), .val (.int k1)]) rfl ?_
        refine XS.iinc X14.here hx rfl (hb hby d9_38) rfl (l' := #[.val (.ref a0), .val (.int (2 : Int32)), .val (.ref a2), .val (.int (2 : Int32)), .val (.int (3 : Int32)), .val (.int (2 : Int32)), .val (.int k1)]) rfl ?_
        refine XS.goto X14.here hx rfl (pc0 := 41) (pc' := 3) rfl (hb hby d9_41) (by decide) (by decide) ?_
        refine XS.iload X14.here hx rfl (hb hby d9_3) rfl ?_
        refine XS.iload X14.here hx rfl (hb hby d9_5) rfl ?_
        exact k
      have hc19 : (2 : Int32) < (3 : Int32) := by decide
      refine OwnGo.of (B := T14.setTop (mkF m 12 #[.val (.ref a0), .val (.int (2 : Int32)), .val (.ref a2), .val (.int (2 : Int32)), .val (.int (3 : Int32)), .val (.int (2 : Int32)), .val (.int k1)] [(.int (2 : Int32)), (.ref a0)])) (fun t k => ?_) ?_
      · show Steps p.tables e below (T14.setTop (mkF m 7 #[.val (.ref a0), .val (.int (2 : Int32)), .val (.ref a2), .val (.int (2 : Int32)), .val (.int (3 : Int32)), .val (.int (2 : Int32)), .val (.int k1)] [(.int (3 : Int32)), (.int (2 : Int32))])) t
        refine XS.icmpNo X14.here hx rfl (hb hby d9_7) rfl (tlt hc19).2.1 ?_
        refine XS.aloadN X14.here hx rfl (hb hby d9_10) rfl rfl ?_
        refine XS.iloadN X14.here hx rfl (hb hby d9_11) rfl ?_
        exact k
      have cq20 := f17
      obtain ⟨clq20, Arq20, qq20, Sq20, Nq20, Hq20, Gq20⟩ := cq20
      have hinq20 := inb_of (j := (2 : Int32)) Sq20 ⟨by decide, by decide⟩
      refine OwnGo.of (X14.caload hx (j := (2 : Int32)) (v := (.int k2)) (by rw [e14]; exact Arq20.1) (State.isArrayOf_alike hZ.alike Arq20.2.1) Arq20.2.2 hinq20 (Hq20.at hinq20 rfl) (g := (mkF m 12 #[.val (.ref a0), .val (.int (2 : Int32)), .val (.ref a2), .val (.int (2 : Int32)), .val (.int (3 : Int32)), .val (.int (2 : Int32)), .val (.int k1)] [(.int (2 : Int32)), (.ref a0)])) rfl rfl (hb hby d9_12)) ?_
      show OwnGo p.tables e below _ (T14.setTop (mkF m 13 #[.val (.ref a0), .val (.int (2 : Int32)), .val (.ref a2), .val (.int (2 : Int32)), .val (.int (3 : Int32)), .val (.int (2 : Int32)), .val (.int k1)] [(.int k2)]))
      refine OwnGo.of (B := T14.setTop (mkF m 20 #[.val (.ref a0), .val (.int (2 : Int32)), .val (.ref a2), .val (.int (2 : Int32)), .val (.int (3 : Int32)), .val (.int (2 : Int32)), .val (.int k2)] [(.int (255 : Int32)), (.int k2)])) (fun t k => ?_) ?_
      · show Steps p.tables e below (T14.setTop (mkF m 13 #[.val (.ref a0), .val (.int (2 : Int32)), .val (.ref a2), .val (.int (2 : Int32)), .val (.int (3 : Int32)), .val (.int (2 : Int32)), .val (.int k1)] [(.int k2)])) t
        refine XS.istore X14.here hx rfl (hb hby d9_13) rfl (l' := #[.val (.ref a0), .val (.int (2 : Int32)), .val (.ref a2), .val (.int (2 : Int32)), .val (.int (3 : Int32)), .val (.int (2 : Int32)), .val (.int k2)]) rfl ?_
        refine XS.iload X14.here hx rfl (hb hby d9_15) rfl ?_
        refine XS.sipush X14.here hx rfl (hb hby d9_17) ?_
        exact k
      by_cases hc21 : (255 : Int32) < k2
      · refine OwnGo.of (B := T14.setTop (mkF m 25 #[.val (.ref a0), .val (.int (2 : Int32)), .val (.ref a2), .val (.int (2 : Int32)), .val (.int (3 : Int32)), .val (.int (2 : Int32)), .val (.int k2)] [(.int (2 : Int32))])) (fun t k => ?_) ?_
        · show Steps p.tables e below (T14.setTop (mkF m 20 #[.val (.ref a0), .val (.int (2 : Int32)), .val (.ref a2), .val (.int (2 : Int32)), .val (.int (3 : Int32)), .val (.int (2 : Int32)), .val (.int k2)] [(.int (255 : Int32)), (.int k2)])) t
          refine XS.icmpNo X14.here hx rfl (hb hby d9_20) rfl (tlt hc21).2.2.2 ?_
          refine XS.iload X14.here hx rfl (hb hby d9_23) rfl ?_
          exact k
        obtain ⟨fs, hr, hrun, hended, hW, hsame⟩ := X14.leave (v := some (.int (2 : Int32))) (fun h => by rw [Bd.returns] at h; cases h) hlk
        refine ⟨_, _, ?_, hrun, hended, _, _, rfl, ?_, ⟨_, rfl⟩, hW, hsame.mono (by decide) (by decide)⟩
        · show Steps p.tables e below (T14.setTop (mkF m 25 #[.val (.ref a0), .val (.int (2 : Int32)), .val (.ref a2), .val (.int (2 : Int32)), .val (.int (3 : Int32)), .val (.int (2 : Int32)), .val (.int k2)] [(.int (2 : Int32))])) _
          exact own_retI X14 hx Bd.returns (hb hby d9_25) hr
        · show Qrm9_3 Z a0 a2 k0 k1 k2 kc kb h0 n0 _ (T14.setFrames fs).heap _
          rw [show (T14.setFrames fs).heap = h14 from e14]
          exact ⟨N14, f16, Or.inr ⟨(2 : Int32), rfl, Or.inr (Or.inr (⟨rfl, hc21⟩))⟩⟩
      · refine OwnGo.of (B := T14.setTop (mkF m 31 #[.val (.ref a0), .val (.int (2 : Int32)), .val (.ref a2), .val (.int (2 : Int32)), .val (.int (3 : Int32)), .val (.int (2 : Int32)), .val (.int k2)] [(.int (k2.toInt8.toInt32)), (.int (2 : Int32)), (.ref a2)])) (fun t k => ?_) ?_
        · show Steps p.tables e below (T14.setTop (mkF m 20 #[.val (.ref a0), .val (.int (2 : Int32)), .val (.ref a2), .val (.int (2 : Int32)), .val (.int (3 : Int32)), .val (.int (2 : Int32)), .val (.int k2)] [(.int (255 : Int32)), (.int k2)])) t
          refine XS.icmpYes X14.here hx rfl (pc0 := 20) (pc' := 26) rfl (hb hby d9_20) rfl (flt hc21).2.2.2 (by decide) (by decide) ?_
          refine XS.aloadN X14.here hx rfl (hb hby d9_26) rfl rfl ?_
          refine XS.iloadN X14.here hx rfl (hb hby d9_27) rfl ?_
          refine XS.iload X14.here hx rfl (hb hby d9_28) rfl ?_
          refine XS.i2b X14.here hx rfl (hb hby d9_30) rfl ?_
          exact k
        have cq22 := f18
        obtain ⟨clq22, Arq22, qq22, Sq22, Nq22, Hq22, Gq22⟩ := cq22
        obtain ⟨T23, h23, X23, e23, W23, st23⟩ := stB X14 hx hZ e14 Arq22 (j := (2 : Int32)) (inb_of Sq22 ⟨by decide, by decide⟩) (g := (mkF m 31 #[.val (.ref a0), .val (.int (2 : Int32)), .val (.ref a2), .val (.int (2 : Int32)), .val (.int (3 : Int32)), .val (.int (2 : Int32)), .val (.int k2)] [(.int (k2.toInt8.toInt32)), (.int (2 : Int32)), (.ref a2)])) rfl rfl (hb hby d9_31)
        refine OwnGo.of st23 ?_
        have N23 := Fr.snoc X23 N14 g_a2
        have f24 := Nat.le_trans f15 (Keep.of_wr W23).1
        have f25 := f16.wr W23 (Or.inl (List.mem_of_getElem? (i := 0) rfl))
        have f26 := f17.other W23 ne1
        have f27 : Arv Z h23 a2 kb .byte (3 : Int32) [(.int ((k0.toInt8.toInt32)).toInt8.toInt32), (.int ((k1.toInt8.toInt32)).toInt8.toInt32), (.int ((k2.toInt8.toInt32)).toInt8.toInt32)] (.int (0 : Int32)) := Arv.set Arq22 qq22 Sq22 Nq22 Hq22 Gq22 (fits_nar_byte _) W23 2 rfl (Nat.le_of_ble_eq_true rfl)
        show OwnGo p.tables e below _ (T23.setTop (mkF m 32 #[.val (.ref a0), .val (.int (2 : Int32)), .val (.ref a2), .val (.int (2 : Int32)), .val (.int (3 : Int32)), .val (.int (2 : Int32)), .val (.int k2)] []))
        refine OwnGo.of (B := T23.setTop (mkF m 7 #[.val (.ref a0), .val (.int (3 : Int32)), .val (.ref a2), .val (.int (3 : Int32)), .val (.int (3 : Int32)), .val (.int (3 : Int32)), .val (.int k2)] [(.int (3 : Int32)), (.int (3 : Int32))])) (fun t k => ?_) ?_
        · show Steps p.tables e below (T23.setTop (mkF m 32 #[.val (.ref a0), .val (.int (2 : Int32)), .val (.ref a2), .val (.int (2 : Int32)), .val (.int (3 : Int32)), .val (.int (2 : Int32)), .val (.int k2)] [])) t
          refine XS.iinc X23.here hx rfl (hb hby d9_32) rfl (l' := #[.val (.ref a0), .val (.int (3 : Int32)), .val (.ref a2), .val (.int (2 : Int32)), .val (.int (3 : Int32)), .val (.int (2 : Int32)), .val (.int k2)]) rfl ?_
          refine XS.iinc X23.here hx rfl (hb hby d9_35) rfl (l' := #[.val (.ref a0), .val (.int (3 : Int32)), .val (.ref a2), .val (.int (3 : Int32)), .val (.int (3 : Int32)), .val (.int (2 : Int32)), .val (.int k2)]) rfl ?_
          refine XS.iinc X23.here hx rfl (hb hby d9_38) rfl (l' := #[.val (.ref a0), .val (.int (3 : Int32)), .val (.ref a2), .val (.int (3 : Int32)), .val (.int (3 : Int32)), .val (.int (3 : Int32)), .val (.int k2)]) rfl ?_
          refine XS.goto X23.here hx rfl (pc0 := 41) (pc' := 3) rfl (hb hby d9_41) (by decide) (by decide) ?_
          refine XS.iload X23.here hx rfl (hb hby d9_3) rfl ?_
          refine XS.iload X23.here hx rfl (hb hby d9_5) rfl ?_
          exact k
        have hc28 : ¬ ((3 : Int32) < (3 : Int32)) := by decide
        refine OwnGo.of (B := T23.setTop (mkF m 46 #[.val (.ref a0), .val (.int (3 : Int32)), .val (.ref a2), .val (.int (3 : Int32)), .val (.int (3 : Int32)), .val (.int (3 : Int32)), .val (.int k2)] [(.int (3 : Int32))])) (fun t k => ?_) ?_
        · show Steps p.tables e below (T23.setTop (mkF m 7 #[.val (.ref a0), .val (.int (3 : Int32)), .val (.ref a2), .val (.int (3 : Int32)), .val (.int (3 : Int32)), .val (.int (3 : Int32)), .val (.int k2)] [(.int (3 : Int32)), (.int (3 : Int32))])) t
          refine XS.icmpYes X23.here hx rfl (pc0 := 7) (pc' := 44) rfl (hb hby d9_7) rfl (flt hc28).2.1 (by decide) (by decide) ?_
          refine XS.iload X23.here hx rfl (hb hby d9_44) rfl ?_
          exact k
        obtain ⟨fs, hr, hrun, hended, hW, hsame⟩ := X23.leave (v := some (.int (3 : Int32))) (fun h => by rw [Bd.returns] at h; cases h) hlk
        refine ⟨_, _, ?_, hrun, hended, _, _, rfl, ?_, ⟨_, rfl⟩, hW, hsame.mono (by decide) (by decide)⟩
        · show Steps p.tables e below (T23.setTop (mkF m 46 #[.val (.ref a0), .val (.int (3 : Int32)), .val (.ref a2), .val (.int (3 : Int32)), .val (.int (3 : Int32)), .val (.int (3 : Int32)), .val (.int k2)] [(.int (3 : Int32))])) _
          exact own_retI X23 hx Bd.returns (hb hby d9_46) hr
        · show Qrm9_3 Z a0 a2 k0 k1 k2 kc kb h0 n0 _ (T23.setFrames fs).heap _
          rw [show (T23.setFrames fs).heap = h23 from e23]
          have fz := f27
          rw [own_ll, own_ll, own_ll] at fz
          exact ⟨N23, f25, Or.inl ⟨rfl, (own_hS hc3 (own_hS hc12 (own_hS hc21 own_h0))), fz⟩⟩
theorem ef_rm28_4 (m : MethodId)  : entryFrame m #[(.int (4 : Int32))] 1 = mkF m 0 #[.val (.int (4 : Int32))] [] := by first | (simp [entryFrame, mkF, argsToLocals, Value.category]; done) | rfl
def Qrm28_4 (Z : State)  (h0 : Heap) (n0 : Nat) (v : Option Value) (h : Heap) (L : List Loc) : Prop := v = some (.int (8 : Int32)) ∧ Fr n0 L ∧ h = h0
set_option maxRecDepth 65536 in
set_option maxHeartbeats 40000000 in
theorem rm28_4 (l : Launch) (Z : State) (aw : Array Value) (hw : ∀ d ∈ tables_1, d.before aw Z = true) (ws : List Jvm.Cond)  (h0 : Heap) (n0 : Nat) (Z0 : n0 ≤ h0.size) :
    MetFree l (⟨"java/lang/StringUTF16", "newBytesLength", "(I)I"⟩ : MethodName) (head1 (Jvm.Cond.code (⟨"java/lang/StringUTF16", "newBytesLength", "(I)I"⟩ : MethodName) jdk_52_method_3_code 1 (some .int) :: ws) ({ frames := 0, cells := 0, slots := 0, locals := 0 } : Room)) (fun a U => a = #[(.int (4 : Int32))] ∧ Z.Warmed39 U.vm ∧ U.heap = h0) (fun _ _ _ _ _ => True) (fun _ U o U' => ∃ v L, o = .returned v ∧ Qrm28_4 Z  h0 n0 v U'.heap L ∧ FrameEnd U o U' L ({ frames := 0, cells := 0, slots := 0, locals := 0 } : Room).cells ({ frames := 0, cells := 0, slots := 0, locals := 0 } : Room).slots) := by
  refine MetFree.of_bodySF (plainFor_of_name pn_60) hisR ?_
  intro p e s m args below meth c s₁ Bd hml0 hP hK
  obtain ⟨rfl, hZ, hh⟩ := hP
  have hx := Bd.exec
  have hby := Bd.bytes
  have hml : c.maxLocals = 1 := hml0
  have hown : s.vm.findClass "java/lang/StringUTF16" = some m.cls := findClass_of_methodNamed Bd.named
  have hnm := (name_of_methodNamed Bd.named Bd.method).1
  have X0 : Stand p l e ({ frames := 0, cells := 0, slots := 0, locals := 0 } : Room) s m #[(.int (4 : Int32))] below meth c s₁ [] 0 0 := Stand.of_body Bd
  have e0 : s₁.heap = h0 := by rw [← hh, Bd.state]; rfl
  have N0 := Fr.nil n0
  have hlk := Bd.notSynchronized
  show OwnGo p.tables e below _ (s₁.setTop (entryFrame m #[(.int (4 : Int32))] 1))
  rw [ef_rm28_4 m ]
  show OwnGo p.tables e below _ (s₁.setTop (mkF m 0 #[.val (.int (4 : Int32))] []))
  refine OwnGo.of (B := s₁.setTop (mkF m 1 #[.val (.int (4 : Int32))] [(.int (4 : Int32))])) (fun t k => ?_) ?_
  · show Steps p.tables e below (s₁.setTop (mkF m 0 #[.val (.int (4 : Int32))] [])) t
    refine XS.iloadN X0.here hx rfl (hb hby d28_0) rfl ?_
    exact k
  have hc1 : ¬ ((4 : Int32) < (0 : Int32)) := by decide
  refine OwnGo.of (B := s₁.setTop (mkF m 15 #[.val (.int (4 : Int32))] [(.int (1073741823 : Int32)), (.int (4 : Int32))])) (fun t k => ?_) ?_
  · show Steps p.tables e below (s₁.setTop (mkF m 1 #[.val (.int (4 : Int32))] [(.int (4 : Int32))])) t
    refine XS.ifYes X0.here hx rfl (pc0 := 1) (pc' := 12) rfl (hb hby d28_1) rfl ((if0 _ _).trans (flt hc1).2.1) (by decide) (by decide) ?_
    refine XS.iloadN X0.here hx rfl (hb hby d28_12) rfl ?_
    refine X0.ldcInt hx hown (mvT hZ (w122 hw)) (g := (mkF m 13 #[.val (.int (4 : Int32))] [(.int (4 : Int32))])) rfl (hb hby d28_13) _ ?_
    exact k
  have hc2 : (4 : Int32) < (1073741823 : Int32) := by decide
  refine OwnGo.of (B := s₁.setTop (mkF m 58 #[.val (.int (4 : Int32))] [(.int (8 : Int32))])) (fun t k => ?_) ?_
  · show Steps p.tables e below (s₁.setTop (mkF m 15 #[.val (.int (4 : Int32))] [(.int (1073741823 : Int32)), (.int (4 : Int32))])) t
    refine XS.icmpYes X0.here hx rfl (pc0 := 15) (pc' := 55) rfl (hb hby d28_15) rfl (tlt hc2).1 (by decide) (by decide) ?_
    refine XS.iloadN X0.here hx rfl (hb hby d28_55) rfl ?_
    refine XS.iconst X0.here hx rfl (hb hby d28_56) ?_
    refine XS.ishl X0.here hx rfl (hb hby d28_57) rfl ?_
    exact k
  obtain ⟨fs, hr, hrun, hended, hW, hsame⟩ := X0.leave (v := some (.int (8 : Int32))) (fun h => by rw [Bd.returns] at h; cases h) hlk
  refine ⟨_, _, ?_, hrun, hended, _, _, rfl, ?_, ⟨_, rfl⟩, hW, hsame.mono (by decide) (by decide)⟩
  · show Steps p.tables e below (s₁.setTop (mkF m 58 #[.val (.int (4 : Int32))] [(.int (8 : Int32))])) _
    exact own_retI X0 hx Bd.returns (hb hby d28_58) hr
  · show Qrm28_4 Z  h0 n0 _ (s₁.setFrames fs).heap _
    rw [show (s₁.setFrames fs).heap = h0 from e0]
    exact ⟨rfl, N0, rfl⟩
theorem ef_rm27_4 (m : MethodId)  : entryFrame m #[(.int (4 : Int32))] 1 = mkF m 0 #[.val (.int (4 : Int32))] [] := by first | (simp [entryFrame, mkF, argsToLocals, Value.category]; done) | rfl
def Qrm27_4 (Z : State)  (h0 : Heap) (n0 : Nat) (v : Option Value) (h : Heap) (L : List Loc) : Prop := Fr n0 L ∧ Keep h0 h [] ∧ ∃ (y : Addr) (k : ClassId), v = some (.ref y) ∧ Arv Z h y k .byte (8 : Int32) [(.int (0 : Int32)), (.int (0 : Int32)), (.int (0 : Int32)), (.int (0 : Int32)), (.int (0 : Int32)), (.int (0 : Int32)), (.int (0 : Int32)), (.int (0 : Int32))] (.int (0 : Int32)) ∧ h0.size ≤ y
set_option maxRecDepth 65536 in
set_option maxHeartbeats 40000000 in
theorem rm27_4 (l : Launch) (Z : State) (aw : Array Value) (hw : ∀ d ∈ tables_1, d.before aw Z = true) (ws : List Jvm.Cond)  (h0 : Heap) (n0 : Nat) (Z0 : n0 ≤ h0.size) :
    MetFree l (⟨"java/lang/StringUTF16", "newBytesFor", "(I)[B"⟩ : MethodName) (head1 (Jvm.Cond.code (⟨"java/lang/StringUTF16", "newBytesFor", "(I)[B"⟩ : MethodName) jdk_52_method_2_code 1 (some (.array .byte)) :: ws) ({ frames := 1, cells := 1, slots := 8, locals := 12 } : Room)) (fun a U => a = #[(.int (4 : Int32))] ∧ Z.Warmed39 U.vm ∧ U.heap = h0) (fun _ _ _ _ _ => True) (fun _ U o U' => ∃ v L, o = .returned v ∧ Qrm27_4 Z  h0 n0 v U'.heap L ∧ FrameEnd U o U' L ({ frames := 1, cells := 1, slots := 8, locals := 12 } : Room).cells ({ frames := 1, cells := 1, slots := 8, locals := 12 } : Room).slots) := by
  refine MetFree.of_bodySF (plainFor_of_name pn_60) hisR ?_
  intro p e s m args below meth c s₁ Bd hml0 hP hK
  obtain ⟨rfl, hZ, hh⟩ := hP
  have hx := Bd.exec
  have hby := Bd.bytes
  have hml : c.maxLocals = 1 := hml0
  have hown : s.vm.findClass "java/lang/StringUTF16" = some m.cls := findClass_of_methodNamed Bd.named
  have hnm := (name_of_methodNamed Bd.named Bd.method).1
  have X0 : Stand p l e ({ frames := 1, cells := 1, slots := 8, locals := 12 } : Room) s m #[(.int (4 : Int32))] below meth c s₁ [] 0 0 := Stand.of_body Bd
  have e0 : s₁.heap = h0 := by rw [← hh, Bd.state]; rfl
  have N0 := Fr.nil n0
  have hlk := Bd.notSynchronized
  show OwnGo p.tables e below _ (s₁.setTop (entryFrame m #[(.int (4 : Int32))] 1))
  rw [ef_rm27_4 m ]
  have K0 : Keep h0 h0 [] := Keep.refl _ _
  show OwnGo p.tables e below _ (s₁.setTop (mkF m 0 #[.val (.int (4 : Int32))] []))
  refine OwnGo.of (B := s₁.setTop (mkF m 1 #[.val (.int (4 : Int32))] [(.int (4 : Int32))])) (fun t k => ?_) ?_
  · show Steps p.tables e below (s₁.setTop (mkF m 0 #[.val (.int (4 : Int32))] [])) t
    refine XS.iloadN X0.here hx rfl (hb hby d27_0) rfl ?_
    exact k
  obtain ⟨T1, L1, v1, X1, hQ1, st1⟩ := own_callS X0 hx (y := (⟨"java/lang/StringUTF16", "newBytesLength", "(I)I"⟩ : MethodName)) hown (mvT hZ (w119 hw)) (mvT hZ (w120 hw)) (mvT hZ (w42 hw)) (mvT hZ (w121 hw)) (by decide) (backOf (W := 0) (rm28_4 l Z aw hw []   h0 n0 Z0 ) hZ (w121 hw) (w42 hw) (by decide) (by decide)) (g := (mkF m 1 #[.val (.int (4 : Int32))] [(.int (4 : Int32))])) rfl (by rw [hml]; rfl) (argsL := [(.int (4 : Int32))]) (rest := []) (lenOf pd_87 rfl) rfl (by show 2 * 0 + _ ≤ _; exact Nat.le_of_eq rfl) (hb hby d27_1) rfl e0 (by decide) (by decide)
  obtain ⟨rfl, N1q, eq1⟩ := hQ1
  have N1 := Fr.app N0 N1q
  refine OwnGo.of st1 ?_
  show OwnGo p.tables e below _ (T1.setTop (mkF m 4 #[.val (.int (4 : Int32))] [(.int (8 : Int32))]))
  obtain ⟨T2, h2, kq2, X2, e2, E2, A2, st2⟩ := newP (aty := .byte) X1 hx hZ (w20 hw) eq1 (g := (mkF m 4 #[.val (.int (4 : Int32))] [(.int (8 : Int32))])) rfl (hb hby d27_4) rfl (by decide) (cap := 8) (by decide) (by decide) (by decide) (by decide)
  obtain ⟨b2, g2⟩ : ∃ z, z = h0.size := ⟨_, rfl⟩
  rw [← g2] at A2 st2
  refine OwnGo.of st2 ?_
  have g_b2 : n0 ≤ b2 := Nat.le_trans Z0 (Nat.le_of_eq g2.symm)
  have sz_b2 : h0.size ≤ b2 := Nat.le_trans K0.1 (Nat.le_of_eq g2.symm)
  have f3 := Nat.le_trans Z0 E2.1
  have f4 := K0.ext E2
  have f5 : Arv Z h2 b2 kq2 .byte (8 : Int32) [(.int (0 : Int32)), (.int (0 : Int32)), (.int (0 : Int32)), (.int (0 : Int32)), (.int (0 : Int32)), (.int (0 : Int32)), (.int (0 : Int32)), (.int (0 : Int32))] (.int (0 : Int32)) := (Arv.new A2 (by decide)).pad (pad_rep [] (.int (0 : Int32)) 8)
  show OwnGo p.tables e below _ (T2.setTop (mkF m 6 #[.val (.int (4 : Int32))] [(.ref b2)]))
  obtain ⟨fs, hr, hrun, hended, hW, hsame⟩ := X2.leave (v := some (.ref b2)) (fun h => by rw [Bd.returns] at h; cases h) hlk
  refine ⟨_, _, ?_, hrun, hended, _, _, rfl, ?_, ⟨_, rfl⟩, hW, hsame.mono (by decide) (by decide)⟩
  · show Steps p.tables e below (T2.setTop (mkF m 6 #[.val (.int (4 : Int32))] [(.ref b2)])) _
    exact own_retA X2 hx Bd.returns rfl rfl rfl (hb hby d27_6) hr
  · show Qrm27_4 Z  h0 n0 _ (T2.setFrames fs).heap _
    rw [show (T2.setFrames fs).heap = h2 from e2]
    exact ⟨N1, f4, b2, _, rfl, f5, sz_b2⟩
theorem ef_rm26_4 (m : MethodId) (a0 : Addr) : entryFrame m #[(.ref a0), (.int (0 : Int32)), (.int (4 : Int32))] 5 = mkF m 0 #[.val (.ref a0), .val (.int (0 : Int32)), .val (.int (4 : Int32)), .unset, .unset] [] := by first | (simp [entryFrame, mkF, argsToLocals, Value.category]; done) | rfl
def Qrm26_4 (Z : State) (a0 : Addr) (k0 : Int32) (k1 : Int32) (k2 : Int32) (k3 : Int32) (kc : ClassId) (h0 : Heap) (n0 : Nat) (v : Option Value) (h : Heap) (L : List Loc) : Prop := Fr n0 L ∧ Keep h0 h [] ∧ ∃ (y : Addr) (k : ClassId), v = some (.ref y) ∧ Arv Z h y k .byte (8 : Int32) (StrChars.Road.wideBytes ([k0, k1, k2, k3] : List Int32)) (.int (0 : Int32)) ∧ h0.size ≤ y
set_option maxRecDepth 65536 in
set_option maxHeartbeats 40000000 in
theorem rm26_4 (l : Launch) (Z : State) (aw : Array Value) (hw : ∀ d ∈ tables_1, d.before aw Z = true) (ws : List Jvm.Cond) (a0 : Addr) (k0 : Int32) (k1 : Int32) (k2 : Int32) (k3 : Int32) (kc : ClassId) (h0 : Heap) (n0 : Nat) (Z0 : n0 ≤ h0.size) (V_a : Arv Z h0 a0 kc .char (4 : Int32) [(.int k0), (.int k1), (.int k2), (.int k3)] (.int (0 : Int32))) (S__assertionsDisabled : Sta Z h0 "java/lang/StringUTF16" "$assertionsDisabled" "Z" (.int (1 : Int32))) (S_HI_BYTE_SHIFT : Sta Z h0 "java/lang/StringUTF16" "HI_BYTE_SHIFT" "I" (.int (0 : Int32))) (S_LO_BYTE_SHIFT : Sta Z h0 "java/lang/StringUTF16" "LO_BYTE_SHIFT" "I" (.int (8 : Int32))) :
    MetFree l (⟨"java/lang/StringUTF16", "toBytes", "([CII)[B"⟩ : MethodName) (head1 (Jvm.Cond.code (⟨"java/lang/StringUTF16", "toBytes", "([CII)[B"⟩ : MethodName) jdk_52_method_14_code 5 (some (.array .byte)) :: ws) ({ frames := 2, cells := 1, slots := 8, locals := 24 } : Room)) (fun a U => a = #[(.ref a0), (.int (0 : Int32)), (.int (4 : Int32))] ∧ Z.Warmed39 U.vm ∧ U.heap = h0) (fun _ _ _ _ _ => True) (fun _ U o U' => ∃ v L, o = .returned v ∧ Qrm26_4 Z a0 k0 k1 k2 k3 kc h0 n0 v U'.heap L ∧ FrameEnd U o U' L ({ frames := 2, cells := 1, slots := 8, locals := 24 } : Room).cells ({ frames := 2, cells := 1, slots := 8, locals := 24 } : Room).slots) := by
  refine MetFree.of_bodySF (plainFor_of_name pn_60) hisR ?_
  intro p e s m args below meth c s₁ Bd hml0 hP hK
  obtain ⟨rfl, hZ, hh⟩ := hP
  have hx := Bd.exec
  have hby := Bd.bytes
  have hml : c.maxLocals = 5 := hml0
  have hown : s.vm.findClass "java/lang/StringUTF16" = some m.cls := findClass_of_methodNamed Bd.named
  have hnm := (name_of_methodNamed Bd.named Bd.method).1
  have X0 : Stand p l e ({ frames := 2, cells := 1, slots := 8, locals := 24 } : Room) s m #[(.ref a0), (.int (0 : Int32)), (.int (4 : Int32))] below meth c s₁ [] 0 0 := Stand.of_body Bd
  have e0 : s₁.heap = h0 := by rw [← hh, Bd.state]; rfl
  have N0 := Fr.nil n0
  have hlk := Bd.notSynchronized
  show OwnGo p.tables e below _ (s₁.setTop (entryFrame m #[(.ref a0), (.int (0 : Int32)), (.int (4 : Int32))] 5))
  rw [ef_rm26_4 m a0]
  have K0 : Keep h0 h0 [] := Keep.refl _ _
  show OwnGo p.tables e below _ (s₁.setTop (mkF m 0 #[.val (.ref a0), .val (.int (0 : Int32)), .val (.int (4 : Int32)), .unset, .unset] []))
  refine OwnGo.of (B := s₁.setTop (mkF m 1 #[.val (.ref a0), .val (.int (0 : Int32)), .val (.int (4 : Int32)), .unset, .unset] [(.int (4 : Int32))])) (fun t k => ?_) ?_
  · show Steps p.tables e below (s₁.setTop (mkF m 0 #[.val (.ref a0), .val (.int (0 : Int32)), .val (.int (4 : Int32)), .unset, .unset] [])) t
    refine XS.iloadN X0.here hx rfl (hb hby d26_0) rfl ?_
    exact k
  obtain ⟨T1, L1, v1, X1, hQ1, st1⟩ := own_callS X0 hx (y := (⟨"java/lang/StringUTF16", "newBytesFor", "(I)[B"⟩ : MethodName)) hown (mvT hZ (w116 hw)) (mvT hZ (w117 hw)) (mvT hZ (w42 hw)) (mvT hZ (w118 hw)) (by decide) (backOf (W := 0) (rm27_4 l Z aw hw []   h0 n0 Z0 ) hZ (w118 hw) (w42 hw) (by decide) (by decide)) (g := (mkF m 1 #[.val (.ref a0), .val (.int (0 : Int32)), .val (.int (4 : Int32)), .unset, .unset] [(.int (4 : Int32))])) rfl (by rw [hml]; rfl) (argsL := [(.int (4 : Int32))]) (rest := []) (lenOf pd_92 rfl) rfl (by show 2 * 0 + _ ≤ _; exact Nat.le_of_eq rfl) (hb hby d26_1) rfl e0 (by decide) (by decide)
  obtain ⟨N1q, K1, y1, kq1, rfl, A1, gy1⟩ := hQ1
  have ne_a0_y1 : a0 ≠ y1 := Nat.ne_of_lt (Nat.lt_of_lt_of_le V_a.lt gy1)
  have g_y1 : n0 ≤ y1 := Nat.le_trans Z0 gy1
  have sz_y1 : h0.size ≤ y1 := Nat.le_trans K0.1 gy1
  have f2 := Nat.le_trans Z0 K1.1
  have f3 := K0.trans K1 all0
  have f4 := own_sta_keep S__assertionsDisabled K1 all0
  have f5 := own_sta_keep S_HI_BYTE_SHIFT K1 all0
  have f6 := own_sta_keep S_LO_BYTE_SHIFT K1 all0
  have f7 := V_a.keep K1 nin0
  have f8 : Arv Z T1.heap y1 kq1 .byte (8 : Int32) [(.int (0 : Int32)), (.int (0 : Int32)), (.int (0 : Int32)), (.int (0 : Int32)), (.int (0 : Int32)), (.int (0 : Int32)), (.int (0 : Int32)), (.int (0 : Int32))] (.int (0 : Int32)) := A1
  have N1 := Fr.app N0 N1q
  refine OwnGo.of st1 ?_
  show OwnGo p.tables e below _ (T1.setTop (mkF m 4 #[.val (.ref a0), .val (.int (0 : Int32)), .val (.int (4 : Int32)), .unset, .unset] [(.ref y1)]))
  refine OwnGo.of (B := T1.setTop (mkF m 11 #[.val (.ref a0), .val (.int (0 : Int32)), .val (.int (4 : Int32)), .val (.ref y1), .val (.int (0 : Int32))] [(.int (4 : Int32)), (.int (0 : Int32))])) (fun t k => ?_) ?_
  · show Steps p.tables e below (T1.setTop (mkF m 4 #[.val (.ref a0), .val (.int (0 : Int32)), .val (.int (4 : Int32)), .unset, .unset] [(.ref y1)])) t
    refine XS.astoreN X1.here hx rfl (hb hby d26_4) rfl rfl (l' := #[.val (.ref a0), .val (.int (0 : Int32)), .val (.int (4 : Int32)), .val (.ref y1), .unset]) rfl ?_
    refine XS.iconst X1.here hx rfl (hb hby d26_5) ?_
    refine XS.istore X1.here hx rfl (hb hby d26_6) rfl (l' := #[.val (.ref a0), .val (.int (0 : Int32)), .val (.int (4 : Int32)), .val (.ref y1), .val (.int (0 : Int32))]) rfl ?_
    refine XS.iload X1.here hx rfl (hb hby d26_8) rfl ?_
    refine XS.iloadN X1.here hx rfl (hb hby d26_10) rfl ?_
    exact k
  have hc9 : (0 : Int32) < (4 : Int32) := by decide
  refine OwnGo.of (B := T1.setTop (mkF m 19 #[.val (.ref a0), .val (.int (0 : Int32)), .val (.int (4 : Int32)), .val (.ref y1), .val (.int (0 : Int32))] [(.int (0 : Int32)), (.ref a0), (.int (0 : Int32)), (.ref y1)])) (fun t k => ?_) ?_
  · show Steps p.tables e below (T1.setTop (mkF m 11 #[.val (.ref a0), .val (.int (0 : Int32)), .val (.int (4 : Int32)), .val (.ref y1), .val (.int (0 : Int32))] [(.int (4 : Int32)), (.int (0 : Int32))])) t
    refine XS.icmpNo X1.here hx rfl (hb hby d26_11) rfl (tlt hc9).2.1 ?_
    refine XS.aloadN X1.here hx rfl (hb hby d26_14) rfl rfl ?_
    refine XS.iload X1.here hx rfl (hb hby d26_15) rfl ?_
    refine XS.aloadN X1.here hx rfl (hb hby d26_17) rfl rfl ?_
    refine XS.iloadN X1.here hx rfl (hb hby d26_18) rfl ?_
    exact k
  have cq10 := f7
  obtain ⟨clq10, Arq10, qq10, Sq10, Nq10, Hq10, Gq10⟩ := cq10
  have hinq10 := inb_of (j := (0 : Int32)) Sq10 ⟨by decide, by decide⟩
  refine OwnGo.of (X1.caload hx (j := (0 : Int32)) (v := (.int k0)) Arq10.1 (State.isArrayOf_alike hZ.alike Arq10.2.1) Arq10.2.2 hinq10 (Hq10.at hinq10 rfl) (g := (mkF m 19 #[.val (.ref a0), .val (.int (0 : Int32)), .val (.int (4 : Int32)), .val (.ref y1), .val (.int (0 : Int32))] [(.int (0 : Int32)), (.ref a0), (.int (0 : Int32)), (.ref y1)])) rfl rfl (hb hby d26_19)) ?_
  show OwnGo p.tables e below _ (T1.setTop (mkF m 20 #[.val (.ref a0), .val (.int (0 : Int32)), .val (.int (4 : Int32)), .val (.ref y1), .val (.int (0 : Int32))] [(.int k0), (.int (0 : Int32)), (.ref y1)]))
  obtain ⟨T11, L11, v11, X11, hQ11, st11⟩ := own_callS X1 hx (y := (⟨"java/lang/StringUTF16", "putChar", "([BII)V"⟩ : MethodName)) hown (mvT hZ (w123 hw)) (mvT hZ (w124 hw)) (mvT hZ (w42 hw)) (mvT hZ (w125 hw)) (by decide) (backOf (W := 0) (rm29_0 l Z aw hw [] y1 k0 kq1 (8 : Int32) ([(.int (0 : Int32)), (.int (0 : Int32)), (.int (0 : Int32)), (.int (0 : Int32)), (.int (0 : Int32)), (.int (0 : Int32)), (.int (0 : Int32)), (.int (0 : Int32))] : List Value) T1.heap n0 f2 f8 g_y1 f4 f5 f6 (by decide) (by decide) (Nat.le_of_ble_eq_true rfl) (Nat.le_of_ble_eq_true rfl)) hZ (w125 hw) (w42 hw) (by decide) (by decide)) (g := (mkF m 20 #[.val (.ref a0), .val (.int (0 : Int32)), .val (.int (4 : Int32)), .val (.ref y1), .val (.int (0 : Int32))] [(.int k0), (.int (0 : Int32)), (.ref y1)])) rfl (by rw [hml]; rfl) (argsL := [(.ref y1), (.int (0 : Int32)), (.int k0)]) (rest := []) (lenOf pd_96 rfl) rfl (by show 2 * 0 + _ ≤ _; exact Nat.le_of_eq rfl) (hb hby d26_20) rfl rfl (by decide) (by decide)
  obtain ⟨rfl, N11q, K11, y11_0⟩ := hQ11
  have f12 := Nat.le_trans f2 K11.1
  have f13 := f3.trans K11 (allS (Or.inr sz_y1) all0)
  have f14 := own_sta_keep f4 K11 (allS (own_ns_arv f8) all0)
  have f15 := own_sta_keep f5 K11 (allS (own_ns_arv f8) all0)
  have f16 := own_sta_keep f6 K11 (allS (own_ns_arv f8) all0)
  have f17 := f7.keep K11 (ninS ne_a0_y1 nin0)
  have f18 : Arv Z T11.heap y1 kq1 .byte (8 : Int32) [(.int (StrChars.lo8 k0)), (.int (StrChars.hi8 k0)), (.int (0 : Int32)), (.int (0 : Int32)), (.int (0 : Int32)), (.int (0 : Int32)), (.int (0 : Int32)), (.int (0 : Int32))] (.int (0 : Int32)) := y11_0
  have N11 := Fr.app N1 N11q
  refine OwnGo.of st11 ?_
  show OwnGo p.tables e below _ (T11.setTop (mkF m 23 #[.val (.ref a0), .val (.int (0 : Int32)), .val (.int (4 : Int32)), .val (.ref y1), .val (.int (0 : Int32))] []))
  refine OwnGo.of (B := T11.setTop (mkF m 11 #[.val (.ref a0), .val (.int (1 : Int32)), .val (.int (4 : Int32)), .val (.ref y1), .val (.int (1 : Int32))] [(.int (4 : Int32)), (.int (1 : Int32))])) (fun t k => ?_) ?_
  · show Steps p.tables e below (T11.setTop (mkF m 23 #[.val (.ref a0), .val (.int (0 : Int32)), .val (.int (4 : Int32)), .val (.ref y1), .val (.int (0 : Int32))] [])) t
    refine XS.iinc X11.here hx rfl (hb hby d26_23) rfl (l' := #[.val (.ref a0), .val (.int (1 : Int32)), .val (.int (4 : Int32)), .val (.ref y1), .val (.int (0 : Int32))]) rfl ?_
    refine XS.iinc X11.here hx rfl (hb hby d26_26) rfl (l' := #[.val (.ref a0), .val (.int (1 : Int32)), .val (.int (4 : Int32)), .val (.ref y1), .val (.int (1 : Int32))]) rfl ?_
    refine XS.goto X11.here hx rfl (pc0 := 29) (pc' := 8) rfl (hb hby d26_29) (by decide) (by decide) ?_
    refine XS.iload X11.here hx rfl (hb hby d26_8) rfl ?_
    refine XS.iloadN X11.here hx rfl (hb hby d26_10) rfl ?_
    exact k
  have hc19 : (1 : Int32) < (4 : Int32) := by decide
  refine OwnGo.of (B := T11.setTop (mkF m 19 #[.val (.ref a0), .val (.int (1 : Int32)), .val (.int (4 : Int32)), .val (.ref y1), .val (.int (1 : Int32))] [(.int (1 : Int32)), (.ref a0), (.int (1 : Int32)), (.ref y1)])) (fun t k => ?_) ?_
  · show Steps p.tables e below (T11.setTop (mkF m 11 #[.val (.ref a0), .val (.int (1 : Int32)), .val (.int (4 : Int32)), .val (.ref y1), .val (.int (1 : Int32))] [(.int (4 : Int32)), (.int (1 : Int32))])) t
    refine XS.icmpNo X11.here hx rfl (hb hby d26_11) rfl (tlt hc19).2.1 ?_
    refine XS.aloadN X11.here hx rfl (hb hby d26_14) rfl rfl ?_
    refine XS.iload X11.here hx rfl (hb hby d26_15) rfl ?_
    refine XS.aloadN X11.here hx rfl (hb hby d26_17) rfl rfl ?_
    refine XS.iloadN X11.here hx rfl (hb hby d26_18) rfl ?_
    exact k
  have cq20 := f17
  obtain ⟨clq20, Arq20, qq20, Sq20, Nq20, Hq20, Gq20⟩ := cq20
  have hinq20 := inb_of (j := (1 : Int32)) Sq20 ⟨by decide, by decide⟩
  refine OwnGo.of (X11.caload hx (j := (1 : Int32)) (v := (.int k1)) Arq20.1 (State.isArrayOf_alike hZ.alike Arq20.2.1) Arq20.2.2 hinq20 (Hq20.at hinq20 rfl) (g := (mkF m 19 #[.val (.ref a0), .val (.int (1 : Int32)), .val (.int (4 : Int32)), .val (.ref y1), .val (.int (1 : Int32))] [(.int (1 : Int32)), (.ref a0), (.int (1 : Int32)), (.ref y1)])) rfl rfl (hb hby d26_19)) ?_
  show OwnGo p.tables e below _ (T11.setTop (mkF m 20 #[.val (.ref a0), .val (.int (1 : Int32)), .val (.int (4 : Int32)), .val (.ref y1), .val (.int (1 : Int32))] [(.int k1), (.int (1 : Int32)), (.ref y1)]))
  obtain ⟨T21, L21, v21, X21, hQ21, st21⟩ := own_callS X11 hx (y := (⟨"java/lang/StringUTF16", "putChar", "([BII)V"⟩ : MethodName)) hown (mvT hZ (w123 hw)) (mvT hZ (w124 hw)) (mvT hZ (w42 hw)) (mvT hZ (w125 hw)) (by decide) (backOf (W := 0) (rm29_1 l Z aw hw [] y1 k1 kq1 (8 : Int32) ([(.int (StrChars.lo8 k0)), (.int (StrChars.hi8 k0)), (.int (0 : Int32)), (.int (0 : Int32)), (.int (0 : Int32)), (.int (0 : Int32)), (.int (0 : Int32)), (.int (0 : Int32))] : List Value) T11.heap n0 f12 f18 g_y1 f14 f15 f16 (by decide) (by decide) (Nat.le_of_ble_eq_true rfl) (Nat.le_of_ble_eq_true rfl)) hZ (w125 hw) (w42 hw) (by decide) (by decide)) (g := (mkF m 20 #[.val (.ref a0), .val (.int (1 : Int32)), .val (.int (4 : Int32)), .val (.ref y1), .val (.int (1 : Int32))] [(.int k1), (.int (1 : Int32)), (.ref y1)])) rfl (by rw [hml]; rfl) (argsL := [(.ref y1), (.int (1 : Int32)), (.int k1)]) (rest := []) (lenOf pd_96 rfl) rfl (by show 2 * 0 + _ ≤ _; exact Nat.le_of_eq rfl) (hb hby d26_20) rfl rfl (by decide) (by decide)
  obtain ⟨rfl, N21q, K21, y21_0⟩ := hQ21
  have f22 := Nat.le_trans f12 K21.1
  have f23 := f13.trans K21 (allS (Or.inr sz_y1) all0)
  have f24 := own_sta_keep f14 K21 (allS (own_ns_arv f18) all0)
  have f25 := own_sta_keep f15 K21 (allS (own_ns_arv f18) all0)
  have f26 := own_sta_keep f16 K21 (allS (own_ns_arv f18) all0)
  have f27 := f17.keep K21 (ninS ne_a0_y1 nin0)
  have f28 : Arv Z T21.heap y1 kq1 .byte (8 : Int32) [(.int (StrChars.lo8 k0)), (.int (StrChars.hi8 k0)), (.int (StrChars.lo8 k1)), (.int (StrChars.hi8 k1)), (.int (0 : Int32)), (.int (0 : Int32)), (.int (0 : Int32)), (.int (0 : Int32))] (.int (0 : Int32)) := y21_0
  have N21 := Fr.app N11 N21q
  refine OwnGo.of st21 ?_
  show OwnGo p.tables e below _ (T21.setTop (mkF m 23 #[.val (.ref a0), .val (.int (1 : Int32)), .val (.int (4 : Int32)), .val (.ref y1), .val (.int (1 : Int32))] []))
  refine OwnGo.of (B := T21.setTop (mkF m 11 #[.val (.ref a0), .val (.int (2 : Int32)), .val (.int (4 : Int32)), .val (.ref y1), .val (.int (2 : Int32))] [(.int (4 : Int32)), (.int (2 : Int32))])) (fun t k => ?_) ?_
  · show Steps p.tables e below (T21.setTop (mkF m 23 #[.val (.ref a0), .val (.int (1 : Int32)), .val (.int (4 : Int32)), .val (.ref y1), .val (.int (1 : Int32))] [])) t
    refine XS.iinc X21.here hx rfl (hb hby d26_23) rfl (l' := #[.val (.ref a0), .val (.int (2 : Int32)), .val (.int (4 : Int32)), .val (.ref y1), .val (.int (1 : Int32))]) rfl ?_
    refine XS.iinc X21.here hx rfl (hb hby d26_26) rfl (l' := #[.val (.ref a0), .val (.int (2 : Int32)), .val (.int (4 : Int32)), .val (.ref y1), .val (.int (2 : Int32))]) rfl ?_
    refine XS.goto X21.here hx rfl (pc0 := 29) (pc' := 8) rfl (hb hby d26_29) (by decide) (by decide) ?_
    refine XS.iload X21.here hx rfl (hb hby d26_8) rfl ?_
    refine XS.iloadN X21.here hx rfl (hb hby d26_10) rfl ?_
    exact k
  have hc29 : (2 : Int32) < (4 : Int32) := by decide
  refine OwnGo.of (B := T21.setTop (mkF m 19 #[.val (.ref a0), .val (.int (2 : Int32)), .val (.int (4 : Int32)), .val (.ref y1), .val (.int (2 : Int32))] [(.int (2 : Int32)), (.ref a0), (.int (2 : Int32)), (.ref y1)])) (fun t k => ?_) ?_
  · show Steps p.tables e below (T21.setTop (mkF m 11 #[.val (.ref a0), .val (.int (2 : Int32)), .val (.int (4 : Int32)), .val (.ref y1), .val (.int (2 : Int32))] [(.int (4 : Int32)), (.int (2 : Int32))])) t
    refine XS.icmpNo X21.here hx rfl (hb hby d26_11) rfl (tlt hc29).2.1 ?_
    refine XS.aloadN X21.here hx rfl (hb hby d26_14) rfl rfl ?_
    refine XS.iload X21.here hx rfl (hb hby d26_15) rfl ?_
    refine XS.aloadN X21.here hx rfl (hb hby d26_17) rfl rfl ?_
    refine XS.iloadN X21.here hx rfl (hb hby d26_18) rfl ?_
    exact k
  have cq30 := f27
  obtain ⟨clq30, Arq30, qq30, Sq30, Nq30, Hq30, Gq30⟩ := cq30
  have hinq30 := inb_of (j := (2 : Int32)) Sq30 ⟨by decide, by decide⟩
  refine OwnGo.of (X21.caload hx (j := (2 : Int32)) (v := (.int k2)) Arq30.1 (State.isArrayOf_alike hZ.alike Arq30.2.1) Arq30.2.2 hinq30 (Hq30.at hinq30 rfl) (g := (mkF m 19 #[.val (.ref a0), .val (.int (2 : Int32)), .val (.int (4 : Int32)), .val (.ref y1), .val (.int (2 : Int32))] [(.int (2 : Int32)), (.ref a0), (.int (2 : Int32)), (.ref y1)])) rfl rfl (hb hby d26_19)) ?_
  show OwnGo p.tables e below _ (T21.setTop (mkF m 20 #[.val (.ref a0), .val (.int (2 : Int32)), .val (.int (4 : Int32)), .val (.ref y1), .val (.int (2 : Int32))] [(.int k2), (.int (2 : Int32)), (.ref y1)]))
  obtain ⟨T31, L31, v31, X31, hQ31, st31⟩ := own_callS X21 hx (y := (⟨"java/lang/StringUTF16", "putChar", "([BII)V"⟩ : MethodName)) hown (mvT hZ (w123 hw)) (mvT hZ (w124 hw)) (mvT hZ (w42 hw)) (mvT hZ (w125 hw)) (by decide) (backOf (W := 0) (rm29_2 l Z aw hw [] y1 k2 kq1 (8 : Int32) ([(.int (StrChars.lo8 k0)), (.int (StrChars.hi8 k0)), (.int (StrChars.lo8 k1)), (.int (StrChars.hi8 k1)), (.int (0 : Int32)), (.int (0 : Int32)), (.int (0 : Int32)), (.int (0 : Int32))] : List Value) T21.heap n0 f22 f28 g_y1 f24 f25 f26 (by decide) (by decide) (Nat.le_of_ble_eq_true rfl) (Nat.le_of_ble_eq_true rfl)) hZ (w125 hw) (w42 hw) (by decide) (by decide)) (g := (mkF m 20 #[.val (.ref a0), .val (.int (2 : Int32)), .val (.int (4 : Int32)), .val (.ref y1), .val (.int (2 : Int32))] [(.int k2), (.int (2 : Int32)), (.ref y1)])) rfl (by rw [hml]; rfl) (argsL := [(.ref y1), (.int (2 : Int32)), (.int k2)]) (rest := []) (lenOf pd_96 rfl) rfl (by show 2 * 0 + _ ≤ _; exact Nat.le_of_eq rfl) (hb hby d26_20) rfl rfl (by decide) (by decide)
  obtain ⟨rfl, N31q, K31, y31_0⟩ := hQ31
  have f32 := Nat.le_trans f22 K31.1
  have f33 := f23.trans K31 (allS (Or.inr sz_y1) all0)
  have f34 := own_sta_keep f24 K31 (allS (own_ns_arv f28) all0)
  have f35 := own_sta_keep f25 K31 (allS (own_ns_arv f28) all0)
  have f36 := own_sta_keep f26 K31 (allS (own_ns_arv f28) all0)
  have f37 := f27.keep K31 (ninS ne_a0_y1 nin0)
  have f38 : Arv Z T31.heap y1 kq1 .byte (8 : Int32) [(.int (StrChars.lo8 k0)), (.int (StrChars.hi8 k0)), (.int (StrChars.lo8 k1)), (.int (StrChars.hi8 k1)), (.int (StrChars.lo8 k2)), (.int (StrChars.hi8 k2)), (.int (0 : Int32)), (.int (0 : Int32))] (.int (0 : Int32)) := y31_0
  have N31 := Fr.app N21 N31q
  refine OwnGo.of st31 ?_
  show OwnGo p.tables e below _ (T31.setTop (mkF m 23 #[.val (.ref a0), .val (.int (2 : Int32)), .val (.int (4 : Int32)), .val (.ref y1), .val (.int (2 : Int32))] []))
  refine OwnGo.of (B := T31.setTop (mkF m 11 #[.val (.ref a0), .val (.int (3 : Int32)), .val (.int (4 : Int32)), .val (.ref y1), .val (.int (3 : Int32))] [(.int (4 : Int32)), (.int (3 : Int32))])) (fun t k => ?_) ?_
  · show Steps p.tables e below (T31.setTop (mkF m 23 #[.val (.ref a0), .val (.int (2 : Int32)), .val (.int (4 : Int32)), .val (.ref y1), .val (.int (2 : Int32))] [])) t
    refine XS.iinc X31.here hx rfl (hb hby d26_23) rfl (l' := #[.val (.ref a0), .val (.int (3 : Int32)), .val (.int (4 : Int32)), .val (.ref y1), .val (.int (2 : Int32))]) rfl ?_
    refine XS.iinc X31.here hx rfl (hb hby d26_26) rfl (l' := #[.val (.ref a0), .val (.int (3 : Int32)), .val (.int (4 : Int32)), .val (.ref y1), .val (.int (3 : Int32))]) rfl ?_
    refine XS.goto X31.here hx rfl (pc0 := 29) (pc' := 8) rfl (hb hby d26_29) (by decide) (by decide) ?_
    refine XS.iload X31.here hx rfl (hb hby d26_8) rfl ?_
    refine XS.iloadN X31.here hx rfl (hb hby d26_10) rfl ?_
    exact k
  have hc39 : (3 : Int32) < (4 : Int32) := by decide
  refine OwnGo.of (B := T31.setTop (mkF m 19 #[.val (.ref a0), .val (.int (3 : Int32)), .val (.int (4 : Int32)), .val (.ref y1), .val (.int (3 : Int32))] [(.int (3 : Int32)), (.ref a0), (.int (3 : Int32)), (.ref y1)])) (fun t k => ?_) ?_
  · show Steps p.tables e below (T31.setTop (mkF m 11 #[.val (.ref a0), .val (.int (3 : Int32)), .val (.int (4 : Int32)), .val (.ref y1), .val (.int (3 : Int32))] [(.int (4 : Int32)), (.int (3 : Int32))])) t
    refine XS.icmpNo X31.here hx rfl (hb hby d26_11) rfl (tlt hc39).2.1 ?_
    refine XS.aloadN X31.here hx rfl (hb hby d26_14) rfl rfl ?_
    refine XS.iload X31.here hx rfl (hb hby d26_15) rfl ?_
    refine XS.aloadN X31.here hx rfl (hb hby d26_17) rfl rfl ?_
    refine XS.iloadN X31.here hx rfl (hb hby d26_18) rfl ?_
    exact k
  have cq40 := f37
  obtain ⟨clq40, Arq40, qq40, Sq40, Nq40, Hq40, Gq40⟩ := cq40
  have hinq40 := inb_of (j := (3 : Int32)) Sq40 ⟨by decide, by decide⟩
  refine OwnGo.of (X31.caload hx (j := (3 : Int32)) (v := (.int k3)) Arq40.1 (State.isArrayOf_alike hZ.alike Arq40.2.1) Arq40.2.2 hinq40 (Hq40.at hinq40 rfl) (g := (mkF m 19 #[.val (.ref a0), .val (.int (3 : Int32)), .val (.int (4 : Int32)), .val (.ref y1), .val (.int (3 : Int32))] [(.int (3 : Int32)), (.ref a0), (.int (3 : Int32)), (.ref y1)])) rfl rfl (hb hby d26_19)) ?_
  show OwnGo p.tables e below _ (T31.setTop (mkF m 20 #[.val (.ref a0), .val (.int (3 : Int32)), .val (.int (4 : Int32)), .val (.ref y1), .val (.int (3 : Int32))] [(.int k3), (.int (3 : Int32)), (.ref y1)]))
  obtain ⟨T41, L41, v41, X41, hQ41, st41⟩ := own_callS X31 hx (y := (⟨"java/lang/StringUTF16", "putChar", "([BII)V"⟩ : MethodName)) hown (mvT hZ (w123 hw)) (mvT hZ (w124 hw)) (mvT hZ (w42 hw)) (mvT hZ (w125 hw)) (by decide) (backOf (W := 0) (rm29_3 l Z aw hw [] y1 k3 kq1 (8 : Int32) ([(.int (StrChars.lo8 k0)), (.int (StrChars.hi8 k0)), (.int (StrChars.lo8 k1)), (.int (StrChars.hi8 k1)), (.int (StrChars.lo8 k2)), (.int (StrChars.hi8 k2)), (.int (0 : Int32)), (.int (0 : Int32))] : List Value) T31.heap n0 f32 f38 g_y1 f34 f35 f36 (by decide) (by decide) (Nat.le_of_ble_eq_true rfl) (Nat.le_of_ble_eq_true rfl)) hZ (w125 hw) (w42 hw) (by decide) (by decide)) (g := (mkF m 20 #[.val (.ref a0), .val (.int (3 : Int32)), .val (.int (4 : Int32)), .val (.ref y1), .val (.int (3 : Int32))] [(.int k3), (.int (3 : Int32)), (.ref y1)])) rfl (by rw [hml]; rfl) (argsL := [(.ref y1), (.int (3 : Int32)), (.int k3)]) (rest := []) (lenOf pd_96 rfl) rfl (by show 2 * 0 + _ ≤ _; exact Nat.le_of_eq rfl) (hb hby d26_20) rfl rfl (by decide) (by decide)
  obtain ⟨rfl, N41q, K41, y41_0⟩ := hQ41
  have f42 := Nat.le_trans f32 K41.1
  have f43 := f33.trans K41 (allS (Or.inr sz_y1) all0)
  have f44 := own_sta_keep f34 K41 (allS (own_ns_arv f38) all0)
  have f45 := own_sta_keep f35 K41 (allS (own_ns_arv f38) all0)
  have f46 := own_sta_keep f36 K41 (allS (own_ns_arv f38) all0)
  have f47 := f37.keep K41 (ninS ne_a0_y1 nin0)
  have f48 : Arv Z T41.heap y1 kq1 .byte (8 : Int32) [(.int (StrChars.lo8 k0)), (.int (StrChars.hi8 k0)), (.int (StrChars.lo8 k1)), (.int (StrChars.hi8 k1)), (.int (StrChars.lo8 k2)), (.int (StrChars.hi8 k2)), (.int (StrChars.lo8 k3)), (.int (StrChars.hi8 k3))] (.int (0 : Int32)) := y41_0
  have N41 := Fr.app N31 N41q
  refine OwnGo.of st41 ?_
  show OwnGo p.tables e below _ (T41.setTop (mkF m 23 #[.val (.ref a0), .val (.int (3 : Int32)), .val (.int (4 : Int32)), .val (.ref y1), .val (.int (3 : Int32))] []))
  refine OwnGo.of (B := T41.setTop (mkF m 11 #[.val (.ref a0), .val (.int (4 : Int32)), .val (.int (4 : Int32)), .val (.ref y1), .val (.int (4 : Int32))] [(.int (4 : Int32)), (.int (4 : Int32))])) (fun t k => ?_) ?_
  · show Steps p.tables e below (T41.setTop (mkF m 23 #[.val (.ref a0), .val (.int (3 : Int32)), .val (.int (4 : Int32)), .val (.ref y1), .val (.int (3 : Int32))] [])) t
    refine XS.iinc X41.here hx rfl (hb hby d26_23) rfl (l' := #[.val (.ref a0), .val (.int (4 : Int32)), .val (.int (4 : Int32)), .val (.ref y1), .val (.int (3 : Int32))]) rfl ?_
    refine XS.iinc X41.here hx rfl (hb hby d26_26) rfl (l' := #[.val (.ref a0), .val (.int (4 : Int32)), .val (.int (4 : Int32)), .val (.ref y1), .val (.int (4 : Int32))]) rfl ?_
    refine XS.goto X41.here hx rfl (pc0 := 29) (pc' := 8) rfl (hb hby d26_29) (by decide) (by decide) ?_
    refine XS.iload X41.here hx rfl (hb hby d26_8) rfl ?_
    refine XS.iloadN X41.here hx rfl (hb hby d26_10) rfl ?_
    exact k
  have hc49 : ¬ ((4 : Int32) < (4 : Int32)) := by decide
  refine OwnGo.of (B := T41.setTop (mkF m 33 #[.val (.ref a0), .val (.int (4 : Int32)), .val (.int (4 : Int32)), .val (.ref y1), .val (.int (4 : Int32))] [(.ref y1)])) (fun t k => ?_) ?_
  · show Steps p.tables e below (T41.setTop (mkF m 11 #[.val (.ref a0), .val (.int (4 : Int32)), .val (.int (4 : Int32)), .val (.ref y1), .val (.int (4 : Int32))] [(.int (4 : Int32)), (.int (4 : Int32))])) t
    refine XS.icmpYes X41.here hx rfl (pc0 := 11) (pc' := 32) rfl (hb hby d26_11) rfl (flt hc49).2.1 (by decide) (by decide) ?_
    refine XS.aloadN X41.here hx rfl (hb hby d26_32) rfl rfl ?_
    exact k
  obtain ⟨fs, hr, hrun, hended, hW, hsame⟩ := X41.leave (v := some (.ref y1)) (fun h => by rw [Bd.returns] at h; cases h) hlk
  refine ⟨_, _, ?_, hrun, hended, _, _, rfl, ?_, ⟨_, rfl⟩, hW, hsame.mono (by decide) (by decide)⟩
  · show Steps p.tables e below (T41.setTop (mkF m 33 #[.val (.ref a0), .val (.int (4 : Int32)), .val (.int (4 : Int32)), .val (.ref y1), .val (.int (4 : Int32))] [(.ref y1)])) _
    exact own_retA X41 hx Bd.returns rfl rfl rfl (hb hby d26_33) hr
  · show Qrm26_4 Z a0 k0 k1 k2 k3 kc h0 n0 _ (T41.setFrames fs).heap _
    rw [show (T41.setFrames fs).heap = T41.heap from rfl]
    exact ⟨N41, f43, y1, _, rfl, f48, sz_y1⟩
theorem ef_rm9_4 (m : MethodId) (a0 : Addr) (a2 : Addr) : entryFrame m #[(.ref a0), (.int (0 : Int32)), (.ref a2), (.int (0 : Int32)), (.int (4 : Int32))] 7 = mkF m 0 #[.val (.ref a0), .val (.int (0 : Int32)), .val (.ref a2), .val (.int (0 : Int32)), .val (.int (4 : Int32)), .unset, .unset] [] := by first | (simp [entryFrame, mkF, argsToLocals, Value.category]; done) | rfl
def Qrm9_4 (Z : State) (a0 : Addr) (a2 : Addr) (k0 : Int32) (k1 : Int32) (k2 : Int32) (k3 : Int32) (kc : ClassId) (kb : ClassId) (h0 : Heap) (n0 : Nat) (v : Option Value) (h : Heap) (L : List Loc) : Prop := Fr n0 L ∧ Keep h0 h [a2] ∧ ((v = some (.int (4 : Int32)) ∧ (∀ c ∈ ([k0, k1, k2, k3] : List Int32), ¬ 255 < c) ∧ Arv Z h a2 kb .byte (4 : Int32) [(.int (StrChars.lo8 k0)), (.int (StrChars.lo8 k1)), (.int (StrChars.lo8 k2)), (.int (StrChars.lo8 k3))] (.int (0 : Int32))) ∨ (∃ iv : Int32, v = some (.int iv) ∧ ((iv = (0 : Int32) ∧ 255 < k0) ∨ (iv = (1 : Int32) ∧ 255 < k1) ∨ (iv = (2 : Int32) ∧ 255 < k2) ∨ (iv = (3 : Int32) ∧ 255 < k3))))
set_option maxRecDepth 65536 in
set_option maxHeartbeats 40000000 in
theorem rm9_4 (l : Launch) (Z : State) (aw : Array Value) (hw : ∀ d ∈ tables_1, d.before aw Z = true) (ws : List Jvm.Cond) (a0 : Addr) (a2 : Addr) (k0 : Int32) (k1 : Int32) (k2 : Int32) (k3 : Int32) (kc : ClassId) (kb : ClassId) (h0 : Heap) (n0 : Nat) (Z0 : n0 ≤ h0.size) (V_a : Arv Z h0 a0 kc .char (4 : Int32) [(.int k0), (.int k1), (.int k2), (.int k3)] (.int (0 : Int32))) (V_b : Arv Z h0 a2 kb .byte (4 : Int32) [(.int (0 : Int32)), (.int (0 : Int32)), (.int (0 : Int32)), (.int (0 : Int32))] (.int (0 : Int32))) (g_a2 : n0 ≤ a2) (hne : a0 ≠ a2) :
    MetFree l (⟨"java/lang/StringUTF16", "compress", "([CI[BII)I"⟩ : MethodName) (head1 (Jvm.Cond.code (⟨"java/lang/StringUTF16", "compress", "([CI[BII)I"⟩ : MethodName) jdk_52_method_21_code 7 (some .int) :: ws) ({ frames := 0, cells := 0, slots := 0, locals := 0 } : Room)) (fun a U => a = #[(.ref a0), (.int (0 : Int32)), (.ref a2), (.int (0 : Int32)), (.int (4 : Int32))] ∧ Z.Warmed39 U.vm ∧ U.heap = h0) (fun _ _ _ _ _ => True) (fun _ U o U' => ∃ v L, o = .returned v ∧ Qrm9_4 Z a0 a2 k0 k1 k2 k3 kc kb h0 n0 v U'.heap L ∧ FrameEnd U o U' L ({ frames := 0, cells := 0, slots := 0, locals := 0 } : Room).cells ({ frames := 0, cells := 0, slots := 0, locals := 0 } : Room).slots) := by
  refine MetFree.of_bodySF (plainFor_of_name pn_60) hisR ?_
  intro p e s m args below meth c s₁ Bd hml0 hP hK
  obtain ⟨rfl, hZ, hh⟩ := hP
  have hx := Bd.exec
  have hby := Bd.bytes
  have hml : c.maxLocals = 7 := hml0
  have hown : s.vm.findClass "java/lang/StringUTF16" = some m.cls := findClass_of_methodNamed Bd.named
  have hnm := (name_of_methodNamed Bd.named Bd.method).1
  have X0 : Stand p l e ({ frames := 0, cells := 0, slots := 0, locals := 0 } : Room) s m #[(.ref a0), (.int (0 : Int32)), (.ref a2), (.int (0 : Int32)), (.int (4 : Int32))] below meth c s₁ [] 0 0 := Stand.of_body Bd
  have e0 : s₁.heap = h0 := by rw [← hh, Bd.state]; rfl
  have N0 := Fr.nil n0
  have hlk := Bd.notSynchronized
  show OwnGo p.tables e below _ (s₁.setTop (entryFrame m #[(.ref a0), (.int (0 : Int32)), (.ref a2), (.int (0 : Int32)), (.int (4 : Int32))] 7))
  rw [ef_rm9_4 m a0 a2]
  have K0 : Keep h0 h0 [a2] := Keep.refl _ _
  have ne1 : a0 ≠ a2 := hne
  show OwnGo p.tables e below _ (s₁.setTop (mkF m 0 #[.val (.ref a0), .val (.int (0 : Int32)), .val (.ref a2), .val (.int (0 : Int32)), .val (.int (4 : Int32)), .unset, .unset] []))
  refine OwnGo.of (B := s₁.setTop (mkF m 7 #[.val (.ref a0), .val (.int (0 : Int32)), .val (.ref a2), .val (.int (0 : Int32)), .val (.int (4 : Int32)), .val (.int (0 : Int32)), .unset] [(.int (4 : Int32)), (.int (0 : Int32))])) (fun t k => ?_) ?_
  · show Steps p.tables e below (s₁.setTop (mkF m 0 #[.val (.ref a0), .val (.int (0 : Int32)), .val (.ref a2), .val (.int (0 : Int32)), .val (.int (4 : Int32)), .unset, .unset] [])) t
    refine XS.iconst X0.here hx rfl (hb hby d9_0) ?_
    refine XS.istore X0.here hx rfl (hb hby d9_1) rfl (l' := #[.val (.ref a0), .val (.int (0 : Int32)), .val (.ref a2), .val (.int (0 : Int32)), .val (.int (4 : Int32)), .val (.int (0 : Int32)), .unset]) rfl ?_
    refine XS.iload X0.here hx rfl (hb hby d9_3) rfl ?_
    refine XS.iload X0.here hx rfl (hb hby d9_5) rfl ?_
    exact k
  have hc1 : (0 : Int32) < (4 : Int32) := by decide
  refine OwnGo.of (B := s₁.setTop (mkF m 12 #[.val (.ref a0), .val (.int (0 : Int32)), .val (.ref a2), .val (.int (0 : Int32)), .val (.int (4 : Int32)), .val (.int (0 : Int32)), .unset] [(.int (0 : Int32)), (.ref a0)])) (fun t k => ?_) ?_
  · show Steps p.tables e below (s₁.setTop (mkF m 7 #[.val (.ref a0), .val (.int (0 : Int32)), .val (.ref a2), .val (.int (0 : Int32)), .val (.int (4 : Int32)), .val (.int (0 : Int32)), .unset] [(.int (4 : Int32)), (.int (0 : Int32))])) t
    refine XS.icmpNo X0.here hx rfl (hb hby d9_7) rfl (tlt hc1).2.1 ?_
    refine XS.aloadN X0.here hx rfl (hb hby d9_10) rfl rfl ?_
    refine XS.iloadN X0.here hx rfl (hb hby d9_11) rfl ?_
    exact k
  have cq2 := V_a
  obtain ⟨clq2, Arq2, qq2, Sq2, Nq2, Hq2, Gq2⟩ := cq2
  have hinq2 := inb_of (j := (0 : Int32)) Sq2 ⟨by decide, by decide⟩
  refine OwnGo.of (X0.caload hx (j := (0 : Int32)) (v := (.int k0)) (by rw [e0]; exact Arq2.1) (State.isArrayOf_alike hZ.alike Arq2.2.1) Arq2.2.2 hinq2 (Hq2.at hinq2 rfl) (g := (mkF m 12 #[.val (.ref a0), .val (.int (0 : Int32)), .val (.ref a2), .val (.int (0 : Int32)), .val (.int (4 : Int32)), .val (.int (0 : Int32)), .unset] [(.int (0 : Int32)), (.ref a0)])) rfl rfl (hb hby d9_12)) ?_
  show OwnGo p.tables e below _ (s₁.setTop (mkF m 13 #[.val (.ref a0), .val (.int (0 : Int32)), .val (.ref a2), .val (.int (0 : Int32)), .val (.int (4 : Int32)), .val (.int (0 : Int32)), .unset] [(.int k0)]))
  refine OwnGo.of (B := s₁.setTop (mkF m 20 #[.val (.ref a0), .val (.int (0 : Int32)), .val (.ref a2), .val (.int (0 : Int32)), .val (.int (4 : Int32)), .val (.int (0 : Int32)), .val (.int k0)] [(.int (255 : Int32)), (.int k0)])) (fun t k => ?_) ?_
  · show Steps p.tables e below (s₁.setTop (mkF m 13 #[.val (.ref a0), .val (.int (0 : Int32)), .val (.ref a2), .val (.int (0 : Int32)), .val (.int (4 : Int32)), .val (.int (0 : Int32)), .unset] [(.int k0)])) t
    refine XS.istore X0.here hx rfl (hb hby d9_13) rfl (l' := #[.val (.ref a0), .val (.int (0 : Int32)), .val (.ref a2), .val (.int (0 : Int32)), .val (.int (4 : Int32)), .val (.int (0 : Int32)), .val (.int k0)]) rfl ?_
    refine XS.iload X0.here hx rfl (hb hby d9_15) rfl ?_
    refine XS.sipush X0.here hx rfl (hb hby d9_17) ?_
    exact k
  by_cases hc3 : (255 : Int32) < k0
  · refine OwnGo.of (B := s₁.setTop (mkF m 25 #[.val (.ref a0), .val (.int (0 : Int32)), .val (.ref a2), .val (.int (0 : Int32)), .val (.int (4 : Int32)), .val (.int (0 : Int32)), .val (.int k0)] [(.int (0 : Int32))])) (fun t k => ?_) ?_
    · show Steps p.tables e below (s₁.setTop (mkF m 20 #[.val (.ref a0), .val (.int (0 : Int32)), .val (.ref a2), .val (.int (0 : Int32)), .val (.int (4 : Int32)), .val (.int (0 : Int32)), .val (.int k0)] [(.int (255 : Int32)), (.int k0)])) t
      refine XS.icmpNo X0.here hx rfl (hb hby d9_20) rfl (tlt hc3).2.2.2 ?_
      refine XS.iload X0.here hx rfl (hb hby d9_23) rfl ?_
      exact k
    obtain ⟨fs, hr, hrun, hended, hW, hsame⟩ := X0.leave (v := some (.int (0 : Int32))) (fun h => by rw [Bd.returns] at h; cases h) hlk
    refine ⟨_, _, ?_, hrun, hended, _, _, rfl, ?_, ⟨_, rfl⟩, hW, hsame.mono (by decide) (by decide)⟩
    · show Steps p.tables e below (s₁.setTop (mkF m 25 #[.val (.ref a0), .val (.int (0 : Int32)), .val (.ref a2), .val (.int (0 : Int32)), .val (.int (4 : Int32)), .val (.int (0 : Int32)), .val (.int k0)] [(.int (0 : Int32))])) _
      exact own_retI X0 hx Bd.returns (hb hby d9_25) hr
    · show Qrm9_4 Z a0 a2 k0 k1 k2 k3 kc kb h0 n0 _ (s₁.setFrames fs).heap _
      rw [show (s₁.setFrames fs).heap = h0 from e0]
      exact ⟨N0, K0, Or.inr ⟨(0 : Int32), rfl, Or.inl ⟨rfl, hc3⟩⟩⟩
  · refine OwnGo.of (B := s₁.setTop (mkF m 31 #[.val (.ref a0), .val (.int (0 : Int32)), .val (.ref a2), .val (.int (0 : Int32)), .val (.int (4 : Int32)), .val (.int (0 : Int32)), .val (.int k0)] [(.int (k0.toInt8.toInt32)), (.int (0 : Int32)), (.ref a2)])) (fun t k => ?_) ?_
    · show Steps p.tables e below (s₁.setTop (mkF m 20 #[.val (.ref a0), .val (.int (0 : Int32)), .val (.ref a2), .val (.int (0 : Int32)), .val (.int (4 : Int32)), .val (.int (0 : Int32)), .val (.int k0)] [(.int (255 : Int32)), (.int k0)])) t
      refine XS.icmpYes X0.here hx rfl (pc0 := 20) (pc' := 26) rfl (hb hby d9_20) rfl (flt hc3).2.2.2 (by decide) (by decide) ?_
      refine XS.aloadN X0.here hx rfl (hb hby d9_26) rfl rfl ?_
      refine XS.iloadN X0.here hx rfl (hb hby d9_27) rfl ?_
      refine XS.iload X0.here hx rfl (hb hby d9_28) rfl ?_
      refine XS.i2b X0.here hx rfl (hb hby d9_30) rfl ?_
      exact k
    have cq4 := V_b
    obtain ⟨clq4, Arq4, qq4, Sq4, Nq4, Hq4, Gq4⟩ := cq4
    obtain ⟨T5, h5, X5, e5, W5, st5⟩ := stB X0 hx hZ e0 Arq4 (j := (0 : Int32)) (inb_of Sq4 ⟨by decide, by decide⟩) (g := (mkF m 31 #[.val (.ref a0), .val (.int (0 : Int32)), .val (.ref a2), .val (.int (0 : Int32)), .val (.int (4 : Int32)), .val (.int (0 : Int32)), .val (.int k0)] [(.int (k0.toInt8.toInt32)), (.int (0 : Int32)), (.ref a2)])) rfl rfl (hb hby d9_31)
    refine OwnGo.of st5 ?_
    have N5 := Fr.snoc X5 N0 g_a2
    have f6 := Nat.le_trans Z0 (Keep.of_wr W5).1
    have f7 := K0.wr W5 (Or.inl (List.mem_of_getElem? (i := 0) rfl))
    have f8 := V_a.other W5 ne1
    have f9 : Arv Z h5 a2 kb .byte (4 : Int32) [(.int ((k0.toInt8.toInt32)).toInt8.toInt32), (.int (0 : Int32)), (.int (0 : Int32)), (.int (0 : Int32))] (.int (0 : Int32)) := Arv.set Arq4 qq4 Sq4 Nq4 Hq4 Gq4 (fits_nar_byte _) W5 0 rfl (Nat.le_of_ble_eq_true rfl)
    show OwnGo p.tables e below _ (T5.setTop (mkF m 32 #[.val (.ref a0), .val (.int (0 : Int32)), .val (.ref a2), .val (.int (0 : Int32)), .val (.int (4 : Int32)), .val (.int (0 : Int32)), .val (.int k0)] []))
    refine OwnGo.of (B := T5.setTop (mkF m 7 #[.val (.ref a0), .val (.int (1 : Int32)), .val (.ref a2), .val (.int (1 : Int32)), .val (.int (4 : Int32)), .val (.int (1 : Int32)), .val (.int k0)] [(.int (4 : Int32)), (.int (1 : Int32))])) (fun t k => ?_) ?_
    · show Steps p.tables e below (T5.setTop (mkF m 32 #[.val (.ref a0), .val (.int (0 : Int32)), .val (.ref a2), .val (.int (0 : Int32)), .val (.int (4 : Int32)), .val (.int (0 : Int32)), .val (.int k0)] [])) t
      refine XS.iinc X5.here hx rfl (hb hby d9_32) rfl (l' := #[.val (.ref a0), .val (.int (1 : Int32)), .val (.ref a2), .val (.int (0 : Int32)), .val (.int (4 : Int32)), .val (.int (0 : Int32)), .val (.int k0)]) rfl ?_
      refine XS.iinc X5.here hx rfl (hb hby d9_35) rfl (l' := #[.val (.ref a0), .val (.int (1 : Int32)), .val (.ref a2), .val (.int (1 : Int32)), .val (.int (4 : Int32)), .val (.int (0 : Int32)), .val (.int k0)]) rfl ?_
      refine XS.iinc X5.here hx rfl (hb hby d9_38) rfl (l' := #[.val (.ref a0), .val (.int (1 : Int32)), .val (.ref a2), .val (.int (1 : Int32)), .val (.int (4 : Int32)), .val (.int (1 : Int32)), .val (.int k0)]) rfl ?_
      refine XS.goto X5.here hx rfl (pc0 := 41) (pc' := 3) rfl (hb hby d9_41) (by decide) (by decide) ?_
      refine XS.iload X5.here hx rfl (hb hby d9_3) rfl ?_
      refine XS.iload X5.here hx rfl (hb hby d9_5) rfl ?_
      exact k
    have hc10 : (1 : Int32) < (4 : Int32) := by decide
    refine OwnGo.of (B := T5.setTop (mkF m 12 #[.val (.ref a0), .val (.int (1 : Int32)), .val (.ref a2), .val (.int (1 : Int32)), .val (.int (4 : Int32)), .val (.int (1 : Int32)), .val (.int k0)] [(.int (1 : Int32)), (.ref a0)])) (fun t k => ?_) ?_
    · show Steps p.tables e below (T5.setTop (mkF m 7 #[.val (.ref a0), .val (.int (1 : Int32)), .val (.ref a2), .val (.int (1 : Int32)), .val (.int (4 : Int32)), .val (.int (1 : Int32)), .val (.int k0)] [(.int (4 : Int32)), (.int (1 : Int32))])) t
      refine XS.icmpNo X5.here hx rfl (hb hby d9_7) rfl (tlt hc10).2.1 ?_
      refine XS.aloadN X5.here hx rfl (hb hby d9_10) rfl rfl ?_
      refine XS.iloadN X5.here hx rfl (hb hby d9_11) rfl ?_
      exact k
    have cq11 := f8
    obtain ⟨clq11, Arq11, qq11, Sq11, Nq11, Hq11, Gq11⟩ := cq11
    have hinq11 := inb_of (j := (1 : Int32)) Sq11 ⟨by decide, by decide⟩
    refine OwnGo.of (X5.caload hx (j := (1 : Int32)) (v := (.int k1)) (by rw [e5]; exact Arq11.1) (State.isArrayOf_alike hZ.alike Arq11.2.1) Arq11.2.2 hinq11 (Hq11.at hinq11 rfl) (g := (mkF m 12 #[.val (.ref a0), .val (.int (1 : Int32)), .val (.ref a2), .val (.int (1 : Int32)), .val (.int (4 : Int32)), .val (.int (1 : Int32)), .val (.int k0)] [(.int (1 : Int32)), (.ref a0)])) rfl rfl (hb hby d9_12)) ?_
    show OwnGo p.tables e below _ (T5.setTop (mkF m 13 #[.val (.ref a0), .val (.int (1 : Int32)), .val (.ref a2), .val (.int (1 : Int32)), .val (.int (4 : Int32)), .val (.int (1 : Int32)), .val (.int k0)] [(.int k1)]))
    refine OwnGo.of (B := T5.setTop (mkF m 20 #[.val (.ref a0), .val (.int (1 : Int32)), .val (.ref a2), .val (.int (1 : Int32)), .val (.int (4 : Int32)), .val (.int (1 : Int32)), .val (.int k1)] [(.int (255 : Int32)), (.int k1)])) (fun t k => ?_) ?_
    · show Steps p.tables e below (T5.setTop (mkF m 13 #[.val (.ref a0), .val (.int (1 : Int32)), .val (.ref a2), .val (.int (1 : Int32)), .val (.int (4 : Int32)), .val (.int (1 : Int32)), .val (.int k0)] [(.int k1)])) t
      refine XS.istore X5.here hx rfl (hb hby d9_13) rfl (l' := #[.val (.ref a0), .val (.int (1 : Int32)), .val (.ref a2), .val (.int (1 : Int32)), .val (.int (4 : Int32)), .val (.int (1 : Int32)), .val (.int k1)]) rfl ?_
      refine XS.iload X5.here hx rfl (hb hby d9_15) rfl ?_
      refine XS.sipush X5.here hx rfl (hb hby d9_17) ?_
      exact k
    by_cases hc12 : (255 : Int32) < k1
    · refine OwnGo.of (B := T5.setTop (mkF m 25 #[.val (.ref a0), .val (.int (1 : Int32)), .val (.ref a2), .val (.int (1 : Int32)), .val (.int (4 : Int32)), .val (.int (1 : Int32)), .val (.int k1)] [(.int (1 : Int32))])) (fun t k => ?_) ?_
      · show Steps p.tables e below (T5.setTop (mkF m 20 #[.val (.ref a0), .val (.int (1 : Int32)), .val (.ref a2), .val (.int (1 : Int32)), .val (.int (4 : Int32)), .val (.int (1 : Int32)), .val (.int k1)] [(.int (255 : Int32)), (.int k1)])) t
        refine XS.icmpNo X5.here hx rfl (hb hby d9_20) rfl (tlt hc12).2.2.2 ?_
        refine XS.iload X5.here hx rfl (hb hby d9_23) rfl ?_
        exact k
      obtain ⟨fs, hr, hrun, hended, hW, hsame⟩ := X5.leave (v := some (.int (1 : Int32))) (fun h => by rw [Bd.returns] at h; cases h) hlk
      refine ⟨_, _, ?_, hrun, hended, _, _, rfl, ?_, ⟨_, rfl⟩, hW, hsame.mono (by decide) (by decide)⟩
      · show Steps p.tables e below (T5.setTop (mkF m 25 #[.val (.ref a0), .val (.int (1 : Int32)), .val (.ref a2), .val (.int (1 : Int32)), .val (.int (4 : Int32)), .val (.int (1 : Int32)), .val (.int k1)] [(.int (1 : Int32))])) _
        exact own_retI X5 hx Bd.returns (hb hby d9_25) hr
      · show Qrm9_4 Z a0 a2 k0 k1 k2 k3 kc kb h0 n0 _ (T5.setFrames fs).heap _
        rw [show (T5.setFrames fs).heap = h5 from e5]
        exact ⟨N5, f7, Or.inr ⟨(1 : Int32), rfl, Or.inr (Or.inl ⟨rfl, hc12⟩)⟩⟩
    · refine OwnGo.of (B := T5.setTop (mkF m 31 #[.val (.ref a0), .val (.int (1 : Int32)), .val (.ref a2), .val (.int (1 : Int32)), .val (.int (4 : Int32)), .val (.int (1 : Int32)), .val (.int k1)] [(.int (k1.toInt8.toInt32)), (.int (1 : Int32)), (.ref a2)])) (fun t k => ?_) ?_
      · show Steps p.tables e below (T5.setTop (mkF m 20 #[.val (.ref a0), .val (.int (1 : Int32)), .val (.ref a2), .val (.int (1 : Int32)), .val (.int (4 : Int32)), .val (.int (1 : Int32)), .val (.int k1)] [(.int (255 : Int32)), (.int k1)])) t
        refine XS.icmpYes X5.here hx rfl (pc0 := 20) (pc' := 26) rfl (hb hby d9_20) rfl (flt hc12).2.2.2 (by decide) (by decide) ?_
        refine XS.aloadN X5.here hx rfl (hb hby d9_26) rfl rfl ?_
        refine XS.iloadN X5.here hx rfl (hb hby d9_27) rfl ?_
        refine XS.iload X5.here hx rfl (hb hby d9_28) rfl ?_
        refine XS.i2b X5.here hx rfl (hb hby d9_30) rfl ?_
        exact k
      have cq13 := f9
      obtain ⟨clq13, Arq13, qq13, Sq13, Nq13, Hq13, Gq13⟩ := cq13
      obtain ⟨T14, h14, X14, e14, W14, st14⟩ := stB X5 hx hZ e5 Arq13 (j := (1 : Int32)) (inb_of Sq13 ⟨by decide, by decide⟩) (g := (mkF m 31 #[.val (.ref a0), .val (.int (1 : Int32)), .val (.ref a2), .val (.int (1 : Int32)), .val (.int (4 : Int32)), .val (.int (1 : Int32)), .val (.int k1)] [(.int (k1.toInt8.toInt32)), (.int (1 : Int32)), (.ref a2)])) rfl rfl (hb hby d9_31)
      refine OwnGo.of st14 ?_
      have N14 := Fr.snoc X14 N5 g_a2
      have f15 := Nat.le_trans f6 (Keep.of_wr W14).1
      have f16 := f7.wr W14 (Or.inl (List.mem_of_getElem? (i := 0) rfl))
      have f17 := f8.other W14 ne1
      have f18 : Arv Z h14 a2 kb .byte (4 : Int32) [(.int ((k0.toInt8.toInt32)).toInt8.toInt32), (.int ((k1.toInt8.toInt32)).toInt8.toInt32), (.int (0 : Int32)), (.int (0 : Int32))] (.int (0 : Int32)) := Arv.set Arq13 qq13 Sq13 Nq13 Hq13 Gq13 (fits_nar_byte _) W14 1 rfl (Nat.le_of_ble_eq_true rfl)
      show OwnGo p.tables e below _ (T14.setTop (mkF m 32 #[.val (.ref a0), .val (.int (1 : Int32)), .val (.ref a2), .val (.int (1 : Int32)), .val (.int (4 : Int32)), .val (.int (1 : Int32)), .val (.int k1)] []))
      refine OwnGo.of (B := T14.setTop (mkF m 7 #[.val (.ref a0), .val (.int (2 : Int32)), .val (.ref a2), .val (.int (2 : Int32)), .val (.int (4 : Int32)), .val (.int (2 : Int32)), .val (.int k1)] [(.int (4 : Int32)), (.int (2 : Int32))])) (fun t k => ?_) ?_
      · show Steps p.tables e below (T14.setTop (mkF m 32 #[.val (.ref a0), .val (.int (1 : Int32)), .val (.ref a2), .val (.int (1 : Int32)), .val (.int (4 : Int32)), .val (.int (1 : Int32)), .val (.int k1)] [])) t
        refine XS.iinc X14.here hx rfl (hb hby d9_32) rfl (l' := #[.val (.ref a0), .val (.int (2 : Int32)), .val (.ref a2), .val (.int (1 : Int32)), .val (.int (4 : Int32)), .val (.int (1 : Int32)), .val (.int k1)]) rfl ?_
        refine XS.iinc X14.here hx rfl (hb hby d9_35) rfl (l' := #[.val (.ref a0), .val (.int (2 : Int32)), .val (.ref a2), .val (.int (2 : Int32)), .val (.int (4 : Int32)), .val (.int (1 : Int32)), .val (.int k1)]) rfl ?_
        refine XS.iinc X14.here hx rfl (hb hby d9_38) rfl (l' := #[.val (.ref a0), .val (.int (2 : Int32)), .val (.ref a2), .val (.int (2 : Int32)), .val (.int (4 : Int32)), .val (.int (2 : Int32)), .val (.int k1)]) rfl ?_
        refine XS.goto X14.here hx rfl (pc0 := 41) (pc' := 3) rfl (hb hby d9_41) (by decide) (by decide) ?_
        refine XS.iload X14.here hx rfl (hb hby d9_3) rfl ?_
        refine XS.iload X14.here hx rfl (hb hby d9_5) rfl ?_
        exact k
      have hc19 : (2 : Int32) < (4 : Int32) := by decide
      refine OwnGo.of (B := T14.setTop (mkF m 12 #[.val (.ref a0), .val (.int (2 : Int32)), .val (.ref a2), .val (.int (2 : Int32)), .val (.int (4 : Int32)), .val (.int (2 : Int32)), .val (.int k1)] [(.int (2 : Int32)), (.ref a0)])) (fun t k => ?_) ?_
      · show Steps p.tables e below (T14.setTop (mkF m 7 #[.val (.ref a0), .val (.int (2 : Int32)), .val (.ref a2), .val (.int (2 : Int32)), .val (.int (4 : Int32)), .val (.int (2 : Int32)), .val (.int k1)] [(.int (4 : Int32)), (.int (2 : Int32))])) t
        refine XS.icmpNo X14.here hx rfl (hb hby d9_7) rfl (tlt hc19).2.1 ?_
        refine XS.aloadN X14.here hx rfl (hb hby d9_10) rfl rfl ?_
        refine XS.iloadN X14.here hx rfl (hb hby d9_11) rfl ?_
        exact k
      have cq20 := f17
      obtain ⟨clq20, Arq20, qq20, Sq20, Nq20, Hq20, Gq20⟩ := cq20
      have hinq20 := inb_of (j := (2 : Int32)) Sq20 ⟨by decide, by decide⟩
      refine OwnGo.of (X14.caload hx (j := (2 : Int32)) (v := (.int k2)) (by rw [e14]; exact Arq20.1) (State.isArrayOf_alike hZ.alike Arq20.2.1) Arq20.2.2 hinq20 (Hq20.at hinq20 rfl) (g := (mkF m 12 #[.val (.ref a0), .val (.int (2 : Int32)), .val (.ref a2), .val (.int (2 : Int32)), .val (.int (4 : Int32)), .val (.int (2 : Int32)), .val (.int k1)] [(.int (2 : Int32)), (.ref a0)])) rfl rfl (hb hby d9_12)) ?_
      show OwnGo p.tables e below _ (T14.setTop (mkF m 13 #[.val (.ref a0), .val (.int (2 : Int32)), .val (.ref a2), .val (.int (2 : Int32)), .val (.int (4 : Int32)), .val (.int (2 : Int32)), .val (.int k1)] [(.int k2)]))
      refine OwnGo.of (B := T14.setTop (mkF m 20 #[.val (.ref a0), .val (.int (2 : Int32)), .val (.ref a2), .val (.int (2 : Int32)), .val (.int (4 : Int32)), .val (.int (2 : Int32)), .val (.int k2)] [(.int (255 : Int32)), (.int k2)])) (fun t k => ?_) ?_
      · show Steps p.tables e below (T14.setTop (mkF m 13 #[.val (.ref a0), .val (.int (2 : Int32)), .val (.ref a2), .val (.int (2 : Int32)), .val (.int (4 : Int32)), .val (.int (2 : Int32)), .val (.int k1)] [(.int k2)])) t
        refine XS.istore X14.here hx rfl (hb hby d9_13) rfl (l' := #[.val (.ref a0), .val (.int (2 : Int32)), .val (.ref a2), .val (.int (2 : Int32)), .val (.int (4 : Int32)), .val (.int (2 : Int32)), .val (.int k2)]) rfl ?_
        refine XS.iload X14.here hx rfl (hb hby d9_15) rfl ?_
        refine XS.sipush X14.here hx rfl (hb hby d9_17) ?_
        exact k
      by_cases hc21 : (255 : Int32) < k2
      · refine OwnGo.of (B := T14.setTop (mkF m 25 #[.val (.ref a0), .val (.int (2 : Int32)), .val (.ref a2), .val (.int (2 : Int32)), .val (.int (4 : Int32)), .val (.int (2 : Int32)), .val (.int k2)] [(.int (2 : Int32))])) (fun t k => ?_) ?_
        · show Steps p.tables e below (T14.setTop (mkF m 20 #[.val (.ref a0), .val (.int (2 : Int32)), .val (.ref a2), .val (.int (2 : Int32)), .val (.int (4 : Int32)), .val (.int (2 : Int32)), .val (.int k2)] [(.int (255 : Int32)), (.int k2)])) t
          refine XS.icmpNo X14.here hx rfl (hb hby d9_20) rfl (tlt hc21).2.2.2 ?_
          refine XS.iload X14.here hx rfl (hb hby d9_23) rfl ?_
          exact k
        obtain ⟨fs, hr, hrun, hended, hW, hsame⟩ := X14.leave (v := some (.int (2 : Int32))) (fun h => by rw [Bd.returns] at h; cases h) hlk
        refine ⟨_, _, ?_, hrun, hended, _, _, rfl, ?_, ⟨_, rfl⟩, hW, hsame.mono (by decide) (by decide)⟩
        · show Steps p.tables e below (T14.setTop (mkF m 25 #[.val (.ref a0), .val (.int (2 : Int32)), .val (.ref a2), .val (.int (2 : Int32)), .val (.int (4 : Int32)), .val (.int (2 : Int32)), .val (.int k2)] [(.int (2 : Int32))])) _
          exact own_retI X14 hx Bd.returns (hb hby d9_25) hr
        · show Qrm9_4 Z a0 a2 k0 k1 k2 k3 kc kb h0 n0 _ (T14.setFrames fs).heap _
          rw [show (T14.setFrames fs).heap = h14 from e14]
          exact ⟨N14, f16, Or.inr ⟨(2 : Int32), rfl, Or.inr (Or.inr (Or.inl ⟨rfl, hc21⟩))⟩⟩
      · refine OwnGo.of (B := T14.setTop (mkF m 31 #[.val (.ref a0), .val (.int (2 : Int32)), .val (.ref a2), .val (.int (2 : Int32)), .val (.int (4 : Int32)), .val (.int (2 : Int32)), .val (.int k2)] [(.int (k2.toInt8.toInt32)), (.int (2 : Int32)), (.ref a2)])) (fun t k => ?_) ?_
        · show Steps p.tables e below (T14.setTop (mkF m 20 #[.val (.ref a0), .val (.int (2 : Int32)), .val (.ref a2), .val (.int (2 : Int32)), .val (.int (4 : Int32)), .val (.int (2 : Int32)), .val (.int k2)] [(.int (255 : Int32)), (.int k2)])) t
          refine XS.icmpYes X14.here hx rfl (pc0 := 20) (pc' := 26) rfl (hb hby d9_20) rfl (flt hc21).2.2.2 (by decide) (by decide) ?_
          refine XS.aloadN X14.here hx rfl (hb hby d9_26) rfl rfl ?_
          refine XS.iloadN X14.here hx rfl (hb hby d9_27) rfl ?_
          refine XS.iload X14.here hx rfl (hb hby d9_28) rfl ?_
          refine XS.i2b X14.here hx rfl (hb hby d9_30) rfl ?_
          exact k
        have cq22 := f18
        obtain ⟨clq22, Arq22, qq22, Sq22, Nq22, Hq22, Gq22⟩ := cq22
        obtain ⟨T23, h23, X23, e23, W23, st23⟩ := stB X14 hx hZ e14 Arq22 (j := (2 : Int32)) (inb_of Sq22 ⟨by decide, by decide⟩) (g := (mkF m 31 #[.val (.ref a0), .val (.int (2 : Int32)), .val (.ref a2), .val (.int (2 : Int32)), .val (.int (4 : Int32)), .val (.int (2 : Int32)), .val (.int k2)] [(.int (k2.toInt8.toInt32)), (.int (2 : Int32)), (.ref a2)])) rfl rfl (hb hby d9_31)
        refine OwnGo.of st23 ?_
        have N23 := Fr.snoc X23 N14 g_a2
        have f24 := Nat.le_trans f15 (Keep.of_wr W23).1
        have f25 := f16.wr W23 (Or.inl (List.mem_of_getElem? (i := 0) rfl))
        have f26 := f17.other W23 ne1
        have f27 : Arv Z h23 a2 kb .byte (4 : Int32) [(.int ((k0.toInt8.toInt32)).toInt8.toInt32), (.int ((k1.toInt8.toInt32)).toInt8.toInt32), (.int ((k2.toInt8.toInt32)).toInt8.toInt32), (.int (0 : Int32))] (.int (0 : Int32)) := Arv.set Arq22 qq22 Sq22 Nq22 Hq22 Gq22 (fits_nar_byte _) W23 2 rfl (Nat.le_of_ble_eq_true rfl)
        show OwnGo p.tables e below _ (T23.setTop (mkF m 32 #[.val (.ref a0), .val (.int (2 : Int32)), .val (.ref a2), .val (.int (2 : Int32)), .val (.int (4 : Int32)), .val (.int (2 : Int32)), .val (.int k2)] []))
        refine OwnGo.of (B := T23.setTop (mkF m 7 #[.val (.ref a0), .val (.int (3 : Int32)), .val (.ref a2), .val (.int (3 : Int32)), .val (.int (4 : Int32)), .val (.int (3 : Int32)), .val (.int k2)] [(.int (4 : Int32)), (.int (3 : Int32))])) (fun t k => ?_) ?_
        · show Steps p.tables e below (T23.setTop (mkF m 32 #[.val (.ref a0), .val (.int (2 : Int32)), .val (.ref a2), .val (.int (2 : Int32)), .val (.int (4 : Int32)), .val (.int (2 : Int32)), .val (.int k2)] [])) t
          refine XS.iinc X23.here hx rfl (hb hby d9_32) rfl (l' := #[.val (.ref a0), .val (.int (3 : Int32)), .val (.ref a2), .val (.int (2 : Int32)), .val (.int (4 : Int32)), .val (.int (2 : Int32)), .val (.int k2)]) rfl ?_
          refine XS.iinc X23.here hx rfl (hb hby d9_35) rfl (l' := #[.val (.ref a0), .val (.int (3 : Int32)), .val (.ref a2), .val (.int (3 : Int32)), .val (.int (4 : Int32)), .val (.int (2 : Int32)), .val (.int k2)]) rfl ?_
          refine XS.iinc X23.here hx rfl (hb hby d9_38) rfl (l' := #[.val (.ref a0), .val (.int (3 : Int32)), .val (.ref a2), .val (.int (3 : Int32)), .val (.int (4 : Int32)), .val (.int (3 : Int32)), .val (.int k2)]) rfl ?_
          refine XS.goto X23.here hx rfl (pc0 := 41) (pc' := 3) rfl (hb hby d9_41) (by decide) (by decide) ?_
          refine XS.iload X23.here hx rfl (hb hby d9_3) rfl ?_
          refine XS.iload X23.here hx rfl (hb hby d9_5) rfl ?_
          exact k
        have hc28 : (3 : Int32) < (4 : Int32) := by decide
        refine OwnGo.of (B := T23.setTop (mkF m 12 #[.val (.ref a0), .val (.int (3 : Int32)), .val (.ref a2), .val (.int (3 : Int32)), .val (.int (4 : Int32)), .val (.int (3 : Int32)), .val (.int k2)] [(.int (3 : Int32)), (.ref a0)])) (fun t k => ?_) ?_
        · show Steps p.tables e below (T23.setTop (mkF m 7 #[.val (.ref a0), .val (.int (3 : Int32)), .val (.ref a2), .val (.int (3 : Int32)), .val (.int (4 : Int32)), .val (.int (3 : Int32)), .val (.int k2)] [(.int (4 : Int32)), (.int (3 : Int32))])) t
          refine XS.icmpNo X23.here hx rfl (hb hby d9_7) rfl (tlt hc28).2.1 ?_
          refine XS.aloadN X23.here hx rfl (hb hby d9_10) rfl rfl ?_
          refine XS.iloadN X23.here hx rfl (hb hby d9_11) rfl ?_
          exact k
        have cq29 := f26
        obtain ⟨clq29, Arq29, qq29, Sq29, Nq29, Hq29, Gq29⟩ := cq29
        have hinq29 := inb_of (j := (3 : Int32)) Sq29 ⟨by decide, by decide⟩
        refine OwnGo.of (X23.caload hx (j := (3 : Int32)) (v := (.int k3)) (by rw [e23]; exact Arq29.1) (State.isArrayOf_alike hZ.alike Arq29.2.1) Arq29.2.2 hinq29 (Hq29.at hinq29 rfl) (g := (mkF m 12 #[.val (.ref a0), .val (.int (3 : Int32)), .val (.ref a2), .val (.int (3 : Int32)), .val (.int (4 : Int32)), .val (.int (3 : Int32)), .val (.int k2)] [(.int (3 : Int32)), (.ref a0)])) rfl rfl (hb hby d9_12)) ?_
        show OwnGo p.tables e below _ (T23.setTop (mkF m 13 #[.val (.ref a0), .val (.int (3 : Int32)), .val (.ref a2), .val (.int (3 : Int32)), .val (.int (4 : Int32)), .val (.int (3 : Int32)), .val (.int k2)] [(.int k3)]))
        refine OwnGo.of (B := T23.setTop (mkF m 20 #[.val (.ref a0), .val (.int (3 : Int32)), .val (.ref a2), .val (.int (3 : Int32)), .val (.int (4 : Int32)), .val (.int (3 : Int32)), .val (.int k3)] [(.int (255 : Int32)), (.int k3)])) (fun t k => ?_) ?_
        · show Steps p.tables e below (T23.setTop (mkF m 13 #[.val (.ref a0), .val (.int (3 : Int32)), .val (.ref a2), .val (.int (3 : Int32)), .val (.int (4 : Int32)), .val (.int (3 : Int32)), .val (.int k2)] [(.int k3)])) t
          refine XS.istore X23.here hx rfl (hb hby d9_13) rfl (l' := #[.val (.ref a0), .val (.int (3 : Int32)), .val (.ref a2), .val (.int (3 : Int32)), .val (.int (4 : Int32)), .val (.int (3 : Int32)), .val (.int k3)]) rfl ?_
          refine XS.iload X23.here hx rfl (hb hby d9_15) rfl ?_
          refine XS.sipush X23.here hx rfl (hb hby d9_17) ?_
          exact k
        by_cases hc30 : (255 : Int32) < k3
        · refine OwnGo.of (B := T23.setTop (mkF m 25 #[.val (.ref a0), .val (.int (3 : Int32)), .val (.ref a2), .val (.int (3 : Int32)), .val (.int (4 : Int32)), .val (.int (3 : Int32)), .val (.int k3)] [(.int (3 : Int32))])) (fun t k => ?_) ?_
          · show Steps p.tables e below (T23.setTop (mkF m 20 #[.val (.ref a0), .val (.int (3 : Int32)), .val (.ref a2), .val (.int (3 : Int32)), .val (.int (4 : Int32)), .val (.int (3 : Int32)), .val (.int k3)] [(.int (255 : Int32)), (.int k3)])) t
            refine XS.icmpNo X23.here hx rfl (hb hby d9_20) rfl (tlt hc30).2.2.2 ?_
            refine XS.iload X23.here hx rfl (hb hby d9_23) rfl ?_
            exact k
          obtain ⟨fs, hr, hrun, hended, hW, hsame⟩ := X23.leave (v := some (.int (3 : Int32))) (fun h => by rw [Bd.returns] at h; cases h) hlk
          refine ⟨_, _, ?_, hrun, hended, _, _, rfl, ?_, ⟨_, rfl⟩, hW, hsame.mono (by decide) (by decide)⟩
          · show Steps p.tables e below (T23.setTop (mkF m 25 #[.val (.ref a0), .val (.int (3 : Int32)), .val (.ref a2), .val (.int (3 : Int32)), .val (.int (4 : Int32)), .val (.int (3 : Int32)), .val (.int k3)] [(.int (3 : Int32))])) _
            exact own_retI X23 hx Bd.returns (hb hby d9_25) hr
          · show Qrm9_4 Z a0 a2 k0 k1 k2 k3 kc kb h0 n0 _ (T23.setFrames fs).heap _
            rw [show (T23.setFrames fs).heap = h23 from e23]
            exact ⟨N23, f25, Or.inr ⟨(3 : Int32), rfl, Or.inr (Or.inr (Or.inr (⟨rfl, hc30⟩)))⟩⟩
        · refine OwnGo.of (B := T23.setTop (mkF m 31 #[.val (.ref a0), .val (.int (3 : Int32)), .val (.ref a2), .val (.int (3 : Int32)), .val (.int (4 : Int32)), .val (.int (3 : Int32)), .val (.int k3)] [(.int (k3.toInt8.toInt32)), (.int (3 : Int32)), (.ref a2)])) (fun t k => ?_) ?_
          · show Steps p.tables e below (T23.setTop (mkF m 20 #[.val (.ref a0), .val (.int (3 : Int32)), .val (.ref a2), .val (.int (3 : Int32)), .val (.int (4 : Int32)), .val (.int (3 : Int32)), .val (.int k3)] [(.int (255 : Int32)), (.int k3)])) t
            refine XS.icmpYes X23.here hx rfl (pc0 := 20) (pc' := 26) rfl (hb hby d9_20) rfl (flt hc30).2.2.2 (by decide) (by decide) ?_
            refine XS.aloadN X23.here hx rfl (hb hby d9_26) rfl rfl ?_
            refine XS.iloadN X23.here hx rfl (hb hby d9_27) rfl ?_
            refine XS.iload X23.here hx rfl (hb hby d9_28) rfl ?_
            refine XS.i2b X23.here hx rfl (hb hby d9_30) rfl ?_
            exact k
          have cq31 := f27
          obtain ⟨clq31, Arq31, qq31, Sq31, Nq31, Hq31, Gq31⟩ := cq31
          obtain ⟨T32, h32, X32, e32, W32, st32⟩ := stB X23 hx hZ e23 Arq31 (j := (3 : Int32)) (inb_of Sq31 ⟨by decide, by decide⟩) (g := (mkF m 31 #[.val (.ref a0), .val (.int (3 : Int32)), .val (.ref a2), .val (.int (3 : Int32)), .val (.int (4 : Int32)), .val (.int (3 : Int32)), .val (.int k3)] [(.int (k3.toInt8.toInt32)), (.int (3 : Int32)), (.ref a2)])) rfl rfl (hb hby d9_31)
          refine OwnGo.of st32 ?_
          have N32 := Fr.snoc X32 N23 g_a2
          have f33 := Nat.le_trans f24 (Keep.of_wr W32).1
          have f34 := f25.wr W32 (Or.inl (List.mem_of_getElem? (i := 0) rfl))
          have f35 := f26.other W32 ne1
          have f36 : Arv Z h32 a2 kb .byte (4 : Int32) [(.int ((k0.toInt8.toInt32)).toInt8.toInt32), (.int ((k1.toInt8.toInt32)).toInt8.toInt32), (.int ((k2.toInt8.toInt32)).toInt8.toInt32), (.int ((k3.toInt8.toInt32)).toInt8.toInt32)] (.int (0 : Int32)) := Arv.set Arq31 qq31 Sq31 Nq31 Hq31 Gq31 (fits_nar_byte _) W32 3 rfl (Nat.le_of_ble_eq_true rfl)
          show OwnGo p.tables e below _ (T32.setTop (mkF m 32 #[.val (.ref a0), .val (.int (3 : Int32)), .val (.ref a2), .val (.int (3 : Int32)), .val (.int (4 : Int32)), .val (.int (3 : Int32)), .val (.int k3)] []))
          refine OwnGo.of (B := T32.setTop (mkF m 7 #[.val (.ref a0), .val (.int (4 : Int32)), .val (.ref a2), .val (.int (4 : Int32)), .val (.int (4 : Int32)), .val (.int (4 : Int32)), .val (.int k3)] [(.int (4 : Int32)), (.int (4 : Int32))])) (fun t k => ?_) ?_
          · show Steps p.tables e below (T32.setTop (mkF m 32 #[.val (.ref a0), .val (.int (3 : Int32)), .val (.ref a2), .val (.int (3 : Int32)), .val (.int (4 : Int32)), .val (.int (3 : Int32)), .val (.int k3)] [])) t
            refine XS.iinc X32.here hx rfl (hb hby d9_32) rfl (l' := #[.val (.ref a0), .val (.int (4 : Int32)), .val (.ref a2), .val (.int (3 : Int32)), .val (.int (4 : Int32)), .val (.int (3 : Int32)), .val (.int k3)]) rfl ?_
            refine XS.iinc X32.here hx rfl (hb hby d9_35) rfl (l' := #[.val (.ref a0), .val (.int (4 : Int32)), .val (.ref a2), .val (.int (4 : Int32)), .val (.int (4 : Int32)), .val (.int (3 : Int32)), .val (.int k3)]) rfl ?_
            refine XS.iinc X32.here hx rfl (hb hby d9_38) rfl (l' := #[.val (.ref a0), .val (.int (4 : Int32)), .val (.ref a2), .val (.int (4 : Int32)), .val (.int (4 : Int32)), .val (.int (4 : Int32)), .val (.int k3)]) rfl ?_
            refine XS.goto X32.here hx rfl (pc0 := 41) (pc' := 3) rfl (hb hby d9_41) (by decide) (by decide) ?_
            refine XS.iload X32.here hx rfl (hb hby d9_3) rfl ?_
            refine XS.iload X32.here hx rfl (hb hby d9_5) rfl ?_
            exact k
          have hc37 : ¬ ((4 : Int32) < (4 : Int32)) := by decide
          refine OwnGo.of (B := T32.setTop (mkF m 46 #[.val (.ref a0), .val (.int (4 : Int32)), .val (.ref a2), .val (.int (4 : Int32)), .val (.int (4 : Int32)), .val (.int (4 : Int32)), .val (.int k3)] [(.int (4 : Int32))])) (fun t k => ?_) ?_
          · show Steps p.tables e below (T32.setTop (mkF m 7 #[.val (.ref a0), .val (.int (4 : Int32)), .val (.ref a2), .val (.int (4 : Int32)), .val (.int (4 : Int32)), .val (.int (4 : Int32)), .val (.int k3)] [(.int (4 : Int32)), (.int (4 : Int32))])) t
            refine XS.icmpYes X32.here hx rfl (pc0 := 7) (pc' := 44) rfl (hb hby d9_7) rfl (flt hc37).2.1 (by decide) (by decide) ?_
            refine XS.iload X32.here hx rfl (hb hby d9_44) rfl ?_
            exact k
          obtain ⟨fs, hr, hrun, hended, hW, hsame⟩ := X32.leave (v := some (.int (4 : Int32))) (fun h => by rw [Bd.returns] at h; cases h) hlk
          refine ⟨_, _, ?_, hrun, hended, _, _, rfl, ?_, ⟨_, rfl⟩, hW, hsame.mono (by decide) (by decide)⟩
          · show Steps p.tables e below (T32.setTop (mkF m 46 #[.val (.ref a0), .val (.int (4 : Int32)), .val (.ref a2), .val (.int (4 : Int32)), .val (.int (4 : Int32)), .val (.int (4 : Int32)), .val (.int k3)] [(.int (4 : Int32))])) _
            exact own_retI X32 hx Bd.returns (hb hby d9_46) hr
          · show Qrm9_4 Z a0 a2 k0 k1 k2 k3 kc kb h0 n0 _ (T32.setFrames fs).heap _
            rw [show (T32.setFrames fs).heap = h32 from e32]
            have fz := f36
            rw [own_ll, own_ll, own_ll, own_ll] at fz
            exact ⟨N32, f34, Or.inl ⟨rfl, (own_hS hc3 (own_hS hc12 (own_hS hc21 (own_hS hc30 own_h0)))), fz⟩⟩
theorem d8_0 : decode jdk_52_method_16_code 0 = .ok (.iload_n 2, 1) := by decide +kernel
theorem d8_1 : decode jdk_52_method_16_code 1 = .ok (.newarray .byte, 2) := by decide +kernel
theorem d8_3 : decode jdk_52_method_16_code 3 = .ok (.astore_n 3, 1) := by decide +kernel
theorem d8_4 : decode jdk_52_method_16_code 4 = .ok (.aload_n 0, 1) := by decide +kernel
theorem d8_5 : decode jdk_52_method_16_code 5 = .ok (.iload_n 1, 1) := by decide +kernel
theorem d8_6 : decode jdk_52_method_16_code 6 = .ok (.aload_n 3, 1) := by decide +kernel
theorem d8_7 : decode jdk_52_method_16_code 7 = .ok (.iconst 0, 1) := by decide +kernel
theorem d8_8 : decode jdk_52_method_16_code 8 = .ok (.iload_n 2, 1) := by decide +kernel
theorem d8_9 : decode jdk_52_method_16_code 9 = .ok (.invokestatic 115, 3) := by decide +kernel
theorem d8_12 : decode jdk_52_method_16_code 12 = .ok (.istore 4, 2) := by decide +kernel
theorem d8_14 : decode jdk_52_method_16_code 14 = .ok (.iload 4, 2) := by decide +kernel
theorem d8_16 : decode jdk_52_method_16_code 16 = .ok (.iload_n 2, 1) := by decide +kernel
theorem d8_17 : decode jdk_52_method_16_code 17 = .ok (.if_icmp .eq 40, 3) := by decide +kernel
theorem d8_20 : decode jdk_52_method_16_code 20 = .ok (.aload_n 0, 1) := by decide +kernel
theorem d8_21 : decode jdk_52_method_16_code 21 = .ok (.iload_n 1, 1) := by decide +kernel
theorem d8_22 : decode jdk_52_method_16_code 22 = .ok (.iload_n 2, 1) := by decide +kernel
theorem d8_23 : decode jdk_52_method_16_code 23 = .ok (.invokestatic 119, 3) := by decide +kernel
theorem d8_26 : decode jdk_52_method_16_code 26 = .ok (.astore 5, 2) := by decide +kernel
theorem d8_28 : decode jdk_52_method_16_code 28 = .ok (.aload 5, 2) := by decide +kernel
theorem d8_30 : decode jdk_52_method_16_code 30 = .ok (.iload 4, 2) := by decide +kernel
theorem d8_32 : decode jdk_52_method_16_code 32 = .ok (.invokestatic 71, 3) := by decide +kernel
theorem d8_35 : decode jdk_52_method_16_code 35 = .ok (.sipush 255, 3) := by decide +kernel
theorem d8_38 : decode jdk_52_method_16_code 38 = .ok (.if_icmp .gt 16, 3) := by decide +kernel
theorem d8_54 : decode jdk_52_method_16_code 54 = .ok (.aload 5, 2) := by decide +kernel
theorem d8_56 : decode jdk_52_method_16_code 56 = .ok (.areturn, 1) := by decide +kernel
theorem d8_57 : decode jdk_52_method_16_code 57 = .ok (.aload_n 3, 1) := by decide +kernel
theorem d8_58 : decode jdk_52_method_16_code 58 = .ok (.areturn, 1) := by decide +kernel
theorem ef_rm8_1 (m : MethodId) (a0 : Addr) : entryFrame m #[(.ref a0), (.int (0 : Int32)), (.int (1 : Int32))] 6 = mkF m 0 #[.val (.ref a0), .val (.int (0 : Int32)), .val (.int (1 : Int32)), .unset, .unset, .unset] [] := by first | (simp [entryFrame, mkF, argsToLocals, Value.category]; done) | rfl
def Qrm8_1 (Z : State) (a0 : Addr) (k0 : Int32) (kc : ClassId) (h0 : Heap) (n0 : Nat) (v : Option Value) (h : Heap) (L : List Loc) : Prop := Fr n0 L ∧ Keep h0 h [] ∧ ∃ (y : Addr) (k : ClassId) (vs : List Value), v = some (.ref y) ∧ h0.size ≤ y ∧ ((Arv Z h y k .byte (1 : Int32) vs (.int (0 : Int32)) ∧ StrChars.Road.CodA ([k0] : List Int32) 0 (1 : Int32) vs) ∨ (Arv Z h y k .byte (2 : Int32) vs (.int (0 : Int32)) ∧ StrChars.Road.CodA ([k0] : List Int32) 1 (2 : Int32) vs))
set_option maxRecDepth 65536 in
set_option maxHeartbeats 40000000 in
theorem rm8_1 (l : Launch) (Z : State) (aw : Array Value) (hw : ∀ d ∈ tables_1, d.before aw Z = true) (ws : List Jvm.Cond) (a0 : Addr) (k0 : Int32) (kc : ClassId) (h0 : Heap) (n0 : Nat) (Z0 : n0 ≤ h0.size) (V_a : Arv Z h0 a0 kc .char (1 : Int32) [(.int k0)] (.int (0 : Int32))) (S__assertionsDisabled : Sta Z h0 "java/lang/StringUTF16" "$assertionsDisabled" "Z" (.int (1 : Int32))) (S_HI_BYTE_SHIFT : Sta Z h0 "java/lang/StringUTF16" "HI_BYTE_SHIFT" "I" (.int (0 : Int32))) (S_LO_BYTE_SHIFT : Sta Z h0 "java/lang/StringUTF16" "LO_BYTE_SHIFT" "I" (.int (8 : Int32))) (hc0 : OwnC16 k0) :
    MetFree l (⟨"java/lang/StringUTF16", "compress", "([CII)[B"⟩ : MethodName) (head1 (Jvm.Cond.code (⟨"java/lang/StringUTF16", "compress", "([CII)[B"⟩ : MethodName) jdk_52_method_16_code 6 (some (.array .byte)) :: ws) ({ frames := 3, cells := 2, slots := 12, locals := 40 } : Room)) (fun a U => a = #[(.ref a0), (.int (0 : Int32)), (.int (1 : Int32))] ∧ Z.Warmed39 U.vm ∧ U.heap = h0) (fun _ _ _ _ _ => True) (fun _ U o U' => ∃ v L, o = .returned v ∧ Qrm8_1 Z a0 k0 kc h0 n0 v U'.heap L ∧ FrameEnd U o U' L ({ frames := 3, cells := 2, slots := 12, locals := 40 } : Room).cells ({ frames := 3, cells := 2, slots := 12, locals := 40 } : Room).slots) := by
  refine MetFree.of_bodySF (plainFor_of_name pn_60) hisR ?_
  intro p e s m args below meth c s₁ Bd hml0 hP hK
  obtain ⟨rfl, hZ, hh⟩ := hP
  have hx := Bd.exec
  have hby := Bd.bytes
  have hml : c.maxLocals = 6 := hml0
  have hown : s.vm.findClass "java/lang/StringUTF16" = some m.cls := findClass_of_methodNamed Bd.named
  have hnm := (name_of_methodNamed Bd.named Bd.method).1
  have X0 : Stand p l e ({ frames := 3, cells := 2, slots := 12, locals := 40 } : Room) s m #[(.ref a0), (.int (0 : Int32)), (.int (1 : Int32))] below meth c s₁ [] 0 0 := Stand.of_body Bd
  have e0 : s₁.heap = h0 := by rw [← hh, Bd.state]; rfl
  have N0 := Fr.nil n0
  have hlk := Bd.notSynchronized
  show OwnGo p.tables e below _ (s₁.setTop (entryFrame m #[(.ref a0), (.int (0 : Int32)), (.int (1 : Int32))] 6))
  rw [ef_rm8_1 m a0]
  have K0 : Keep h0 h0 [] := Keep.refl _ _
  show OwnGo p.tables e below _ (s₁.setTop (mkF m 0 #[.val (.ref a0), .val (.int (0 : Int32)), .val (.int (1 : Int32)), .unset, .unset, .unset] []))
  refine OwnGo.of (B := s₁.setTop (mkF m 1 #[.val (.ref a0), .val (.int (0 : Int32)), .val (.int (1 : Int32)), .unset, .unset, .unset] [(.int (1 : Int32))])) (fun t k => ?_) ?_
  · show Steps p.tables e below (s₁.setTop (mkF m 0 #[.val (.ref a0), .val (.int (0 : Int32)), .val (.int (1 : Int32)), .unset, .unset, .unset] [])) t
    refine XS.iloadN X0.here hx rfl (hb hby d8_0) rfl ?_
    exact k
  obtain ⟨T1, h1, kq1, X1, e1, E1, A1, st1⟩ := newP (aty := .byte) X0 hx hZ (w20 hw) e0 (g := (mkF m 1 #[.val (.ref a0), .val (.int (0 : Int32)), .val (.int (1 : Int32)), .unset, .unset, .unset] [(.int (1 : Int32))])) rfl (hb hby d8_1) rfl (by decide) (cap := 1) (by decide) (by decide) (by decide) (by decide)
  obtain ⟨b1, g1⟩ : ∃ z, z = h0.size := ⟨_, rfl⟩
  rw [← g1] at A1 st1
  refine OwnGo.of st1 ?_
  have ne_a0_b1 : a0 ≠ b1 := Nat.ne_of_lt (Nat.lt_of_lt_of_le V_a.lt (Nat.le_of_eq g1.symm))
  have g_b1 : n0 ≤ b1 := Nat.le_trans Z0 (Nat.le_of_eq g1.symm)
  have sz_b1 : h0.size ≤ b1 := Nat.le_trans K0.1 (Nat.le_of_eq g1.symm)
  have f2 := Nat.le_trans Z0 E1.1
  have f3 := K0.ext E1
  have f4 := S__assertionsDisabled.ext E1
  have f5 := S_HI_BYTE_SHIFT.ext E1
  have f6 := S_LO_BYTE_SHIFT.ext E1
  have f7 := V_a.ext E1
  have f8 : Arv Z h1 b1 kq1 .byte (1 : Int32) [(.int (0 : Int32))] (.int (0 : Int32)) := (Arv.new A1 (by decide)).pad (pad_rep [] (.int (0 : Int32)) 1)
  show OwnGo p.tables e below _ (T1.setTop (mkF m 3 #[.val (.ref a0), .val (.int (0 : Int32)), .val (.int (1 : Int32)), .unset, .unset, .unset] [(.ref b1)]))
  refine OwnGo.of (B := T1.setTop (mkF m 9 #[.val (.ref a0), .val (.int (0 : Int32)), .val (.int (1 : Int32)), .val (.ref b1), .unset, .unset] [(.int (1 : Int32)), (.int (0 : Int32)), (.ref b1), (.int (0 : Int32)), (.ref a0)])) (fun t k => ?_) ?_
  · show Steps p.tables e below (T1.setTop (mkF m 3 #[.val (.ref a0), .val (.int (0 : Int32)), .val (.int (1 : Int32)), .unset, .unset, .unset] [(.ref b1)])) t
    refine XS.astoreN X1.here hx rfl (hb hby d8_3) rfl rfl (l' := #[.val (.ref a0), .val (.int (0 : Int32)), .val (.int (1 : Int32)), .val (.ref b1), .unset, .unset]) rfl ?_
    refine XS.aloadN X1.here hx rfl (hb hby d8_4) rfl rfl ?_
    refine XS.iloadN X1.here hx rfl (hb hby d8_5) rfl ?_
    refine XS.aloadN X1.here hx rfl (hb hby d8_6) rfl rfl ?_
    refine XS.iconst X1.here hx rfl (hb hby d8_7) ?_
    refine XS.iloadN X1.here hx rfl (hb hby d8_8) rfl ?_
    exact k
  obtain ⟨T9, L9, v9, X9, hQ9, st9⟩ := own_callS X1 hx (y := (⟨"java/lang/StringUTF16", "compress", "([CI[BII)I"⟩ : MethodName)) hown (mvT hZ (w44 hw)) (mvT hZ (w45 hw)) (mvT hZ (w42 hw)) (mvT hZ (w46 hw)) (by decide) (backOf (W := 0) (rm9_1 l Z aw hw [] a0 b1 k0 kc kq1 h1 n0 f2 f7 f8 g_b1 ne_a0_b1) hZ (w46 hw) (w42 hw) (by decide) (by decide)) (g := (mkF m 9 #[.val (.ref a0), .val (.int (0 : Int32)), .val (.int (1 : Int32)), .val (.ref b1), .unset, .unset] [(.int (1 : Int32)), (.int (0 : Int32)), (.ref b1), (.int (0 : Int32)), (.ref a0)])) rfl (by rw [hml]; rfl) (argsL := [(.ref a0), (.int (0 : Int32)), (.ref b1), (.int (0 : Int32)), (.int (1 : Int32))]) (rest := []) (lenOf pd_100 rfl) rfl (by show 2 * 0 + _ ≤ _; exact Nat.le_of_eq rfl) (hb hby d8_9) rfl e1 (by decide) (by decide)
  obtain ⟨N9q, K9, dj9⟩ := hQ9
  have f10 := Nat.le_trans f2 K9.1
  have f11 := f3.trans K9 (allS (Or.inr sz_b1) all0)
  have f12 := own_sta_keep f4 K9 (allS (own_ns_arv f8) all0)
  have f13 := own_sta_keep f5 K9 (allS (own_ns_arv f8) all0)
  have f14 := own_sta_keep f6 K9 (allS (own_ns_arv f8) all0)
  have f15 := f7.keep K9 (ninS ne_a0_b1 nin0)
  have N9 := Fr.app N0 N9q
  rcases dj9 with ⟨rfl, h8, fb⟩ | ⟨iv, rfl, dj⟩
  · refine OwnGo.of st9 ?_
    show OwnGo p.tables e below _ (T9.setTop (mkF m 12 #[.val (.ref a0), .val (.int (0 : Int32)), .val (.int (1 : Int32)), .val (.ref b1), .unset, .unset] [(.int (1 : Int32))]))
    refine OwnGo.of (B := T9.setTop (mkF m 17 #[.val (.ref a0), .val (.int (0 : Int32)), .val (.int (1 : Int32)), .val (.ref b1), .val (.int (1 : Int32)), .unset] [(.int (1 : Int32)), (.int (1 : Int32))])) (fun t k => ?_) ?_
    · show Steps p.tables e below (T9.setTop (mkF m 12 #[.val (.ref a0), .val (.int (0 : Int32)), .val (.int (1 : Int32)), .val (.ref b1), .unset, .unset] [(.int (1 : Int32))])) t
      refine XS.istore X9.here hx rfl (hb hby d8_12) rfl (l' := #[.val (.ref a0), .val (.int (0 : Int32)), .val (.int (1 : Int32)), .val (.ref b1), .val (.int (1 : Int32)), .unset]) rfl ?_
      refine XS.iload X9.here hx rfl (hb hby d8_14) rfl ?_
      refine XS.iloadN X9.here hx rfl (hb hby d8_16) rfl ?_
      exact k
    have hc16 : (1 : Int32) = (1 : Int32) := by decide
    refine OwnGo.of (B := T9.setTop (mkF m 58 #[.val (.ref a0), .val (.int (0 : Int32)), .val (.int (1 : Int32)), .val (.ref b1), .val (.int (1 : Int32)), .unset] [(.ref b1)])) (fun t k => ?_) ?_
    · show Steps p.tables e below (T9.setTop (mkF m 17 #[.val (.ref a0), .val (.int (0 : Int32)), .val (.int (1 : Int32)), .val (.ref b1), .val (.int (1 : Int32)), .unset] [(.int (1 : Int32)), (.int (1 : Int32))])) t
      refine XS.icmpYes X9.here hx rfl (pc0 := 17) (pc' := 57) rfl (hb hby d8_17) rfl (teq hc16).1 (by decide) (by decide) ?_
      refine XS.aloadN X9.here hx rfl (hb hby d8_57) rfl rfl ?_
      exact k
    obtain ⟨fs, hr, hrun, hended, hW, hsame⟩ := X9.leave (v := some (.ref b1)) (fun h => by rw [Bd.returns] at h; cases h) hlk
    refine ⟨_, _, ?_, hrun, hended, _, _, rfl, ?_, ⟨_, rfl⟩, hW, hsame.mono (by decide) (by decide)⟩
    · show Steps p.tables e below (T9.setTop (mkF m 58 #[.val (.ref a0), .val (.int (0 : Int32)), .val (.int (1 : Int32)), .val (.ref b1), .val (.int (1 : Int32)), .unset] [(.ref b1)])) _
      exact own_retA X9 hx Bd.returns rfl rfl rfl (hb hby d8_58) hr
    · show Qrm8_1 Z a0 k0 kc h0 n0 _ (T9.setFrames fs).heap _
      rw [show (T9.setFrames fs).heap = T9.heap from rfl]
      exact ⟨N9, f11, b1, _, _, rfl, sz_b1, Or.inl ⟨fb, Or.inl ⟨rfl, rfl, rfl, h8⟩⟩⟩
  · refine OwnGo.of st9 ?_
    show OwnGo p.tables e below _ (T9.setTop (mkF m 12 #[.val (.ref a0), .val (.int (0 : Int32)), .val (.int (1 : Int32)), .val (.ref b1), .unset, .unset] [(.int iv)]))
    refine OwnGo.of (B := T9.setTop (mkF m 17 #[.val (.ref a0), .val (.int (0 : Int32)), .val (.int (1 : Int32)), .val (.ref b1), .val (.int iv), .unset] [(.int (1 : Int32)), (.int iv)])) (fun t k => ?_) ?_
    · show Steps p.tables e below (T9.setTop (mkF m 12 #[.val (.ref a0), .val (.int (0 : Int32)), .val (.int (1 : Int32)), .val (.ref b1), .unset, .unset] [(.int iv)])) t
      refine XS.istore X9.here hx rfl (hb hby d8_12) rfl (l' := #[.val (.ref a0), .val (.int (0 : Int32)), .val (.int (1 : Int32)), .val (.ref b1), .val (.int iv), .unset]) rfl ?_
      refine XS.iload X9.here hx rfl (hb hby d8_14) rfl ?_
      refine XS.iloadN X9.here hx rfl (hb hby d8_16) rfl ?_
      exact k
    have hc17 : ¬ (iv = (1 : Int32)) := by rcases dj with ⟨rfl, -⟩ <;> decide
    refine OwnGo.of (B := T9.setTop (mkF m 23 #[.val (.ref a0), .val (.int (0 : Int32)), .val (.int (1 : Int32)), .val (.ref b1), .val (.int iv), .unset] [(.int (1 : Int32)), (.int (0 : Int32)), (.ref a0)])) (fun t k => ?_) ?_
    · show Steps p.tables e below (T9.setTop (mkF m 17 #[.val (.ref a0), .val (.int (0 : Int32)), .val (.int (1 : Int32)), .val (.ref b1), .val (.int iv), .unset] [(.int (1 : Int32)), (.int iv)])) t
      refine XS.icmpNo X9.here hx rfl (hb hby d8_17) rfl (feq hc17).1 ?_
      refine XS.aloadN X9.here hx rfl (hb hby d8_20) rfl rfl ?_
      refine XS.iloadN X9.here hx rfl (hb hby d8_21) rfl ?_
      refine XS.iloadN X9.here hx rfl (hb hby d8_22) rfl ?_
      exact k
    obtain ⟨T18, L18, v18, X18, hQ18, st18⟩ := own_callS X9 hx (y := (⟨"java/lang/StringUTF16", "toBytes", "([CII)[B"⟩ : MethodName)) hown (mvT hZ (w113 hw)) (mvT hZ (w114 hw)) (mvT hZ (w42 hw)) (mvT hZ (w115 hw)) (by decide) (backOf (W := 0) (rm26_1 l Z aw hw [] a0 k0 kc T9.heap n0 f10 f15 f12 f13 f14) hZ (w115 hw) (w42 hw) (by decide) (by decide)) (g := (mkF m 23 #[.val (.ref a0), .val (.int (0 : Int32)), .val (.int (1 : Int32)), .val (.ref b1), .val (.int iv), .unset] [(.int (1 : Int32)), (.int (0 : Int32)), (.ref a0)])) rfl (by rw [hml]; rfl) (argsL := [(.ref a0), (.int (0 : Int32)), (.int (1 : Int32))]) (rest := []) (lenOf pd_104 rfl) rfl (by show 2 * 0 + _ ≤ _; exact Nat.le_of_eq rfl) (hb hby d8_23) rfl rfl (by decide) (by decide)
    obtain ⟨N18q, K18, y18, kq18, rfl, A18, gy18⟩ := hQ18
    have ne_a0_y18 : a0 ≠ y18 := Nat.ne_of_lt (Nat.lt_of_lt_of_le f15.lt gy18)
    have g_y18 : n0 ≤ y18 := Nat.le_trans f10 gy18
    have sz_y18 : h0.size ≤ y18 := Nat.le_trans f11.1 gy18
    have f19 := Nat.le_trans f10 K18.1
    have f20 := f11.trans K18 all0
    have f21 := own_sta_keep f12 K18 all0
    have f22 := own_sta_keep f13 K18 all0
    have f23 := own_sta_keep f14 K18 all0
    have f24 := f15.keep K18 nin0
    have f25 : Arv Z T18.heap y18 kq18 .byte (2 : Int32) [(.int (StrChars.lo8 k0)), (.int (StrChars.hi8 k0))] (.int (0 : Int32)) := A18
    have N18 := Fr.app N9 N18q
    refine OwnGo.of st18 ?_
    show OwnGo p.tables e below _ (T18.setTop (mkF m 26 #[.val (.ref a0), .val (.int (0 : Int32)), .val (.int (1 : Int32)), .val (.ref b1), .val (.int iv), .unset] [(.ref y18)]))
    refine OwnGo.of (B := T18.setTop (mkF m 28 #[.val (.ref a0), .val (.int (0 : Int32)), .val (.int (1 : Int32)), .val (.ref b1), .val (.int iv), .val (.ref y18)] [])) (fun t k => ?_) ?_
    · show Steps p.tables e below (T18.setTop (mkF m 26 #[.val (.ref a0), .val (.int (0 : Int32)), .val (.int (1 : Int32)), .val (.ref b1), .val (.int iv), .unset] [(.ref y18)])) t
      refine XS.astore X18.here hx rfl (hb hby d8_26) rfl rfl (l' := #[.val (.ref a0), .val (.int (0 : Int32)), .val (.int (1 : Int32)), .val (.ref b1), .val (.int iv), .val (.ref y18)]) rfl ?_
      exact k
    rcases dj with ⟨rfl, h5⟩
    · show OwnGo p.tables e below _ (T18.setTop (mkF m 28 #[.val (.ref a0), .val (.int (0 : Int32)), .val (.int (1 : Int32)), .val (.ref b1), .val (.int (0 : Int32)), .val (.ref y18)] []))
      refine OwnGo.of (B := T18.setTop (mkF m 32 #[.val (.ref a0), .val (.int (0 : Int32)), .val (.int (1 : Int32)), .val (.ref b1), .val (.int (0 : Int32)), .val (.ref y18)] [(.int (0 : Int32)), (.ref y18)])) (fun t k => ?_) ?_
      · show Steps p.tables e below (T18.setTop (mkF m 28 #[.val (.ref a0), .val (.int (0 : Int32)), .val (.int (1 : Int32)), .val (.ref b1), .val (.int (0 : Int32)), .val (.ref y18)] [])) t
        refine XS.aload X18.here hx rfl (hb hby d8_28) rfl rfl ?_
        refine XS.iload X18.here hx rfl (hb hby d8_30) rfl ?_
        exact k
      obtain ⟨T26, L26, v26, X26, hQ26, st26⟩ := own_callS X18 hx (y := (⟨"java/lang/StringUTF16", "getChar", "([BI)C"⟩ : MethodName)) hown (mvT hZ (w129 hw)) (mvT hZ (w130 hw)) (mvT hZ (w42 hw)) (mvT hZ (w131 hw)) (by decide) (backOf (W := 0) (rm30 l Z aw hw [] y18 (0 : Int32) kq18 (2 : Int32) ([(.int (StrChars.lo8 k0)), (.int (StrChars.hi8 k0))] : List Value) k0 T18.heap n0 f19 f25 f21 f22 f23 (by decide) (by decide) rfl rfl hc0) hZ (w131 hw) (w42 hw) (by decide) (by decide)) (g := (mkF m 32 #[.val (.ref a0), .val (.int (0 : Int32)), .val (.int (1 : Int32)), .val (.ref b1), .val (.int (0 : Int32)), .val (.ref y18)] [(.int (0 : Int32)), (.ref y18)])) rfl (by rw [hml]; rfl) (argsL := [(.ref y18), (.int (0 : Int32))]) (rest := []) (lenOf pd_76 rfl) rfl (by show 2 * 0 + _ ≤ _; exact Nat.le_of_eq rfl) (hb hby d8_32) rfl rfl (by decide) (by decide)
      obtain ⟨rfl, N26q, eq26⟩ := hQ26
      have N26 := Fr.app N18 N26q
      refine OwnGo.of st26 ?_
      show OwnGo p.tables e below _ (T26.setTop (mkF m 35 #[.val (.ref a0), .val (.int (0 : Int32)), .val (.int (1 : Int32)), .val (.ref b1), .val (.int (0 : Int32)), .val (.ref y18)] [(.int k0)]))
      refine OwnGo.of (B := T26.setTop (mkF m 38 #[.val (.ref a0), .val (.int (0 : Int32)), .val (.int (1 : Int32)), .val (.ref b1), .val (.int (0 : Int32)), .val (.ref y18)] [(.int (255 : Int32)), (.int k0)])) (fun t k => ?_) ?_
      · show Steps p.tables e below (T26.setTop (mkF m 35 #[.val (.ref a0), .val (.int (0 : Int32)), .val (.int (1 : Int32)), .val (.ref b1), .val (.int (0 : Int32)), .val (.ref y18)] [(.int k0)])) t
        refine XS.sipush X26.here hx rfl (hb hby d8_35) ?_
        exact k
      have hc27 : (255 : Int32) < k0 := h5
      refine OwnGo.of (B := T26.setTop (mkF m 56 #[.val (.ref a0), .val (.int (0 : Int32)), .val (.int (1 : Int32)), .val (.ref b1), .val (.int (0 : Int32)), .val (.ref y18)] [(.ref y18)])) (fun t k => ?_) ?_
      · show Steps p.tables e below (T26.setTop (mkF m 38 #[.val (.ref a0), .val (.int (0 : Int32)), .val (.int (1 : Int32)), .val (.ref b1), .val (.int (0 : Int32)), .val (.ref y18)] [(.int (255 : Int32)), (.int k0)])) t
        refine XS.icmpYes X26.here hx rfl (pc0 := 38) (pc' := 54) rfl (hb hby d8_38) rfl (tlt hc27).2.2.1 (by decide) (by decide) ?_
        refine XS.aload X26.here hx rfl (hb hby d8_54) rfl rfl ?_
        exact k
      obtain ⟨fs, hr, hrun, hended, hW, hsame⟩ := X26.leave (v := some (.ref y18)) (fun h => by rw [Bd.returns] at h; cases h) hlk
      refine ⟨_, _, ?_, hrun, hended, _, _, rfl, ?_, ⟨_, rfl⟩, hW, hsame.mono (by decide) (by decide)⟩
      · show Steps p.tables e below (T26.setTop (mkF m 56 #[.val (.ref a0), .val (.int (0 : Int32)), .val (.int (1 : Int32)), .val (.ref b1), .val (.int (0 : Int32)), .val (.ref y18)] [(.ref y18)])) _
        exact own_retA X26 hx Bd.returns rfl rfl rfl (hb hby d8_56) hr
      · show Qrm8_1 Z a0 k0 kc h0 n0 _ (T26.setFrames fs).heap _
        rw [show (T26.setFrames fs).heap = T18.heap from eq26]
        exact ⟨N26, f20, y18, _, _, rfl, sz_y18, Or.inr ⟨f25, Or.inr ⟨rfl, rfl, rfl, k0, List.mem_of_getElem? (i := 0) rfl, h5⟩⟩⟩
theorem ef_rm8_2 (m : MethodId) (a0 : Addr) : entryFrame m #[(.ref a0), (.int (0 : Int32)), (.int (2 : Int32))] 6 = mkF m 0 #[.val (.ref a0), .val (.int (0 : Int32)), .val (.int (2 : Int32)), .unset, .unset, .unset] [] := by first | (simp [entryFrame, mkF, argsToLocals, Value.category]; done) | rfl
def Qrm8_2 (Z : State) (a0 : Addr) (k0 : Int32) (k1 : Int32) (kc : ClassId) (h0 : Heap) (n0 : Nat) (v : Option Value) (h : Heap) (L : List Loc) : Prop := Fr n0 L ∧ Keep h0 h [] ∧ ∃ (y : Addr) (k : ClassId) (vs : List Value), v = some (.ref y) ∧ h0.size ≤ y ∧ ((Arv Z h y k .byte (2 : Int32) vs (.int (0 : Int32)) ∧ StrChars.Road.CodA ([k0, k1] : List Int32) 0 (2 : Int32) vs) ∨ (Arv Z h y k .byte (4 : Int32) vs (.int (0 : Int32)) ∧ StrChars.Road.CodA ([k0, k1] : List Int32) 1 (4 : Int32) vs))
set_option maxRecDepth 65536 in
set_option maxHeartbeats 40000000 in
theorem rm8_2 (l : Launch) (Z : State) (aw : Array Value) (hw : ∀ d ∈ tables_1, d.before aw Z = true) (ws : List Jvm.Cond) (a0 : Addr) (k0 : Int32) (k1 : Int32) (kc : ClassId) (h0 : Heap) (n0 : Nat) (Z0 : n0 ≤ h0.size) (V_a : Arv Z h0 a0 kc .char (2 : Int32) [(.int k0), (.int k1)] (.int (0 : Int32))) (S__assertionsDisabled : Sta Z h0 "java/lang/StringUTF16" "$assertionsDisabled" "Z" (.int (1 : Int32))) (S_HI_BYTE_SHIFT : Sta Z h0 "java/lang/StringUTF16" "HI_BYTE_SHIFT" "I" (.int (0 : Int32))) (S_LO_BYTE_SHIFT : Sta Z h0 "java/lang/StringUTF16" "LO_BYTE_SHIFT" "I" (.int (8 : Int32))) (hc0 : OwnC16 k0) (hc1 : OwnC16 k1) :
    MetFree l (⟨"java/lang/StringUTF16", "compress", "([CII)[B"⟩ : MethodName) (head1 (Jvm.Cond.code (⟨"java/lang/StringUTF16", "compress", "([CII)[B"⟩ : MethodName) jdk_52_method_16_code 6 (some (.array .byte)) :: ws) ({ frames := 3, cells := 2, slots := 12, locals := 40 } : Room)) (fun a U => a = #[(.ref a0), (.int (0 : Int32)), (.int (2 : Int32))] ∧ Z.Warmed39 U.vm ∧ U.heap = h0) (fun _ _ _ _ _ => True) (fun _ U o U' => ∃ v L, o = .returned v ∧ Qrm8_2 Z a0 k0 k1 kc h0 n0 v U'.heap L ∧ FrameEnd U o U' L ({ frames := 3, cells := 2, slots := 12, locals := 40 } : Room).cells ({ frames := 3, cells := 2, slots := 12, locals := 40 } : Room).slots) := by
  refine MetFree.of_bodySF (plainFor_of_name pn_60) hisR ?_
  intro p e s m args below meth c s₁ Bd hml0 hP hK
  obtain ⟨rfl, hZ, hh⟩ := hP
  have hx := Bd.exec
  have hby := Bd.bytes
  have hml : c.maxLocals = 6 := hml0
  have hown : s.vm.findClass "java/lang/StringUTF16" = some m.cls := findClass_of_methodNamed Bd.named
  have hnm := (name_of_methodNamed Bd.named Bd.method).1
  have X0 : Stand p l e ({ frames := 3, cells := 2, slots := 12, locals := 40 } : Room) s m #[(.ref a0), (.int (0 : Int32)), (.int (2 : Int32))] below meth c s₁ [] 0 0 := Stand.of_body Bd
  have e0 : s₁.heap = h0 := by rw [← hh, Bd.state]; rfl
  have N0 := Fr.nil n0
  have hlk := Bd.notSynchronized
  show OwnGo p.tables e below _ (s₁.setTop (entryFrame m #[(.ref a0), (.int (0 : Int32)), (.int (2 : Int32))] 6))
  rw [ef_rm8_2 m a0]
  have K0 : Keep h0 h0 [] := Keep.refl _ _
  show OwnGo p.tables e below _ (s₁.setTop (mkF m 0 #[.val (.ref a0), .val (.int (0 : Int32)), .val (.int (2 : Int32)), .unset, .unset, .unset] []))
  refine OwnGo.of (B := s₁.setTop (mkF m 1 #[.val (.ref a0), .val (.int (0 : Int32)), .val (.int (2 : Int32)), .unset, .unset, .unset] [(.int (2 : Int32))])) (fun t k => ?_) ?_
  · show Steps p.tables e below (s₁.setTop (mkF m 0 #[.val (.ref a0), .val (.int (0 : Int32)), .val (.int (2 : Int32)), .unset, .unset, .unset] [])) t
    refine XS.iloadN X0.here hx rfl (hb hby d8_0) rfl ?_
    exact k
  obtain ⟨T1, h1, kq1, X1, e1, E1, A1, st1⟩ := newP (aty := .byte) X0 hx hZ (w20 hw) e0 (g := (mkF m 1 #[.val (.ref a0), .val (.int (0 : Int32)), .val (.int (2 : Int32)), .unset, .unset, .unset] [(.int (2 : Int32))])) rfl (hb hby d8_1) rfl (by decide) (cap := 2) (by decide) (by decide) (by decide) (by decide)
  obtain ⟨b1, g1⟩ : ∃ z, z = h0.size := ⟨_, rfl⟩
  rw [← g1] at A1 st1
  refine OwnGo.of st1 ?_
  have ne_a0_b1 : a0 ≠ b1 := Nat.ne_of_lt (Nat.lt_of_lt_of_le V_a.lt (Nat.le_of_eq g1.symm))
  have g_b1 : n0 ≤ b1 := Nat.le_trans Z0 (Nat.le_of_eq g1.symm)
  have sz_b1 : h0.size ≤ b1 := Nat.le_trans K0.1 (Nat.le_of_eq g1.symm)
  have f2 := Nat.le_trans Z0 E1.1
  have f3 := K0.ext E1
  have f4 := S__assertionsDisabled.ext E1
  have f5 := S_HI_BYTE_SHIFT.ext E1
  have f6 := S_LO_BYTE_SHIFT.ext E1
  have f7 := V_a.ext E1
  have f8 : Arv Z h1 b1 kq1 .byte (2 : Int32) [(.int (0 : Int32)), (.int (0 : Int32))] (.int (0 : Int32)) := (Arv.new A1 (by decide)).pad (pad_rep [] (.int (0 : Int32)) 2)
  show OwnGo p.tables e below _ (T1.setTop (mkF m 3 #[.val (.ref a0), .val (.int (0 : Int32)), .val (.int (2 : Int32)), .unset, .unset, .unset] [(.ref b1)]))
  refine OwnGo.of (B := T1.setTop (mkF m 9 #[.val (.ref a0), .val (.int (0 : Int32)), .val (.int (2 : Int32)), .val (.ref b1), .unset, .unset] [(.int (2 : Int32)), (.int (0 : Int32)), (.ref b1), (.int (0 : Int32)), (.ref a0)])) (fun t k => ?_) ?_
  · show Steps p.tables e below (T1.setTop (mkF m 3 #[.val (.ref a0), .val (.int (0 : Int32)), .val (.int (2 : Int32)), .unset, .unset, .unset] [(.ref b1)])) t
    refine XS.astoreN X1.here hx rfl (hb hby d8_3) rfl rfl (l' := #[.val (.ref a0), .val (.int (0 : Int32)), .val (.int (2 : Int32)), .val (.ref b1), .unset, .unset]) rfl ?_
    refine XS.aloadN X1.here hx rfl (hb hby d8_4) rfl rfl ?_
    refine XS.iloadN X1.here hx rfl (hb hby d8_5) rfl ?_
    refine XS.aloadN X1.here hx rfl (hb hby d8_6) rfl rfl ?_
    refine XS.iconst X1.here hx rfl (hb hby d8_7) ?_
    refine XS.iloadN X1.here hx rfl (hb hby d8_8) rfl ?_
    exact k
  obtain ⟨T9, L9, v9, X9, hQ9, st9⟩ := own_callS X1 hx (y := (⟨"java/lang/StringUTF16", "compress", "([CI[BII)I"⟩ : MethodName)) hown (mvT hZ (w44 hw)) (mvT hZ (w45 hw)) (mvT hZ (w42 hw)) (mvT hZ (w46 hw)) (by decide) (backOf (W := 0) (rm9_2 l Z aw hw [] a0 b1 k0 k1 kc kq1 h1 n0 f2 f7 f8 g_b1 ne_a0_b1) hZ (w46 hw) (w42 hw) (by decide) (by decide)) (g := (mkF m 9 #[.val (.ref a0), .val (.int (0 : Int32)), .val (.int (2 : Int32)), .val (.ref b1), .unset, .unset] [(.int (2 : Int32)), (.int (0 : Int32)), (.ref b1), (.int (0 : Int32)), (.ref a0)])) rfl (by rw [hml]; rfl) (argsL := [(.ref a0), (.int (0 : Int32)), (.ref b1), (.int (0 : Int32)), (.int (2 : Int32))]) (rest := []) (lenOf pd_100 rfl) rfl (by show 2 * 0 + _ ≤ _; exact Nat.le_of_eq rfl) (hb hby d8_9) rfl e1 (by decide) (by decide)
  obtain ⟨N9q, K9, dj9⟩ := hQ9
  have f10 := Nat.le_trans f2 K9.1
  have f11 := f3.trans K9 (allS (Or.inr sz_b1) all0)
  have f12 := own_sta_keep f4 K9 (allS (own_ns_arv f8) all0)
  have f13 := own_sta_keep f5 K9 (allS (own_ns_arv f8) all0)
  have f14 := own_sta_keep f6 K9 (allS (own_ns_arv f8) all0)
  have f15 := f7.keep K9 (ninS ne_a0_b1 nin0)
  have N9 := Fr.app N0 N9q
  rcases dj9 with ⟨rfl, h8, fb⟩ | ⟨iv, rfl, dj⟩
  · refine OwnGo.of st9 ?_
    show OwnGo p.tables e below _ (T9.setTop (mkF m 12 #[.val (.ref a0), .val (.int (0 : Int32)), .val (.int (2 : Int32)), .val (.ref b1), .unset, .unset] [(.int (2 : Int32))]))
    refine OwnGo.of (B := T9.setTop (mkF m 17 #[.val (.ref a0), .val (.int (0 : Int32)), .val (.int (2 : Int32)), .val (.ref b1), .val (.int (2 : Int32)), .unset] [(.int (2 : Int32)), (.int (2 : Int32))])) (fun t k => ?_) ?_
    · show Steps p.tables e below (T9.setTop (mkF m 12 #[.val (.ref a0), .val (.int (0 : Int32)), .val (.int (2 : Int32)), .val (.ref b1), .unset, .unset] [(.int (2 : Int32))])) t
      refine XS.istore X9.here hx rfl (hb hby d8_12) rfl (l' := #[.val (.ref a0), .val (.int (0 : Int32)), .val (.int (2 : Int32)), .val (.ref b1), .val (.int (2 : Int32)), .unset]) rfl ?_
      refine XS.iload X9.here hx rfl (hb hby d8_14) rfl ?_
      refine XS.iloadN X9.here hx rfl (hb hby d8_16) rfl ?_
      exact k
    have hc16 : (2 : Int32) = (2 : Int32) := by decide
    refine OwnGo.of (B := T9.setTop (mkF m 58 #[.val (.ref a0), .val (.int (0 : Int32)), .val (.int (2 : Int32)), .val (.ref b1), .val (.int (2 : Int32)), .unset] [(.ref b1)])) (fun t k => ?_) ?_
    · show Steps p.tables e below (T9.setTop (mkF m 17 #[.val (.ref a0), .val (.int (0 : Int32)), .val (.int (2 : Int32)), .val (.ref b1), .val (.int (2 : Int32)), .unset] [(.int (2 : Int32)), (.int (2 : Int32))])) t
      refine XS.icmpYes X9.here hx rfl (pc0 := 17) (pc' := 57) rfl (hb hby d8_17) rfl (teq hc16).1 (by decide) (by decide) ?_
      refine XS.aloadN X9.here hx rfl (hb hby d8_57) rfl rfl ?_
      exact k
    obtain ⟨fs, hr, hrun, hended, hW, hsame⟩ := X9.leave (v := some (.ref b1)) (fun h => by rw [Bd.returns] at h; cases h) hlk
    refine ⟨_, _, ?_, hrun, hended, _, _, rfl, ?_, ⟨_, rfl⟩, hW, hsame.mono (by decide) (by decide)⟩
    · show Steps p.tables e below (T9.setTop (mkF m 58 #[.val (.ref a0), .val (.int (0 : Int32)), .val (.int (2 : Int32)), .val (.ref b1), .val (.int (2 : Int32)), .unset] [(.ref b1)])) _
      exact own_retA X9 hx Bd.returns rfl rfl rfl (hb hby d8_58) hr
    · show Qrm8_2 Z a0 k0 k1 kc h0 n0 _ (T9.setFrames fs).heap _
      rw [show (T9.setFrames fs).heap = T9.heap from rfl]
      exact ⟨N9, f11, b1, _, _, rfl, sz_b1, Or.inl ⟨fb, Or.inl ⟨rfl, rfl, rfl, h8⟩⟩⟩
  · refine OwnGo.of st9 ?_
    show OwnGo p.tables e below _ (T9.setTop (mkF m 12 #[.val (.ref a0), .val (.int (0 : Int32)), .val (.int (2 : Int32)), .val (.ref b1), .unset, .unset] [(.int iv)]))
    refine OwnGo.of (B := T9.setTop (mkF m 17 #[.val (.ref a0), .val (.int (0 : Int32)), .val (.int (2 : Int32)), .val (.ref b1), .val (.int iv), .unset] [(.int (2 : Int32)), (.int iv)])) (fun t k => ?_) ?_
    · show Steps p.tables e below (T9.setTop (mkF m 12 #[.val (.ref a0), .val (.int (0 : Int32)), .val (.int (2 : Int32)), .val (.ref b1), .unset, .unset] [(.int iv)])) t
      refine XS.istore X9.here hx rfl (hb hby d8_12) rfl (l' := #[.val (.ref a0), .val (.int (0 : Int32)), .val (.int (2 : Int32)), .val (.ref b1), .val (.int iv), .unset]) rfl ?_
      refine XS.iload X9.here hx rfl (hb hby d8_14) rfl ?_
      refine XS.iloadN X9.here hx rfl (hb hby d8_16) rfl ?_
      exact k
    have hc17 : ¬ (iv = (2 : Int32)) := by rcases dj with ⟨rfl, -⟩ | ⟨rfl, -⟩ <;> decide
    refine OwnGo.of (B := T9.setTop (mkF m 23 #[.val (.ref a0), .val (.int (0 : Int32)), .val (.int (2 : Int32)), .val (.ref b1), .val (.int iv), .unset] [(.int (2 : Int32)), (.int (0 : Int32)), (.ref a0)])) (fun t k => ?_) ?_
    · show Steps p.tables e below (T9.setTop (mkF m 17 #[.val (.ref a0), .val (.int (0 : Int32)), .val (.int (2 : Int32)), .val (.ref b1), .val (.int iv), .unset] [(.int (2 : Int32)), (.int iv)])) t
      refine XS.icmpNo X9.here hx rfl (hb hby d8_17) rfl (feq hc17).1 ?_
      refine XS.aloadN X9.here hx rfl (hb hby d8_20) rfl rfl ?_
      refine XS.iloadN X9.here hx rfl (hb hby d8_21) rfl ?_
      refine XS.iloadN X9.here hx rfl (hb hby d8_22) rfl ?_
      exact k
    obtain ⟨T18, L18, v18, X18, hQ18, st18⟩ := own_callS X9 hx (y := (⟨"java/lang/StringUTF16", "toBytes", "([CII)[B"⟩ : MethodName)) hown (mvT hZ (w113 hw)) (mvT hZ (w114 hw)) (mvT hZ (w42 hw)) (mvT hZ (w115 hw)) (by decide) (backOf (W := 0) (rm26_2 l Z aw hw [] a0 k0 k1 kc T9.heap n0 f10 f15 f12 f13 f14) hZ (w115 hw) (w42 hw) (by decide) (by decide)) (g := (mkF m 23 #[.val (.ref a0), .val (.int (0 : Int32)), .val (.int (2 : Int32)), .val (.ref b1), .val (.int iv), .unset] [(.int (2 : Int32)), (.int (0 : Int32)), (.ref a0)])) rfl (by rw [hml]; rfl) (argsL := [(.ref a0), (.int (0 : Int32)), (.int (2 : Int32))]) (rest := []) (lenOf pd_104 rfl) rfl (by show 2 * 0 + _ ≤ _; exact Nat.le_of_eq rfl) (hb hby d8_23) rfl rfl (by decide) (by decide)
    obtain ⟨N18q, K18, y18, kq18, rfl, A18, gy18⟩ := hQ18
    have ne_a0_y18 : a0 ≠ y18 := Nat.ne_of_lt (Nat.lt_of_lt_of_le f15.lt gy18)
    have g_y18 : n0 ≤ y18 := Nat.le_trans f10 gy18
    have sz_y18 : h0.size ≤ y18 := Nat.le_trans f11.1 gy18
    have f19 := Nat.le_trans f10 K18.1
    have f20 := f11.trans K18 all0
    have f21 := own_sta_keep f12 K18 all0
    have f22 := own_sta_keep f13 K18 all0
    have f23 := own_sta_keep f14 K18 all0
    have f24 := f15.keep K18 nin0
    have f25 : Arv Z T18.heap y18 kq18 .byte (4 : Int32) [(.int (StrChars.lo8 k0)), (.int (StrChars.hi8 k0)), (.int (StrChars.lo8 k1)), (.int (StrChars.hi8 k1))] (.int (0 : Int32)) := A18
    have N18 := Fr.app N9 N18q
    refine OwnGo.of st18 ?_
    show OwnGo p.tables e below _ (T18.setTop (mkF m 26 #[.val (.ref a0), .val (.int (0 : Int32)), .val (.int (2 : Int32)), .val (.ref b1), .val (.int iv), .unset] [(.ref y18)]))
    refine OwnGo.of (B := T18.setTop (mkF m 28 #[.val (.ref a0), .val (.int (0 : Int32)), .val (.int (2 : Int32)), .val (.ref b1), .val (.int iv), .val (.ref y18)] [])) (fun t k => ?_) ?_
    · show Steps p.tables e below (T18.setTop (mkF m 26 #[.val (.ref a0), .val (.int (0 : Int32)), .val (.int (2 : Int32)), .val (.ref b1), .val (.int iv), .unset] [(.ref y18)])) t
      refine XS.astore X18.here hx rfl (hb hby d8_26) rfl rfl (l' := #[.val (.ref a0), .val (.int (0 : Int32)), .val (.int (2 : Int32)), .val (.ref b1), .val (.int iv), .val (.ref y18)]) rfl ?_
      exact k
    rcases dj with ⟨rfl, h5⟩ | ⟨rfl, h5⟩
    · show OwnGo p.tables e below _ (T18.setTop (mkF m 28 #[.val (.ref a0), .val (.int (0 : Int32)), .val (.int (2 : Int32)), .val (.ref b1), .val (.int (0 : Int32)), .val (.ref y18)] []))
      refine OwnGo.of (B := T18.setTop (mkF m 32 #[.val (.ref a0), .val (.int (0 : Int32)), .val (.int (2 : Int32)), .val (.ref b1), .val (.int (0 : Int32)), .val (.ref y18)] [(.int (0 : Int32)), (.ref y18)])) (fun t k => ?_) ?_
      · show Steps p.tables e below (T18.setTop (mkF m 28 #[.val (.ref a0), .val (.int (0 : Int32)), .val (.int (2 : Int32)), .val (.ref b1), .val (.int (0 : Int32)), .val (.ref y18)] [])) t
        refine XS.aload X18.here hx rfl (hb hby d8_28) rfl rfl ?_
        refine XS.iload X18.here hx rfl (hb hby d8_30) rfl ?_
        exact k
      obtain ⟨T26, L26, v26, X26, hQ26, st26⟩ := own_callS X18 hx (y := (⟨"java/lang/StringUTF16", "getChar", "([BI)C"⟩ : MethodName)) hown (mvT hZ (w129 hw)) (mvT hZ (w130 hw)) (mvT hZ (w42 hw)) (mvT hZ (w131 hw)) (by decide) (backOf (W := 0) (rm30 l Z aw hw [] y18 (0 : Int32) kq18 (4 : Int32) ([(.int (StrChars.lo8 k0)), (.int (StrChars.hi8 k0)), (.int (StrChars.lo8 k1)), (.int (StrChars.hi8 k1))] : List Value) k0 T18.heap n0 f19 f25 f21 f22 f23 (by decide) (by decide) rfl rfl hc0) hZ (w131 hw) (w42 hw) (by decide) (by decide)) (g := (mkF m 32 #[.val (.ref a0), .val (.int (0 : Int32)), .val (.int (2 : Int32)), .val (.ref b1), .val (.int (0 : Int32)), .val (.ref y18)] [(.int (0 : Int32)), (.ref y18)])) rfl (by rw [hml]; rfl) (argsL := [(.ref y18), (.int (0 : Int32))]) (rest := []) (lenOf pd_76 rfl) rfl (by show 2 * 0 + _ ≤ _; exact Nat.le_of_eq rfl) (hb hby d8_32) rfl rfl (by decide) (by decide)
      obtain ⟨rfl, N26q, eq26⟩ := hQ26
      have N26 := Fr.app N18 N26q
      refine OwnGo.of st26 ?_
      show OwnGo p.tables e below _ (T26.setTop (mkF m 35 #[.val (.ref a0), .val (.int (0 : Int32)), .val (.int (2 : Int32)), .val (.ref b1), .val (.int (0 : Int32)), .val (.ref y18)] [(.int k0)]))
      refine OwnGo.of (B := T26.setTop (mkF m 38 #[.val (.ref a0), .val (.int (0 : Int32)), .val (.int (2 : Int32)), .val (.ref b1), .val (.int (0 : Int32)), .val (.ref y18)] [(.int (255 : Int32)), (.int k0)])) (fun t k => ?_) ?_
      · show Steps p.tables e below (T26.setTop (mkF m 35 #[.val (.ref a0), .val (.int (0 : Int32)), .val (.int (2 : Int32)), .val (.ref b1), .val (.int (0 : Int32)), .val (.ref y18)] [(.int k0)])) t
        refine XS.sipush X26.here hx rfl (hb hby d8_35) ?_
        exact k
      have hc27 : (255 : Int32) < k0 := h5
      refine OwnGo.of (B := T26.setTop (mkF m 56 #[.val (.ref a0), .val (.int (0 : Int32)), .val (.int (2 : Int32)), .val (.ref b1), .val (.int (0 : Int32)), .val (.ref y18)] [(.ref y18)])) (fun t k => ?_) ?_
      · show Steps p.tables e below (T26.setTop (mkF m 38 #[.val (.ref a0), .val (.int (0 : Int32)), .val (.int (2 : Int32)), .val (.ref b1), .val (.int (0 : Int32)), .val (.ref y18)] [(.int (255 : Int32)), (.int k0)])) t
        refine XS.icmpYes X26.here hx rfl (pc0 := 38) (pc' := 54) rfl (hb hby d8_38) rfl (tlt hc27).2.2.1 (by decide) (by decide) ?_
        refine XS.aload X26.here hx rfl (hb hby d8_54) rfl rfl ?_
        exact k
      obtain ⟨fs, hr, hrun, hended, hW, hsame⟩ := X26.leave (v := some (.ref y18)) (fun h => by rw [Bd.returns] at h; cases h) hlk
      refine ⟨_, _, ?_, hrun, hended, _, _, rfl, ?_, ⟨_, rfl⟩, hW, hsame.mono (by decide) (by decide)⟩
      · show Steps p.tables e below (T26.setTop (mkF m 56 #[.val (.ref a0), .val (.int (0 : Int32)), .val (.int (2 : Int32)), .val (.ref b1), .val (.int (0 : Int32)), .val (.ref y18)] [(.ref y18)])) _
        exact own_retA X26 hx Bd.returns rfl rfl rfl (hb hby d8_56) hr
      · show Qrm8_2 Z a0 k0 k1 kc h0 n0 _ (T26.setFrames fs).heap _
        rw [show (T26.setFrames fs).heap = T18.heap from eq26]
        exact ⟨N26, f20, y18, _, _, rfl, sz_y18, Or.inr ⟨f25, Or.inr ⟨rfl, rfl, rfl, k0, List.mem_of_getElem? (i := 0) rfl, h5⟩⟩⟩
    · show OwnGo p.tables e below _ (T18.setTop (mkF m 28 #[.val (.ref a0), .val (.int (0 : Int32)), .val (.int (2 : Int32)), .val (.ref b1), .val (.int (1 : Int32)), .val (.ref y18)] []))
      refine OwnGo.of (B := T18.setTop (mkF m 32 #[.val (.ref a0), .val (.int (0 : Int32)), .val (.int (2 : Int32)), .val (.ref b1), .val (.int (1 : Int32)), .val (.ref y18)] [(.int (1 : Int32)), (.ref y18)])) (fun t k => ?_) ?_
      · show Steps p.tables e below (T18.setTop (mkF m 28 #[.val (.ref a0), .val (.int (0 : Int32)), .val (.int (2 : Int32)), .val (.ref b1), .val (.int (1 : Int32)), .val (.ref y18)] [])) t
        refine XS.aload X18.here hx rfl (hb hby d8_28) rfl rfl ?_
        refine XS.iload X18.here hx rfl (hb hby d8_30) rfl ?_
        exact k
      obtain ⟨T28, L28, v28, X28, hQ28, st28⟩ := own_callS X18 hx (y := (⟨"java/lang/StringUTF16", "getChar", "([BI)C"⟩ : MethodName)) hown (mvT hZ (w129 hw)) (mvT hZ (w130 hw)) (mvT hZ (w42 hw)) (mvT hZ (w131 hw)) (by decide) (backOf (W := 0) (rm30 l Z aw hw [] y18 (1 : Int32) kq18 (4 : Int32) ([(.int (StrChars.lo8 k0)), (.int (StrChars.hi8 k0)), (.int (StrChars.lo8 k1)), (.int (StrChars.hi8 k1))] : List Value) k1 T18.heap n0 f19 f25 f21 f22 f23 (by decide) (by decide) rfl rfl hc1) hZ (w131 hw) (w42 hw) (by decide) (by decide)) (g := (mkF m 32 #[.val (.ref a0), .val (.int (0 : Int32)), .val (.int (2 : Int32)), .val (.ref b1), .val (.int (1 : Int32)), .val (.ref y18)] [(.int (1 : Int32)), (.ref y18)])) rfl (by rw [hml]; rfl) (argsL := [(.ref y18), (.int (1 : Int32))]) (rest := []) (lenOf pd_76 rfl) rfl (by show 2 * 0 + _ ≤ _; exact Nat.le_of_eq rfl) (hb hby d8_32) rfl rfl (by decide) (by decide)
      obtain ⟨rfl, N28q, eq28⟩ := hQ28
      have N28 := Fr.app N18 N28q
      refine OwnGo.of st28 ?_
      show OwnGo p.tables e below _ (T28.setTop (mkF m 35 #[.val (.ref a0), .val (.int (0 : Int32)), .val (.int (2 : Int32)), .val (.ref b1), .val (.int (1 : Int32)), .val (.ref y18)] [(.int k1)]))
      refine OwnGo.of (B := T28.setTop (mkF m 38 #[.val (.ref a0), .val (.int (0 : Int32)), .val (.int (2 : Int32)), .val (.ref b1), .val (.int (1 : Int32)), .val (.ref y18)] [(.int (255 : Int32)), (.int k1)])) (fun t k => ?_) ?_
      · show Steps p.tables e below (T28.setTop (mkF m 35 #[.val (.ref a0), .val (.int (0 : Int32)), .val (.int (2 : Int32)), .val (.ref b1), .val (.int (1 : Int32)), .val (.ref y18)] [(.int k1)])) t
        refine XS.sipush X28.here hx rfl (hb hby d8_35) ?_
        exact k
      have hc29 : (255 : Int32) < k1 := h5
      refine OwnGo.of (B := T28.setTop (mkF m 56 #[.val (.ref a0), .val (.int (0 : Int32)), .val (.int (2 : Int32)), .val (.ref b1), .val (.int (1 : Int32)), .val (.ref y18)] [(.ref y18)])) (fun t k => ?_) ?_
      · show Steps p.tables e below (T28.setTop (mkF m 38 #[.val (.ref a0), .val (.int (0 : Int32)), .val (.int (2 : Int32)), .val (.ref b1), .val (.int (1 : Int32)), .val (.ref y18)] [(.int (255 : Int32)), (.int k1)])) t
        refine XS.icmpYes X28.here hx rfl (pc0 := 38) (pc' := 54) rfl (hb hby d8_38) rfl (tlt hc29).2.2.1 (by decide) (by decide) ?_
        refine XS.aload X28.here hx rfl (hb hby d8_54) rfl rfl ?_
        exact k
      obtain ⟨fs, hr, hrun, hended, hW, hsame⟩ := X28.leave (v := some (.ref y18)) (fun h => by rw [Bd.returns] at h; cases h) hlk
      refine ⟨_, _, ?_, hrun, hended, _, _, rfl, ?_, ⟨_, rfl⟩, hW, hsame.mono (by decide) (by decide)⟩
      · show Steps p.tables e below (T28.setTop (mkF m 56 #[.val (.ref a0), .val (.int (0 : Int32)), .val (.int (2 : Int32)), .val (.ref b1), .val (.int (1 : Int32)), .val (.ref y18)] [(.ref y18)])) _
        exact own_retA X28 hx Bd.returns rfl rfl rfl (hb hby d8_56) hr
      · show Qrm8_2 Z a0 k0 k1 kc h0 n0 _ (T28.setFrames fs).heap _
        rw [show (T28.setFrames fs).heap = T18.heap from eq28]
        exact ⟨N28, f20, y18, _, _, rfl, sz_y18, Or.inr ⟨f25, Or.inr ⟨rfl, rfl, rfl, k1, List.mem_of_getElem? (i := 1) rfl, h5⟩⟩⟩
theorem ef_rm8_3 (m : MethodId) (a0 : Addr) : entryFrame m #[(.ref a0), (.int (0 : Int32)), (.int (3 : Int32))] 6 = mkF m 0 #[.val (.ref a0), .val (.int (0 : Int32)), .val (.int (3 : Int32)), .unset, .unset, .unset] [] := by first | (simp [entryFrame, mkF, argsToLocals, Value.category]; done) | rfl
def Qrm8_3 (Z : State) (a0 : Addr) (k0 : Int32) (k1 : Int32) (k2 : Int32) (kc : ClassId) (h0 : Heap) (n0 : Nat) (v : Option Value) (h : Heap) (L : List Loc) : Prop := Fr n0 L ∧ Keep h0 h [] ∧ ∃ (y : Addr) (k : ClassId) (vs : List Value), v = some (.ref y) ∧ h0.size ≤ y ∧ ((Arv Z h y k .byte (3 : Int32) vs (.int (0 : Int32)) ∧ StrChars.Road.CodA ([k0, k1, k2] : List Int32) 0 (3 : Int32) vs) ∨ (Arv Z h y k .byte (6 : Int32) vs (.int (0 : Int32)) ∧ StrChars.Road.CodA ([k0, k1, k2] : List Int32) 1 (6 : Int32) vs))
set_option maxRecDepth 65536 in
set_option maxHeartbeats 40000000 in
theorem rm8_3 (l : Launch) (Z : State) (aw : Array Value) (hw : ∀ d ∈ tables_1, d.before aw Z = true) (ws : List Jvm.Cond) (a0 : Addr) (k0 : Int32) (k1 : Int32) (k2 : Int32) (kc : ClassId) (h0 : Heap) (n0 : Nat) (Z0 : n0 ≤ h0.size) (V_a : Arv Z h0 a0 kc .char (3 : Int32) [(.int k0), (.int k1), (.int k2)] (.int (0 : Int32))) (S__assertionsDisabled : Sta Z h0 "java/lang/StringUTF16" "$assertionsDisabled" "Z" (.int (1 : Int32))) (S_HI_BYTE_SHIFT : Sta Z h0 "java/lang/StringUTF16" "HI_BYTE_SHIFT" "I" (.int (0 : Int32))) (S_LO_BYTE_SHIFT : Sta Z h0 "java/lang/StringUTF16" "LO_BYTE_SHIFT" "I" (.int (8 : Int32))) (hc0 : OwnC16 k0) (hc1 : OwnC16 k1) (hc2 : OwnC16 k2) :
    MetFree l (⟨"java/lang/StringUTF16", "compress", "([CII)[B"⟩ : MethodName) (head1 (Jvm.Cond.code (⟨"java/lang/StringUTF16", "compress", "([CII)[B"⟩ : MethodName) jdk_52_method_16_code 6 (some (.array .byte)) :: ws) ({ frames := 3, cells := 2, slots := 12, locals := 40 } : Room)) (fun a U => a = #[(.ref a0), (.int (0 : Int32)), (.int (3 : Int32))] ∧ Z.Warmed39 U.vm ∧ U.heap = h0) (fun _ _ _ _ _ => True) (fun _ U o U' => ∃ v L, o = .returned v ∧ Qrm8_3 Z a0 k0 k1 k2 kc h0 n0 v U'.heap L ∧ FrameEnd U o U' L ({ frames := 3, cells := 2, slots := 12, locals := 40 } : Room).cells ({ frames := 3, cells := 2, slots := 12, locals := 40 } : Room).slots) := by
  refine MetFree.of_bodySF (plainFor_of_name pn_60) hisR ?_
  intro p e s m args below meth c s₁ Bd hml0 hP hK
  obtain ⟨rfl, hZ, hh⟩ := hP
  have hx := Bd.exec
  have hby := Bd.bytes
  have hml : c.maxLocals = 6 := hml0
  have hown : s.vm.findClass "java/lang/StringUTF16" = some m.cls := findClass_of_methodNamed Bd.named
  have hnm := (name_of_methodNamed Bd.named Bd.method).1
  have X0 : Stand p l e ({ frames := 3, cells := 2, slots := 12, locals := 40 } : Room) s m #[(.ref a0), (.int (0 : Int32)), (.int (3 : Int32))] below meth c s₁ [] 0 0 := Stand.of_body Bd
  have e0 : s₁.heap = h0 := by rw [← hh, Bd.state]; rfl
  have N0 := Fr.nil n0
  have hlk := Bd.notSynchronized
  show OwnGo p.tables e below _ (s₁.setTop (entryFrame m #[(.ref a0), (.int (0 : Int32)), (.int (3 : Int32))] 6))
  rw [ef_rm8_3 m a0]
  have K0 : Keep h0 h0 [] := Keep.refl _ _
  show OwnGo p.tables e below _ (s₁.setTop (mkF m 0 #[.val (.ref a0), .val (.int (0 : Int32)), .val (.int (3 : Int32)), .unset, .unset, .unset] []))
  refine OwnGo.of (B := s₁.setTop (mkF m 1 #[.val (.ref a0), .val (.int (0 : Int32)), .val (.int (3 : Int32)), .unset, .unset, .unset] [(.int (3 : Int32))])) (fun t k => ?_) ?_
  · show Steps p.tables e below (s₁.setTop (mkF m 0 #[.val (.ref a0), .val (.int (0 : Int32)), .val (.int (3 : Int32)), .unset, .unset, .unset] [])) t
    refine XS.iloadN X0.here hx rfl (hb hby d8_0) rfl ?_
    exact k
  obtain ⟨T1, h1, kq1, X1, e1, E1, A1, st1⟩ := newP (aty := .byte) X0 hx hZ (w20 hw) e0 (g := (mkF m 1 #[.val (.ref a0), .val (.int (0 : Int32)), .val (.int (3 : Int32)), .unset, .unset, .unset] [(.int (3 : Int32))])) rfl (hb hby d8_1) rfl (by decide) (cap := 3) (by decide) (by decide) (by decide) (by decide)
  obtain ⟨b1, g1⟩ : ∃ z, z = h0.size := ⟨_, rfl⟩
  rw [← g1] at A1 st1
  refine OwnGo.of st1 ?_
  have ne_a0_b1 : a0 ≠ b1 := Nat.ne_of_lt (Nat.lt_of_lt_of_le V_a.lt (Nat.le_of_eq g1.symm))
  have g_b1 : n0 ≤ b1 := Nat.le_trans Z0 (Nat.le_of_eq g1.symm)
  have sz_b1 : h0.size ≤ b1 := Nat.le_trans K0.1 (Nat.le_of_eq g1.symm)
  have f2 := Nat.le_trans Z0 E1.1
  have f3 := K0.ext E1
  have f4 := S__assertionsDisabled.ext E1
  have f5 := S_HI_BYTE_SHIFT.ext E1
  have f6 := S_LO_BYTE_SHIFT.ext E1
  have f7 := V_a.ext E1
  have f8 : Arv Z h1 b1 kq1 .byte (3 : Int32) [(.int (0 : Int32)), (.int (0 : Int32)), (.int (0 : Int32))] (.int (0 : Int32)) := (Arv.new A1 (by decide)).pad (pad_rep [] (.int (0 : Int32)) 3)
  show OwnGo p.tables e below _ (T1.setTop (mkF m 3 #[.val (.ref a0), .val (.int (0 : Int32)), .val (.int (3 : Int32)), .unset, .unset, .unset] [(.ref b1)]))
  refine OwnGo.of (B := T1.setTop (mkF m 9 #[.val (.ref a0), .val (.int (0 : Int32)), .val (.int (3 : Int32)), .val (.ref b1), .unset, .unset] [(.int (3 : Int32)), (.int (0 : Int32)), (.ref b1), (.int (0 : Int32)), (.ref a0)])) (fun t k => ?_) ?_
  · show Steps p.tables e below (T1.setTop (mkF m 3 #[.val (.ref a0), .val (.int (0 : Int32)), .val (.int (3 : Int32)), .unset, .unset, .unset] [(.ref b1)])) t
    refine XS.astoreN X1.here hx rfl (hb hby d8_3) rfl rfl (l' := #[.val (.ref a0), .val (.int (0 : Int32)), .val (.int (3 : Int32)), .val (.ref b1), .unset, .unset]) rfl ?_
    refine XS.aloadN X1.here hx rfl (hb hby d8_4) rfl rfl ?_
    refine XS.iloadN X1.here hx rfl (hb hby d8_5) rfl ?_
    refine XS.aloadN X1.here hx rfl (hb hby d8_6) rfl rfl ?_
    refine XS.iconst X1.here hx rfl (hb hby d8_7) ?_
    refine XS.iloadN X1.here hx rfl (hb hby d8_8) rfl ?_
    exact k
  obtain ⟨T9, L9, v9, X9, hQ9, st9⟩ := own_callS X1 hx (y := (⟨"java/lang/StringUTF16", "compress", "([CI[BII)I"⟩ : MethodName)) hown (mvT hZ (w44 hw)) (mvT hZ (w45 hw)) (mvT hZ (w42 hw)) (mvT hZ (w46 hw)) (by decide) (backOf (W := 0) (rm9_3 l Z aw hw [] a0 b1 k0 k1 k2 kc kq1 h1 n0 f2 f7 f8 g_b1 ne_a0_b1) hZ (w46 hw) (w42 hw) (by decide) (by decide)) (g := (mkF m 9 #[.val (.ref a0), .val (.int (0 : Int32)), .val (.int (3 : Int32)), .val (.ref b1), .unset, .unset] [(.int (3 : Int32)), (.int (0 : Int32)), (.ref b1), (.int (0 : Int32)), (.ref a0)])) rfl (by rw [hml]; rfl) (argsL := [(.ref a0), (.int (0 : Int32)), (.ref b1), (.int (0 : Int32)), (.int (3 : Int32))]) (rest := []) (lenOf pd_100 rfl) rfl (by show 2 * 0 + _ ≤ _; exact Nat.le_of_eq rfl) (hb hby d8_9) rfl e1 (by decide) (by decide)
  obtain ⟨N9q, K9, dj9⟩ := hQ9
  have f10 := Nat.le_trans f2 K9.1
  have f11 := f3.trans K9 (allS (Or.inr sz_b1) all0)
  have f12 := own_sta_keep f4 K9 (allS (own_ns_arv f8) all0)
  have f13 := own_sta_keep f5 K9 (allS (own_ns_arv f8) all0)
  have f14 := own_sta_keep f6 K9 (allS (own_ns_arv f8) all0)
  have f15 := f7.keep K9 (ninS ne_a0_b1 nin0)
  have N9 := Fr.app N0 N9q
  rcases dj9 with ⟨rfl, h8, fb⟩ | ⟨iv, rfl, dj⟩
  · refine OwnGo.of st9 ?_
    show OwnGo p.tables e below _ (T9.setTop (mkF m 12 #[.val (.ref a0), .val (.int (0 : Int32)), .val (.int (3 : Int32)), .val (.ref b1), .unset, .unset] [(.int (3 : Int32))]))
    refine OwnGo.of (B := T9.setTop (mkF m 17 #[.val (.ref a0), .val (.int (0 : Int32)), .val (.int (3 : Int32)), .val (.ref b1), .val (.int (3 : Int32)), .unset] [(.int (3 : Int32)), (.int (3 : Int32))])) (fun t k => ?_) ?_
    · show Steps p.tables e below (T9.setTop (mkF m 12 #[.val (.ref a0), .val (.int (0 : Int32)), .val (.int (3 : Int32)), .val (.ref b1), .unset, .unset] [(.int (3 : Int32))])) t
      refine XS.istore X9.here hx rfl (hb hby d8_12) rfl (l' := #[.val (.ref a0), .val (.int (0 : Int32)), .val (.int (3 : Int32)), .val (.ref b1), .val (.int (3 : Int32)), .unset]) rfl ?_
      refine XS.iload X9.here hx rfl (hb hby d8_14) rfl ?_
      refine XS.iloadN X9.here hx rfl (hb hby d8_16) rfl ?_
      exact k
    have hc16 : (3 : Int32) = (3 : Int32) := by decide
    refine OwnGo.of (B := T9.setTop (mkF m 58 #[.val (.ref a0), .val (.int (0 : Int32)), .val (.int (3 : Int32)), .val (.ref b1), .val (.int (3 : Int32)), .unset] [(.ref b1)])) (fun t k => ?_) ?_
    · show Steps p.tables e below (T9.setTop (mkF m 17 #[.val (.ref a0), .val (.int (0 : Int32)), .val (.int (3 : Int32)), .val (.ref b1), .val (.int (3 : Int32)), .unset] [(.int (3 : Int32)), (.int (3 : Int32))])) t
      refine XS.icmpYes X9.here hx rfl (pc0 := 17) (pc' := 57) rfl (hb hby d8_17) rfl (teq hc16).1 (by decide) (by decide) ?_
      refine XS.aloadN X9.here hx rfl (hb hby d8_57) rfl rfl ?_
      exact k
    obtain ⟨fs, hr, hrun, hended, hW, hsame⟩ := X9.leave (v := some (.ref b1)) (fun h => by rw [Bd.returns] at h; cases h) hlk
    refine ⟨_, _, ?_, hrun, hended, _, _, rfl, ?_, ⟨_, rfl⟩, hW, hsame.mono (by decide) (by decide)⟩
    · show Steps p.tables e below (T9.setTop (mkF m 58 #[.val (.ref a0), .val (.int (0 : Int32)), .val (.int (3 : Int32)), .val (.ref b1), .val (.int (3 : Int32)), .unset] [(.ref b1)])) _
      exact own_retA X9 hx Bd.returns rfl rfl rfl (hb hby d8_58) hr
    · show Qrm8_3 Z a0 k0 k1 k2 kc h0 n0 _ (T9.setFrames fs).heap _
      rw [show (T9.setFrames fs).heap = T9.heap from rfl]
      exact ⟨N9, f11, b1, _, _, rfl, sz_b1, Or.inl ⟨fb, Or.inl ⟨rfl, rfl, rfl, h8⟩⟩⟩
  · refine OwnGo.of st9 ?_
    show OwnGo p.tables e below _ (T9.setTop (mkF m 12 #[.val (.ref a0), .val (.int (0 : Int32)), .val (.int (3 : Int32)), .val (.ref b1), .unset, .unset] [(.int iv)]))
    refine OwnGo.of (B := T9.setTop (mkF m 17 #[.val (.ref a0), .val (.int (0 : Int32)), .val (.int (3 : Int32)), .val (.ref b1), .val (.int iv), .unset] [(.int (3 : Int32)), (.int iv)])) (fun t k => ?_) ?_
    · show Steps p.tables e below (T9.setTop (mkF m 12 #[.val (.ref a0), .val (.int (0 : Int32)), .val (.int (3 : Int32)), .val (.ref b1), .unset, .unset] [(.int iv)])) t
      refine XS.istore X9.here hx rfl (hb hby d8_12) rfl (l' := #[.val (.ref a0), .val (.int (0 : Int32)), .val (.int (3 : Int32)), .val (.ref b1), .val (.int iv), .unset]) rfl ?_
      refine XS.iload X9.here hx rfl (hb hby d8_14) rfl ?_
      refine XS.iloadN X9.here hx rfl (hb hby d8_16) rfl ?_
      exact k
    have hc17 : ¬ (iv = (3 : Int32)) := by rcases dj with ⟨rfl, -⟩ | ⟨rfl, -⟩ | ⟨rfl, -⟩ <;> decide
    refine OwnGo.of (B := T9.setTop (mkF m 23 #[.val (.ref a0), .val (.int (0 : Int32)), .val (.int (3 : Int32)), .val (.ref b1), .val (.int iv), .unset] [(.int (3 : Int32)), (.int (0 : Int32)), (.ref a0)])) (fun t k => ?_) ?_
    · show Steps p.tables e below (T9.setTop (mkF m 17 #[.val (.ref a0), .val (.int (0 : Int32)), .val (.int (3 : Int32)), .val (.ref b1), .val (.int iv), .unset] [(.int (3 : Int32)), (.int iv)])) t
      refine XS.icmpNo X9.here hx rfl (hb hby d8_17) rfl (feq hc17).1 ?_
      refine XS.aloadN X9.here hx rfl (hb hby d8_20) rfl rfl ?_
      refine XS.iloadN X9.here hx rfl (hb hby d8_21) rfl ?_
      refine XS.iloadN X9.here hx rfl (hb hby d8_22) rfl ?_
      exact k
    obtain ⟨T18, L18, v18, X18, hQ18, st18⟩ := own_callS X9 hx (y := (⟨"java/lang/StringUTF16", "toBytes", "([CII)[B"⟩ : MethodName)) hown (mvT hZ (w113 hw)) (mvT hZ (w114 hw)) (mvT hZ (w42 hw)) (mvT hZ (w115 hw)) (by decide) (backOf (W := 0) (rm26_3 l Z aw hw [] a0 k0 k1 k2 kc T9.heap n0 f10 f15 f12 f13 f14) hZ (w115 hw) (w42 hw) (by decide) (by decide)) (g := (mkF m 23 #[.val (.ref a0), .val (.int (0 : Int32)), .val (.int (3 : Int32)), .val (.ref b1), .val (.int iv), .unset] [(.int (3 : Int32)), (.int (0 : Int32)), (.ref a0)])) rfl (by rw [hml]; rfl) (argsL := [(.ref a0), (.int (0 : Int32)), (.int (3 : Int32))]) (rest := []) (lenOf pd_104 rfl) rfl (by show 2 * 0 + _ ≤ _; exact Nat.le_of_eq rfl) (hb hby d8_23) rfl rfl (by decide) (by decide)
    obtain ⟨N18q, K18, y18, kq18, rfl, A18, gy18⟩ := hQ18
    have ne_a0_y18 : a0 ≠ y18 := Nat.ne_of_lt (Nat.lt_of_lt_of_le f15.lt gy18)
    have g_y18 : n0 ≤ y18 := Nat.le_trans f10 gy18
    have sz_y18 : h0.size ≤ y18 := Nat.le_trans f11.1 gy18
    have f19 := Nat.le_trans f10 K18.1
    have f20 := f11.trans K18 all0
    have f21 := own_sta_keep f12 K18 all0
    have f22 := own_sta_keep f13 K18 all0
    have f23 := own_sta_keep f14 K18 all0
    have f24 := f15.keep K18 nin0
    have f25 : Arv Z T18.heap y18 kq18 .byte (6 : Int32) [(.int (StrChars.lo8 k0)), (.int (StrChars.hi8 k0)), (.int (StrChars.lo8 k1)), (.int (StrChars.hi8 k1)), (.int (StrChars.lo8 k2)), (.int (StrChars.hi8 k2))] (.int (0 : Int32)) := A18
    have N18 := Fr.app N9 N18q
    refine OwnGo.of st18 ?_
    show OwnGo p.tables e below _ (T18.setTop (mkF m 26 #[.val (.ref a0), .val (.int (0 : Int32)), .val (.int (3 : Int32)), .val (.ref b1), .val (.int iv), .unset] [(.ref y18)]))
    refine OwnGo.of (B := T18.setTop (mkF m 28 #[.val (.ref a0), .val (.int (0 : Int32)), .val (.int (3 : Int32)), .val (.ref b1), .val (.int iv), .val (.ref y18)] [])) (fun t k => ?_) ?_
    · show Steps p.tables e below (T18.setTop (mkF m 26 #[.val (.ref a0), .val (.int (0 : Int32)), .val (.int (3 : Int32)), .val (.ref b1), .val (.int iv), .unset] [(.ref y18)])) t
      refine XS.astore X18.here hx rfl (hb hby d8_26) rfl rfl (l' := #[.val (.ref a0), .val (.int (0 : Int32)), .val (.int (3 : Int32)), .val (.ref b1), .val (.int iv), .val (.ref y18)]) rfl ?_
      exact k
    rcases dj with ⟨rfl, h5⟩ | ⟨rfl, h5⟩ | ⟨rfl, h5⟩
    · show OwnGo p.tables e below _ (T18.setTop (mkF m 28 #[.val (.ref a0), .val (.int (0 : Int32)), .val (.int (3 : Int32)), .val (.ref b1), .val (.int (0 : Int32)), .val (.ref y18)] []))
      refine OwnGo.of (B := T18.setTop (mkF m 32 #[.val (.ref a0), .val (.int (0 : Int32)), .val (.int (3 : Int32)), .val (.ref b1), .val (.int (0 : Int32)), .val (.ref y18)] [(.int (0 : Int32)), (.ref y18)])) (fun t k => ?_) ?_
      · show Steps p.tables e below (T18.setTop (mkF m 28 #[.val (.ref a0), .val (.int (0 : Int32)), .val (.int (3 : Int32)), .val (.ref b1), .val (.int (0 : Int32)), .val (.ref y18)] [])) t
        refine XS.aload X18.here hx rfl (hb hby d8_28) rfl rfl ?_
        refine XS.iload X18.here hx rfl (hb hby d8_30) rfl ?_
        exact k
      obtain ⟨T26, L26, v26, X26, hQ26, st26⟩ := own_callS X18 hx (y := (⟨"java/lang/StringUTF16", "getChar", "([BI)C"⟩ : MethodName)) hown (mvT hZ (w129 hw)) (mvT hZ (w130 hw)) (mvT hZ (w42 hw)) (mvT hZ (w131 hw)) (by decide) (backOf (W := 0) (rm30 l Z aw hw [] y18 (0 : Int32) kq18 (6 : Int32) ([(.int (StrChars.lo8 k0)), (.int (StrChars.hi8 k0)), (.int (StrChars.lo8 k1)), (.int (StrChars.hi8 k1)), (.int (StrChars.lo8 k2)), (.int (StrChars.hi8 k2))] : List Value) k0 T18.heap n0 f19 f25 f21 f22 f23 (by decide) (by decide) rfl rfl hc0) hZ (w131 hw) (w42 hw) (by decide) (by decide)) (g := (mkF m 32 #[.val (.ref a0), .val (.int (0 : Int32)), .val (.int (3 : Int32)), .val (.ref b1), .val (.int (0 : Int32)), .val (.ref y18)] [(.int (0 : Int32)), (.ref y18)])) rfl (by rw [hml]; rfl) (argsL := [(.ref y18), (.int (0 : Int32))]) (rest := []) (lenOf pd_76 rfl) rfl (by show 2 * 0 + _ ≤ _; exact Nat.le_of_eq rfl) (hb hby d8_32) rfl rfl (by decide) (by decide)
      obtain ⟨rfl, N26q, eq26⟩ := hQ26
      have N26 := Fr.app N18 N26q
      refine OwnGo.of st26 ?_
      show OwnGo p.tables e below _ (T26.setTop (mkF m 35 #[.val (.ref a0), .val (.int (0 : Int32)), .val (.int (3 : Int32)), .val (.ref b1), .val (.int (0 : Int32)), .val (.ref y18)] [(.int k0)]))
      refine OwnGo.of (B := T26.setTop (mkF m 38 #[.val (.ref a0), .val (.int (0 : Int32)), .val (.int (3 : Int32)), .val (.ref b1), .val (.int (0 : Int32)), .val (.ref y18)] [(.int (255 : Int32)), (.int k0)])) (fun t k => ?_) ?_
      · show Steps p.tables e below (T26.setTop (mkF m 35 #[.val (.ref a0), .val (.int (0 : Int32)), .val (.int (3 : Int32)), .val (.ref b1), .val (.int (0 : Int32)), .val (.ref y18)] [(.int k0)])) t
        refine XS.sipush X26.here hx rfl (hb hby d8_35) ?_
        exact k
      have hc27 : (255 : Int32) < k0 := h5
      refine OwnGo.of (B := T26.setTop (mkF m 56 #[.val (.ref a0), .val (.int (0 : Int32)), .val (.int (3 : Int32)), .val (.ref b1), .val (.int (0 : Int32)), .val (.ref y18)] [(.ref y18)])) (fun t k => ?_) ?_
      · show Steps p.tables e below (T26.setTop (mkF m 38 #[.val (.ref a0), .val (.int (0 : Int32)), .val (.int (3 : Int32)), .val (.ref b1), .val (.int (0 : Int32)), .val (.ref y18)] [(.int (255 : Int32)), (.int k0)])) t
        refine XS.icmpYes X26.here hx rfl (pc0 := 38) (pc' := 54) rfl (hb hby d8_38) rfl (tlt hc27).2.2.1 (by decide) (by decide) ?_
        refine XS.aload X26.here hx rfl (hb hby d8_54) rfl rfl ?_
        exact k
      obtain ⟨fs, hr, hrun, hended, hW, hsame⟩ := X26.leave (v := some (.ref y18)) (fun h => by rw [Bd.returns] at h; cases h) hlk
      refine ⟨_, _, ?_, hrun, hended, _, _, rfl, ?_, ⟨_, rfl⟩, hW, hsame.mono (by decide) (by decide)⟩
      · show Steps p.tables e below (T26.setTop (mkF m 56 #[.val (.ref a0), .val (.int (0 : Int32)), .val (.int (3 : Int32)), .val (.ref b1), .val (.int (0 : Int32)), .val (.ref y18)] [(.ref y18)])) _
        exact own_retA X26 hx Bd.returns rfl rfl rfl (hb hby d8_56) hr
      · show Qrm8_3 Z a0 k0 k1 k2 kc h0 n0 _ (T26.setFrames fs).heap _
        rw [show (T26.setFrames fs).heap = T18.heap from eq26]
        exact ⟨N26, f20, y18, _, _, rfl, sz_y18, Or.inr ⟨f25, Or.inr ⟨rfl, rfl, rfl, k0, List.mem_of_getElem? (i := 0) rfl, h5⟩⟩⟩
    · show OwnGo p.tables e below _ (T18.setTop (mkF m 28 #[.val (.ref a0), .val (.int (0 : Int32)), .val (.int (3 : Int32)), .val (.ref b1), .val (.int (1 : Int32)), .val (.ref y18)] []))
      refine OwnGo.of (B := T18.setTop (mkF m 32 #[.val (.ref a0), .val (.int (0 : Int32)), .val (.int (3 : Int32)), .val (.ref b1), .val (.int (1 : Int32)), .val (.ref y18)] [(.int (1 : Int32)), (.ref y18)])) (fun t k => ?_) ?_
      · show Steps p.tables e below (T18.setTop (mkF m 28 #[.val (.ref a0), .val (.int (0 : Int32)), .val (.int (3 : Int32)), .val (.ref b1), .val (.int (1 : Int32)), .val (.ref y18)] [])) t
        refine XS.aload X18.here hx rfl (hb hby d8_28) rfl rfl ?_
        refine XS.iload X18.here hx rfl (hb hby d8_30) rfl ?_
        exact k
      obtain ⟨T28, L28, v28, X28, hQ28, st28⟩ := own_callS X18 hx (y := (⟨"java/lang/StringUTF16", "getChar", "([BI)C"⟩ : MethodName)) hown (mvT hZ (w129 hw)) (mvT hZ (w130 hw)) (mvT hZ (w42 hw)) (mvT hZ (w131 hw)) (by decide) (backOf (W := 0) (rm30 l Z aw hw [] y18 (1 : Int32) kq18 (6 : Int32) ([(.int (StrChars.lo8 k0)), (.int (StrChars.hi8 k0)), (.int (StrChars.lo8 k1)), (.int (StrChars.hi8 k1)), (.int (StrChars.lo8 k2)), (.int (StrChars.hi8 k2))] : List Value) k1 T18.heap n0 f19 f25 f21 f22 f23 (by decide) (by decide) rfl rfl hc1) hZ (w131 hw) (w42 hw) (by decide) (by decide)) (g := (mkF m 32 #[.val (.ref a0), .val (.int (0 : Int32)), .val (.int (3 : Int32)), .val (.ref b1), .val (.int (1 : Int32)), .val (.ref y18)] [(.int (1 : Int32)), (.ref y18)])) rfl (by rw [hml]; rfl) (argsL := [(.ref y18), (.int (1 : Int32))]) (rest := []) (lenOf pd_76 rfl) rfl (by show 2 * 0 + _ ≤ _; exact Nat.le_of_eq rfl) (hb hby d8_32) rfl rfl (by decide) (by decide)
      obtain ⟨rfl, N28q, eq28⟩ := hQ28
      have N28 := Fr.app N18 N28q
      refine OwnGo.of st28 ?_
      show OwnGo p.tables e below _ (T28.setTop (mkF m 35 #[.val (.ref a0), .val (.int (0 : Int32)), .val (.int (3 : Int32)), .val (.ref b1), .val (.int (1 : Int32)), .val (.ref y18)] [(.int k1)]))
      refine OwnGo.of (B := T28.setTop (mkF m 38 #[.val (.ref a0), .val (.int (0 : Int32)), .val (.int (3 : Int32)), .val (.ref b1), .val (.int (1 : Int32)), .val (.ref y18)] [(.int (255 : Int32)), (.int k1)])) (fun t k => ?_) ?_
      · show Steps p.tables e below (T28.setTop (mkF m 35 #[.val (.ref a0), .val (.int (0 : Int32)), .val (.int (3 : Int32)), .val (.ref b1), .val (.int (1 : Int32)), .val (.ref y18)] [(.int k1)])) t
        refine XS.sipush X28.here hx rfl (hb hby d8_35) ?_
        exact k
      have hc29 : (255 : Int32) < k1 := h5
      refine OwnGo.of (B := T28.setTop (mkF m 56 #[.val (.ref a0), .val (.int (0 : Int32)), .val (.int (3 : Int32)), .val (.ref b1), .val (.int (1 : Int32)), .val (.ref y18)] [(.ref y18)])) (fun t k => ?_) ?_
      · show Steps p.tables e below (T28.setTop (mkF m 38 #[.val (.ref a0), .val (.int (0 : Int32)), .val (.int (3 : Int32)), .val (.ref b1), .val (.int (1 : Int32)), .val (.ref y18)] [(.int (255 : Int32)), (.int k1)])) t
        refine XS.icmpYes X28.here hx rfl (pc0 := 38) (pc' := 54) rfl (hb hby d8_38) rfl (tlt hc29).2.2.1 (by decide) (by decide) ?_
        refine XS.aload X28.here hx rfl (hb hby d8_54) rfl rfl ?_
        exact k
      obtain ⟨fs, hr, hrun, hended, hW, hsame⟩ := X28.leave (v := some (.ref y18)) (fun h => by rw [Bd.returns] at h; cases h) hlk
      refine ⟨_, _, ?_, hrun, hended, _, _, rfl, ?_, ⟨_, rfl⟩, hW, hsame.mono (by decide) (by decide)⟩
      · show Steps p.tables e below (T28.setTop (mkF m 56 #[.val (.ref a0), .val (.int (0 : Int32)), .val (.int (3 : Int32)), .val (.ref b1), .val (.int (1 : Int32)), .val (.ref y18)] [(.ref y18)])) _
        exact own_retA X28 hx Bd.returns rfl rfl rfl (hb hby d8_56) hr
      · show Qrm8_3 Z a0 k0 k1 k2 kc h0 n0 _ (T28.setFrames fs).heap _
        rw [show (T28.setFrames fs).heap = T18.heap from eq28]
        exact ⟨N28, f20, y18, _, _, rfl, sz_y18, Or.inr ⟨f25, Or.inr ⟨rfl, rfl, rfl, k1, List.mem_of_getElem? (i := 1) rfl, h5⟩⟩⟩
    · show OwnGo p.tables e below _ (T18.setTop (mkF m 28 #[.val (.ref a0), .val (.int (0 : Int32)), .val (.int (3 : Int32)), .val (.ref b1), .val (.int (2 : Int32)), .val (.ref y18)] []))
      refine OwnGo.of (B := T18.setTop (mkF m 32 #[.val (.ref a0), .val (.int (0 : Int32)), .val (.int (3 : Int32)), .val (.ref b1), .val (.int (2 : Int32)), .val (.ref y18)] [(.int (2 : Int32)), (.ref y18)])) (fun t k => ?_) ?_
      · show Steps p.tables e below (T18.setTop (mkF m 28 #[.val (.ref a0), .val (.int (0 : Int32)), .val (.int (3 : Int32)), .val (.ref b1), .val (.int (2 : Int32)), .val (.ref y18)] [])) t
        refine XS.aload X18.here hx rfl (hb hby d8_28) rfl rfl ?_
        refine XS.iload X18.here hx rfl (hb hby d8_30) rfl ?_
        exact k
      obtain ⟨T30, L30, v30, X30, hQ30, st30⟩ := own_callS X18 hx (y := (⟨"java/lang/StringUTF16", "getChar", "([BI)C"⟩ : MethodName)) hown (mvT hZ (w129 hw)) (mvT hZ (w130 hw)) (mvT hZ (w42 hw)) (mvT hZ (w131 hw)) (by decide) (backOf (W := 0) (rm30 l Z aw hw [] y18 (2 : Int32) kq18 (6 : Int32) ([(.int (StrChars.lo8 k0)), (.int (StrChars.hi8 k0)), (.int (StrChars.lo8 k1)), (.int (StrChars.hi8 k1)), (.int (StrChars.lo8 k2)), (.int (StrChars.hi8 k2))] : List Value) k2 T18.heap n0 f19 f25 f21 f22 f23 (by decide) (by decide) rfl rfl hc2) hZ (w131 hw) (w42 hw) (by decide) (by decide)) (g := (mkF m 32 #[.val (.ref a0), .val (.int (0 : Int32)), .val (.int (3 : Int32)), .val (.ref b1), .val (.int (2 : Int32)), .val (.ref y18)] [(.int (2 : Int32)), (.ref y18)])) rfl (by rw [hml]; rfl) (argsL := [(.ref y18), (.int (2 : Int32))]) (rest := []) (lenOf pd_76 rfl) rfl (by show 2 * 0 + _ ≤ _; exact Nat.le_of_eq rfl) (hb hby d8_32) rfl rfl (by decide) (by decide)
      obtain ⟨rfl, N30q, eq30⟩ := hQ30
      have N30 := Fr.app N18 N30q
      refine OwnGo.of st30 ?_
      show OwnGo p.tables e below _ (T30.setTop (mkF m 35 #[.val (.ref a0), .val (.int (0 : Int32)), .val (.int (3 : Int32)), .val (.ref b1), .val (.int (2 : Int32)), .val (.ref y18)] [(.int k2)]))
      refine OwnGo.of (B := T30.setTop (mkF m 38 #[.val (.ref a0), .val (.int (0 : Int32)), .val (.int (3 : Int32)), .val (.ref b1), .val (.int (2 : Int32)), .val (.ref y18)] [(.int (255 : Int32)), (.int k2)])) (fun t k => ?_) ?_
      · show Steps p.tables e below (T30.setTop (mkF m 35 #[.val (.ref a0), .val (.int (0 : Int32)), .val (.int (3 : Int32)), .val (.ref b1), .val (.int (2 : Int32)), .val (.ref y18)] [(.int k2)])) t
        refine XS.sipush X30.here hx rfl (hb hby d8_35) ?_
        exact k
      have hc31 : (255 : Int32) < k2 := h5
      refine OwnGo.of (B := T30.setTop (mkF m 56 #[.val (.ref a0), .val (.int (0 : Int32)), .val (.int (3 : Int32)), .val (.ref b1), .val (.int (2 : Int32)), .val (.ref y18)] [(.ref y18)])) (fun t k => ?_) ?_
      · show Steps p.tables e below (T30.setTop (mkF m 38 #[.val (.ref a0), .val (.int (0 : Int32)), .val (.int (3 : Int32)), .val (.ref b1), .val (.int (2 : Int32)), .val (.ref y18)] [(.int (255 : Int32)), (.int k2)])) t
        refine XS.icmpYes X30.here hx rfl (pc0 := 38) (pc' := 54) rfl (hb hby d8_38) rfl (tlt hc31).2.2.1 (by decide) (by decide) ?_
        refine XS.aload X30.here hx rfl (hb hby d8_54) rfl rfl ?_
        exact k
      obtain ⟨fs, hr, hrun, hended, hW, hsame⟩ := X30.leave (v := some (.ref y18)) (fun h => by rw [Bd.returns] at h; cases h) hlk
      refine ⟨_, _, ?_, hrun, hended, _, _, rfl, ?_, ⟨_, rfl⟩, hW, hsame.mono (by decide) (by decide)⟩
      · show Steps p.tables e below (T30.setTop (mkF m 56 #[.val (.ref a0), .val (.int (0 : Int32)), .val (.int (3 : Int32)), .val (.ref b1), .val (.int (2 : Int32)), .val (.ref y18)] [(.ref y18)])) _
        exact own_retA X30 hx Bd.returns rfl rfl rfl (hb hby d8_56) hr
      · show Qrm8_3 Z a0 k0 k1 k2 kc h0 n0 _ (T30.setFrames fs).heap _
        rw [show (T30.setFrames fs).heap = T18.heap from eq30]
        exact ⟨N30, f20, y18, _, _, rfl, sz_y18, Or.inr ⟨f25, Or.inr ⟨rfl, rfl, rfl, k2, List.mem_of_getElem? (i := 2) rfl, h5⟩⟩⟩
theorem ef_rm8_4 (m : MethodId) (a0 : Addr) : entryFrame m #[(.ref a0), (.int (0 : Int32)), (.int (4 : Int32))] 6 = mkF m 0 #[.val (.ref a0), .val (.int (0 : Int32)), .val (.int (4 : Int32)), .unset, .unset, .unset] [] := by first | (simp [entryFrame, mkF, argsToLocals, Value.category]; done) | rfl
def Qrm8_4 (Z : State) (a0 : Addr) (k0 : Int32) (k1 : Int32) (k2 : Int32) (k3 : Int32) (kc : ClassId) (h0 : Heap) (n0 : Nat) (v : Option Value) (h : Heap) (L : List Loc) : Prop := Fr n0 L ∧ Keep h0 h [] ∧ ∃ (y : Addr) (k : ClassId) (vs : List Value), v = some (.ref y) ∧ h0.size ≤ y ∧ ((Arv Z h y k .byte (4 : Int32) vs (.int (0 : Int32)) ∧ StrChars.Road.CodA ([k0, k1, k2, k3] : List Int32) 0 (4 : Int32) vs) ∨ (Arv Z h y k .byte (8 : Int32) vs (.int (0 : Int32)) ∧ StrChars.Road.CodA ([k0, k1, k2, k3] : List Int32) 1 (8 : Int32) vs))
set_option maxRecDepth 65536 in
set_option maxHeartbeats 40000000 in
theorem rm8_4 (l : Launch) (Z : State) (aw : Array Value) (hw : ∀ d ∈ tables_1, d.before aw Z = true) (ws : List Jvm.Cond) (a0 : Addr) (k0 : Int32) (k1 : Int32) (k2 : Int32) (k3 : Int32) (kc : ClassId) (h0 : Heap) (n0 : Nat) (Z0 : n0 ≤ h0.size) (V_a : Arv Z h0 a0 kc .char (4 : Int32) [(.int k0), (.int k1), (.int k2), (.int k3)] (.int (0 : Int32))) (S__assertionsDisabled : Sta Z h0 "java/lang/StringUTF16" "$assertionsDisabled" "Z" (.int (1 : Int32))) (S_HI_BYTE_SHIFT : Sta Z h0 "java/lang/StringUTF16" "HI_BYTE_SHIFT" "I" (.int (0 : Int32))) (S_LO_BYTE_SHIFT : Sta Z h0 "java/lang/StringUTF16" "LO_BYTE_SHIFT" "I" (.int (8 : Int32))) (hc0 : OwnC16 k0) (hc1 : OwnC16 k1) (hc2 : OwnC16 k2) (hc3 : OwnC16 k3) :
    MetFree l (⟨"java/lang/StringUTF16", "compress", "([CII)[B"⟩ : MethodName) (head1 (Jvm.Cond.code (⟨"java/lang/StringUTF16", "compress", "([CII)[B"⟩ : MethodName) jdk_52_method_16_code 6 (some (.array .byte)) :: ws) ({ frames := 3, cells := 2, slots := 12, locals := 40 } : Room)) (fun a U => a = #[(.ref a0), (.int (0 : Int32)), (.int (4 : Int32))] ∧ Z.Warmed39 U.vm ∧ U.heap = h0) (fun _ _ _ _ _ => True) (fun _ U o U' => ∃ v L, o = .returned v ∧ Qrm8_4 Z a0 k0 k1 k2 k3 kc h0 n0 v U'.heap L ∧ FrameEnd U o U' L ({ frames := 3, cells := 2, slots := 12, locals := 40 } : Room).cells ({ frames := 3, cells := 2, slots := 12, locals := 40 } : Room).slots) := by
  refine MetFree.of_bodySF (plainFor_of_name pn_60) hisR ?_
  intro p e s m args below meth c s₁ Bd hml0 hP hK
  obtain ⟨rfl, hZ, hh⟩ := hP
  have hx := Bd.exec
  have hby := Bd.bytes
  have hml : c.maxLocals = 6 := hml0
  have hown : s.vm.findClass "java/lang/StringUTF16" = some m.cls := findClass_of_methodNamed Bd.named
  have hnm := (name_of_methodNamed Bd.named Bd.method).1
  have X0 : Stand p l e ({ frames := 3, cells := 2, slots := 12, locals := 40 } : Room) s m #[(.ref a0), (.int (0 : Int32)), (.int (4 : Int32))] below meth c s₁ [] 0 0 := Stand.of_body Bd
  have e0 : s₁.heap = h0 := by rw [← hh, Bd.state]; rfl
  have N0 := Fr.nil n0
  have hlk := Bd.notSynchronized
  show OwnGo p.tables e below _ (s₁.setTop (entryFrame m #[(.ref a0), (.int (0 : Int32)), (.int (4 : Int32))] 6))
  rw [ef_rm8_4 m a0]
  have K0 : Keep h0 h0 [] := Keep.refl _ _
  show OwnGo p.tables e below _ (s₁.setTop (mkF m 0 #[.val (.ref a0), .val (.int (0 : Int32)), .val (.int (4 : Int32)), .unset, .unset, .unset] []))
  refine OwnGo.of (B := s₁.setTop (mkF m 1 #[.val (.ref a0), .val (.int (0 : Int32)), .val (.int (4 : Int32)), .unset, .unset, .unset] [(.int (4 : Int32))])) (fun t k => ?_) ?_
  · show Steps p.tables e below (s₁.setTop (mkF m 0 #[.val (.ref a0), .val (.int (0 : Int32)), .val (.int (4 : Int32)), .unset, .unset, .unset] [])) t
    refine XS.iloadN X0.here hx rfl (hb hby d8_0) rfl ?_
    exact k
  obtain ⟨T1, h1, kq1, X1, e1, E1, A1, st1⟩ := newP (aty := .byte) X0 hx hZ (w20 hw) e0 (g := (mkF m 1 #[.val (.ref a0), .val (.int (0 : Int32)), .val (.int (4 : Int32)), .unset, .unset, .unset] [(.int (4 : Int32))])) rfl (hb hby d8_1) rfl (by decide) (cap := 4) (by decide) (by decide) (by decide) (by decide)
  obtain ⟨b1, g1⟩ : ∃ z, z = h0.size := ⟨_, rfl⟩
  rw [← g1] at A1 st1
  refine OwnGo.of st1 ?_
  have ne_a0_b1 : a0 ≠ b1 := Nat.ne_of_lt (Nat.lt_of_lt_of_le V_a.lt (Nat.le_of_eq g1.symm))
  have g_b1 : n0 ≤ b1 := Nat.le_trans Z0 (Nat.le_of_eq g1.symm)
  have sz_b1 : h0.size ≤ b1 := Nat.le_trans K0.1 (Nat.le_of_eq g1.symm)
  have f2 := Nat.le_trans Z0 E1.1
  have f3 := K0.ext E1
  have f4 := S__assertionsDisabled.ext E1
  have f5 := S_HI_BYTE_SHIFT.ext E1
  have f6 := S_LO_BYTE_SHIFT.ext E1
  have f7 := V_a.ext E1
  have f8 : Arv Z h1 b1 kq1 .byte (4 : Int32) [(.int (0 : Int32)), (.int (0 : Int32)), (.int (0 : Int32)), (.int (0 : Int32))] (.int (0 : Int32)) := (Arv.new A1 (by decide)).pad (pad_rep [] (.int (0 : Int32)) 4)
  show OwnGo p.tables e below _ (T1.setTop (mkF m 3 #[.val (.ref a0), .val (.int (0 : Int32)), .val (.int (4 : Int32)), .unset, .unset, .unset] [(.ref b1)]))
  refine OwnGo.of (B := T1.setTop (mkF m 9 #[.val (.ref a0), .val (.int (0 : Int32)), .val (.int (4 : Int32)), .val (.ref b1), .unset, .unset] [(.int (4 : Int32)), (.int (0 : Int32)), (.ref b1), (.int (0 : Int32)), (.ref a0)])) (fun t k => ?_) ?_
  · show Steps p.tables e below (T1.setTop (mkF m 3 #[.val (.ref a0), .val (.int (0 : Int32)), .val (.int (4 : Int32)), .unset, .unset, .unset] [(.ref b1)])) t
    refine XS.astoreN X1.here hx rfl (hb hby d8_3) rfl rfl (l' := #[.val (.ref a0), .val (.int (0 : Int32)), .val (.int (4 : Int32)), .val (.ref b1), .unset, .unset]) rfl ?_
    refine XS.aloadN X1.here hx rfl (hb hby d8_4) rfl rfl ?_
    refine XS.iloadN X1.here hx rfl (hb hby d8_5) rfl ?_
    refine XS.aloadN X1.here hx rfl (hb hby d8_6) rfl rfl ?_
    refine XS.iconst X1.here hx rfl (hb hby d8_7) ?_
    refine XS.iloadN X1.here hx rfl (hb hby d8_8) rfl ?_
    exact k
  obtain ⟨T9, L9, v9, X9, hQ9, st9⟩ := own_callS X1 hx (y := (⟨"java/lang/StringUTF16", "compress", "([CI[BII)I"⟩ : MethodName)) hown (mvT hZ (w44 hw)) (mvT hZ (w45 hw)) (mvT hZ (w42 hw)) (mvT hZ (w46 hw)) (by decide) (backOf (W := 0) (rm9_4 l Z aw hw [] a0 b1 k0 k1 k2 k3 kc kq1 h1 n0 f2 f7 f8 g_b1 ne_a0_b1) hZ (w46 hw) (w42 hw) (by decide) (by decide)) (g := (mkF m 9 #[.val (.ref a0), .val (.int (0 : Int32)), .val (.int (4 : Int32)), .val (.ref b1), .unset, .unset] [(.int (4 : Int32)), (.int (0 : Int32)), (.ref b1), (.int (0 : Int32)), (.ref a0)])) rfl (by rw [hml]; rfl) (argsL := [(.ref a0), (.int (0 : Int32)), (.ref b1), (.int (0 : Int32)), (.int (4 : Int32))]) (rest := []) (lenOf pd_100 rfl) rfl (by show 2 * 0 + _ ≤ _; exact Nat.le_of_eq rfl) (hb hby d8_9) rfl e1 (by decide) (by decide)
  obtain ⟨N9q, K9, dj9⟩ := hQ9
  have f10 := Nat.le_trans f2 K9.1
  have f11 := f3.trans K9 (allS (Or.inr sz_b1) all0)
  have f12 := own_sta_keep f4 K9 (allS (own_ns_arv f8) all0)
  have f13 := own_sta_keep f5 K9 (allS (own_ns_arv f8) all0)
  have f14 := own_sta_keep f6 K9 (allS (own_ns_arv f8) all0)
  have f15 := f7.keep K9 (ninS ne_a0_b1 nin0)
  have N9 := Fr.app N0 N9q
  rcases dj9 with ⟨rfl, h8, fb⟩ | ⟨iv, rfl, dj⟩
  · refine OwnGo.of st9 ?_
    show OwnGo p.tables e below _ (T9.setTop (mkF m 12 #[.val (.ref a0), .val (.int (0 : Int32)), .val (.int (4 : Int32)), .val (.ref b1), .unset, .unset] [(.int (4 : Int32))]))
    refine OwnGo.of (B := T9.setTop (mkF m 17 #[.val (.ref a0), .val (.int (0 : Int32)), .val (.int (4 : Int32)), .val (.ref b1), .val (.int (4 : Int32)), .unset] [(.int (4 : Int32)), (.int (4 : Int32))])) (fun t k => ?_) ?_
    · show Steps p.tables e below (T9.setTop (mkF m 12 #[.val (.ref a0), .val (.int (0 : Int32)), .val (.int (4 : Int32)), .val (.ref b1), .unset, .unset] [(.int (4 : Int32))])) t
      refine XS.istore X9.here hx rfl (hb hby d8_12) rfl (l' := #[.val (.ref a0), .val (.int (0 : Int32)), .val (.int (4 : Int32)), .val (.ref b1), .val (.int (4 : Int32)), .unset]) rfl ?_
      refine XS.iload X9.here hx rfl (hb hby d8_14) rfl ?_
      refine XS.iloadN X9.here hx rfl (hb hby d8_16) rfl ?_
      exact k
    have hc16 : (4 : Int32) = (4 : Int32) := by decide
    refine OwnGo.of (B := T9.setTop (mkF m 58 #[.val (.ref a0), .val (.int (0 : Int32)), .val (.int (4 : Int32)), .val (.ref b1), .val (.int (4 : Int32)), .unset] [(.ref b1)])) (fun t k => ?_) ?_
    · show Steps p.tables e below (T9.setTop (mkF m 17 #[.val (.ref a0), .val (.int (0 : Int32)), .val (.int (4 : Int32)), .val (.ref b1), .val (.int (4 : Int32)), .unset] [(.int (4 : Int32)), (.int (4 : Int32))])) t
      refine XS.icmpYes X9.here hx rfl (pc0 := 17) (pc' := 57) rfl (hb hby d8_17) rfl (teq hc16).1 (by decide) (by decide) ?_
      refine XS.aloadN X9.here hx rfl (hb hby d8_57) rfl rfl ?_
      exact k
    obtain ⟨fs, hr, hrun, hended, hW, hsame⟩ := X9.leave (v := some (.ref b1)) (fun h => by rw [Bd.returns] at h; cases h) hlk
    refine ⟨_, _, ?_, hrun, hended, _, _, rfl, ?_, ⟨_, rfl⟩, hW, hsame.mono (by decide) (by decide)⟩
    · show Steps p.tables e below (T9.setTop (mkF m 58 #[.val (.ref a0), .val (.int (0 : Int32)), .val (.int (4 : Int32)), .val (.ref b1), .val (.int (4 : Int32)), .unset] [(.ref b1)])) _
      exact own_retA X9 hx Bd.returns rfl rfl rfl (hb hby d8_58) hr
    · show Qrm8_4 Z a0 k0 k1 k2 k3 kc h0 n0 _ (T9.setFrames fs).heap _
      rw [show (T9.setFrames fs).heap = T9.heap from rfl]
      exact ⟨N9, f11, b1, _, _, rfl, sz_b1, Or.inl ⟨fb, Or.inl ⟨rfl, rfl, rfl, h8⟩⟩⟩
  · refine OwnGo.of st9 ?_
    show OwnGo p.tables e below _ (T9.setTop (mkF m 12 #[.val (.ref a0), .val (.int (0 : Int32)), .val (.int (4 : Int32)), .val (.ref b1), .unset, .unset] [(.int iv)]))
    refine OwnGo.of (B := T9.setTop (mkF m 17 #[.val (.ref a0), .val (.int (0 : Int32)), .val (.int (4 : Int32)), .val (.ref b1), .val (.int iv), .unset] [(.int (4 : Int32)), (.int iv)])) (fun t k => ?_) ?_
    · show Steps p.tables e below (T9.setTop (mkF m 12 #[.val (.ref a0), .val (.int (0 : Int32)), .val (.int (4 : Int32)), .val (.ref b1), .unset, .unset] [(.int iv)])) t
      refine XS.istore X9.here hx rfl (hb hby d8_12) rfl (l' := #[.val (.ref a0), .val (.int (0 : Int32)), .val (.int (4 : Int32)), .val (.ref b1), .val (.int iv), .unset]) rfl ?_
      refine XS.iload X9.here hx rfl (hb hby d8_14) rfl ?_
      refine XS.iloadN X9.here hx rfl (hb hby d8_16) rfl ?_
      exact k
    have hc17 : ¬ (iv = (4 : Int32)) := by rcases dj with ⟨rfl, -⟩ | ⟨rfl, -⟩ | ⟨rfl, -⟩ | ⟨rfl, -⟩ <;> decide
    refine OwnGo.of (B := T9.setTop (mkF m 23 #[.val (.ref a0), .val (.int (0 : Int32)), .val (.int (4 : Int32)), .val (.ref b1), .val (.int iv), .unset] [(.int (4 : Int32)), (.int (0 : Int32)), (.ref a0)])) (fun t k => ?_) ?_
    · show Steps p.tables e below (T9.setTop (mkF m 17 #[.val (.ref a0), .val (.int (0 : Int32)), .val (.int (4 : Int32)), .val (.ref b1), .val (.int iv), .unset] [(.int (4 : Int32)), (.int iv)])) t
      refine XS.icmpNo X9.here hx rfl (hb hby d8_17) rfl (feq hc17).1 ?_
      refine XS.aloadN X9.here hx rfl (hb hby d8_20) rfl rfl ?_
      refine XS.iloadN X9.here hx rfl (hb hby d8_21) rfl ?_
      refine XS.iloadN X9.here hx rfl (hb hby d8_22) rfl ?_
      exact k
    obtain ⟨T18, L18, v18, X18, hQ18, st18⟩ := own_callS X9 hx (y := (⟨"java/lang/StringUTF16", "toBytes", "([CII)[B"⟩ : MethodName)) hown (mvT hZ (w113 hw)) (mvT hZ (w114 hw)) (mvT hZ (w42 hw)) (mvT hZ (w115 hw)) (by decide) (backOf (W := 0) (rm26_4 l Z aw hw [] a0 k0 k1 k2 k3 kc T9.heap n0 f10 f15 f12 f13 f14) hZ (w115 hw) (w42 hw) (by decide) (by decide)) (g := (mkF m 23 #[.val (.ref a0), .val (.int (0 : Int32)), .val (.int (4 : Int32)), .val (.ref b1), .val (.int iv), .unset] [(.int (4 : Int32)), (.int (0 : Int32)), (.ref a0)])) rfl (by rw [hml]; rfl) (argsL := [(.ref a0), (.int (0 : Int32)), (.int (4 : Int32))]) (rest := []) (lenOf pd_104 rfl) rfl (by show 2 * 0 + _ ≤ _; exact Nat.le_of_eq rfl) (hb hby d8_23) rfl rfl (by decide) (by decide)
    obtain ⟨N18q, K18, y18, kq18, rfl, A18, gy18⟩ := hQ18
    have ne_a0_y18 : a0 ≠ y18 := Nat.ne_of_lt (Nat.lt_of_lt_of_le f15.lt gy18)
    have g_y18 : n0 ≤ y18 := Nat.le_trans f10 gy18
    have sz_y18 : h0.size ≤ y18 := Nat.le_trans f11.1 gy18
    have f19 := Nat.le_trans f10 K18.1
    have f20 := f11.trans K18 all0
    have f21 := own_sta_keep f12 K18 all0
    have f22 := own_sta_keep f13 K18 all0
    have f23 := own_sta_keep f14 K18 all0
    have f24 := f15.keep K18 nin0
    have f25 : Arv Z T18.heap y18 kq18 .byte (8 : Int32) [(.int (StrChars.lo8 k0)), (.int (StrChars.hi8 k0)), (.int (StrChars.lo8 k1)), (.int (StrChars.hi8 k1)), (.int (StrChars.lo8 k2)), (.int (StrChars.hi8 k2)), (.int (StrChars.lo8 k3)), (.int (StrChars.hi8 k3))] (.int (0 : Int32)) := A18
    have N18 := Fr.app N9 N18q
    refine OwnGo.of st18 ?_
    show OwnGo p.tables e below _ (T18.setTop (mkF m 26 #[.val (.ref a0), .val (.int (0 : Int32)), .val (.int (4 : Int32)), .val (.ref b1), .val (.int iv), .unset] [(.ref y18)]))
    refine OwnGo.of (B := T18.setTop (mkF m 28 #[.val (.ref a0), .val (.int (0 : Int32)), .val (.int (4 : Int32)), .val (.ref b1), .val (.int iv), .val (.ref y18)] [])) (fun t k => ?_) ?_
    · show Steps p.tables e below (T18.setTop (mkF m 26 #[.val (.ref a0), .val (.int (0 : Int32)), .val (.int (4 : Int32)), .val (.ref b1), .val (.int iv), .unset] [(.ref y18)])) t
      refine XS.astore X18.here hx rfl (hb hby d8_26) rfl rfl (l' := #[.val (.ref a0), .val (.int (0 : Int32)), .val (.int (4 : Int32)), .val (.ref b1), .val (.int iv), .val (.ref y18)]) rfl ?_
      exact k
    rcases dj with ⟨rfl, h5⟩ | ⟨rfl, h5⟩ | ⟨rfl, h5⟩ | ⟨rfl, h5⟩
    · show OwnGo p.tables e below _ (T18.setTop (mkF m 28 #[.val (.ref a0), .val (.int (0 : Int32)), .val (.int (4 : Int32)), .val (.ref b1), .val (.int (0 : Int32)), .val (.ref y18)] []))
      refine OwnGo.of (B := T18.setTop (mkF m 32 #[.val (.ref a0), .val (.int (0 : Int32)), .val (.int (4 : Int32)), .val (.ref b1), .val (.int (0 : Int32)), .val (.ref y18)] [(.int (0 : Int32)), (.ref y18)])) (fun t k => ?_) ?_
      · show Steps p.tables e below (T18.setTop (mkF m 28 #[.val (.ref a0), .val (.int (0 : Int32)), .val (.int (4 : Int32)), .val (.ref b1), .val (.int (0 : Int32)), .val (.ref y18)] [])) t
        refine XS.aload X18.here hx rfl (hb hby d8_28) rfl rfl ?_
        refine XS.iload X18.here hx rfl (hb hby d8_30) rfl ?_
        exact k
      obtain ⟨T26, L26, v26, X26, hQ26, st26⟩ := own_callS X18 hx (y := (⟨"java/lang/StringUTF16", "getChar", "([BI)C"⟩ : MethodName)) hown (mvT hZ (w129 hw)) (mvT hZ (w130 hw)) (mvT hZ (w42 hw)) (mvT hZ (w131 hw)) (by decide) (backOf (W := 0) (rm30 l Z aw hw [] y18 (0 : Int32) kq18 (8 : Int32) ([(.int (StrChars.lo8 k0)), (.int (StrChars.hi8 k0)), (.int (StrChars.lo8 k1)), (.int (StrChars.hi8 k1)), (.int (StrChars.lo8 k2)), (.int (StrChars.hi8 k2)), (.int (StrChars.lo8 k3)), (.int (StrChars.hi8 k3))] : List Value) k0 T18.heap n0 f19 f25 f21 f22 f23 (by decide) (by decide) rfl rfl hc0) hZ (w131 hw) (w42 hw) (by decide) (by decide)) (g := (mkF m 32 #[.val (.ref a0), .val (.int (0 : Int32)), .val (.int (4 : Int32)), .val (.ref b1), .val (.int (0 : Int32)), .val (.ref y18)] [(.int (0 : Int32)), (.ref y18)])) rfl (by rw [hml]; rfl) (argsL := [(.ref y18), (.int (0 : Int32))]) (rest := []) (lenOf pd_76 rfl) rfl (by show 2 * 0 + _ ≤ _; exact Nat.le_of_eq rfl) (hb hby d8_32) rfl rfl (by decide) (by decide)
      obtain ⟨rfl, N26q, eq26⟩ := hQ26
      have N26 := Fr.app N18 N26q
      refine OwnGo.of st26 ?_
      show OwnGo p.tables e below _ (T26.setTop (mkF m 35 #[.val (.ref a0), .val (.int (0 : Int32)), .val (.int (4 : Int32)), .val (.ref b1), .val (.int (0 : Int32)), .val (.ref y18)] [(.int k0)]))
      refine OwnGo.of (B := T26.setTop (mkF m 38 #[.val (.ref a0), .val (.int (0 : Int32)), .val (.int (4 : Int32)), .val (.ref b1), .val (.int (0 : Int32)), .val (.ref y18)] [(.int (255 : Int32)), (.int k0)])) (fun t k => ?_) ?_
      · show Steps p.tables e below (T26.setTop (mkF m 35 #[.val (.ref a0), .val (.int (0 : Int32)), .val (.int (4 : Int32)), .val (.ref b1), .val (.int (0 : Int32)), .val (.ref y18)] [(.int k0)])) t
        refine XS.sipush X26.here hx rfl (hb hby d8_35) ?_
        exact k
      have hc27 : (255 : Int32) < k0 := h5
      refine OwnGo.of (B := T26.setTop (mkF m 56 #[.val (.ref a0), .val (.int (0 : Int32)), .val (.int (4 : Int32)), .val (.ref b1), .val (.int (0 : Int32)), .val (.ref y18)] [(.ref y18)])) (fun t k => ?_) ?_
      · show Steps p.tables e below (T26.setTop (mkF m 38 #[.val (.ref a0), .val (.int (0 : Int32)), .val (.int (4 : Int32)), .val (.ref b1), .val (.int (0 : Int32)), .val (.ref y18)] [(.int (255 : Int32)), (.int k0)])) t
        refine XS.icmpYes X26.here hx rfl (pc0 := 38) (pc' := 54) rfl (hb hby d8_38) rfl (tlt hc27).2.2.1 (by decide) (by decide) ?_
        refine XS.aload X26.here hx rfl (hb hby d8_54) rfl rfl ?_
        exact k
      obtain ⟨fs, hr, hrun, hended, hW, hsame⟩ := X26.leave (v := some (.ref y18)) (fun h => by rw [Bd.returns] at h; cases h) hlk
      refine ⟨_, _, ?_, hrun, hended, _, _, rfl, ?_, ⟨_, rfl⟩, hW, hsame.mono (by decide) (by decide)⟩
      · show Steps p.tables e below (T26.setTop (mkF m 56 #[.val (.ref a0), .val (.int (0 : Int32)), .val (.int (4 : Int32)), .val (.ref b1), .val (.int (0 : Int32)), .val (.ref y18)] [(.ref y18)])) _
        exact own_retA X26 hx Bd.returns rfl rfl rfl (hb hby d8_56) hr
      · show Qrm8_4 Z a0 k0 k1 k2 k3 kc h0 n0 _ (T26.setFrames fs).heap _
        rw [show (T26.setFrames fs).heap = T18.heap from eq26]
        exact ⟨N26, f20, y18, _, _, rfl, sz_y18, Or.inr ⟨f25, Or.inr ⟨rfl, rfl, rfl, k0, List.mem_of_getElem? (i := 0) rfl, h5⟩⟩⟩
    · show OwnGo p.tables e below _ (T18.setTop (mkF m 28 #[.val (.ref a0), .val (.int (0 : Int32)), .val (.int (4 : Int32)), .val (.ref b1), .val (.int (1 : Int32)), .val (.ref y18)] []))
      refine OwnGo.of (B := T18.setTop (mkF m 32 #[.val (.ref a0), .val (.int (0 : Int32)), .val (.int (4 : Int32)), .val (.ref b1), .val (.int (1 : Int32)), .val (.ref y18)] [(.int (1 : Int32)), (.ref y18)])) (fun t k => ?_) ?_
      · show Steps p.tables e below (T18.setTop (mkF m 28 #[.val (.ref a0), .val (.int (0 : Int32)), .val (.int (4 : Int32)), .val (.ref b1), .val (.int (1 : Int32)), .val (.ref y18)] [])) t
        refine XS.aload X18.here hx rfl (hb hby d8_28) rfl rfl ?_
        refine XS.iload X18.here hx rfl (hb hby d8_30) rfl ?_
        exact k
      obtain ⟨T28, L28, v28, X28, hQ28, st28⟩ := own_callS X18 hx (y := (⟨"java/lang/StringUTF16", "getChar", "([BI)C"⟩ : MethodName)) hown (mvT hZ (w129 hw)) (mvT hZ (w130 hw)) (mvT hZ (w42 hw)) (mvT hZ (w131 hw)) (by decide) (backOf (W := 0) (rm30 l Z aw hw [] y18 (1 : Int32) kq18 (8 : Int32) ([(.int (StrChars.lo8 k0)), (.int (StrChars.hi8 k0)), (.int (StrChars.lo8 k1)), (.int (StrChars.hi8 k1)), (.int (StrChars.lo8 k2)), (.int (StrChars.hi8 k2)), (.int (StrChars.lo8 k3)), (.int (StrChars.hi8 k3))] : List Value) k1 T18.heap n0 f19 f25 f21 f22 f23 (by decide) (by decide) rfl rfl hc1) hZ (w131 hw) (w42 hw) (by decide) (by decide)) (g := (mkF m 32 #[.val (.ref a0), .val (.int (0 : Int32)), .val (.int (4 : Int32)), .val (.ref b1), .val (.int (1 : Int32)), .val (.ref y18)] [(.int (1 : Int32)), (.ref y18)])) rfl (by rw [hml]; rfl) (argsL := [(.ref y18), (.int (1 : Int32))]) (rest := []) (lenOf pd_76 rfl) rfl (by show 2 * 0 + _ ≤ _; exact Nat.le_of_eq rfl) (hb hby d8_32) rfl rfl (by decide) (by decide)
      obtain ⟨rfl, N28q, eq28⟩ := hQ28
      have N28 := Fr.app N18 N28q
      refine OwnGo.of st28 ?_
      show OwnGo p.tables e below _ (T28.setTop (mkF m 35 #[.val (.ref a0), .val (.int (0 : Int32)), .val (.int (4 : Int32)), .val (.ref b1), .val (.int (1 : Int32)), .val (.ref y18)] [(.int k1)]))
      refine OwnGo.of (B := T28.setTop (mkF m 38 #[.val (.ref a0), .val (.int (0 : Int32)), .val (.int (4 : Int32)), .val (.ref b1), .val (.int (1 : Int32)), .val (.ref y18)] [(.int (255 : Int32)), (.int k1)])) (fun t k => ?_) ?_
      · show Steps p.tables e below (T28.setTop (mkF m 35 #[.val (.ref a0), .val (.int (0 : Int32)), .val (.int (4 : Int32)), .val (.ref b1), .val (.int (1 : Int32)), .val (.ref y18)] [(.int k1)])) t
        refine XS.sipush X28.here hx rfl (hb hby d8_35) ?_
        exact k
      have hc29 : (255 : Int32) < k1 := h5
      refine OwnGo.of (B := T28.setTop (mkF m 56 #[.val (.ref a0), .val (.int (0 : Int32)), .val (.int (4 : Int32)), .val (.ref b1), .val (.int (1 : Int32)), .val (.ref y18)] [(.ref y18)])) (fun t k => ?_) ?_
      · show Steps p.tables e below (T28.setTop (mkF m 38 #[.val (.ref a0), .val (.int (0 : Int32)), .val (.int (4 : Int32)), .val (.ref b1), .val (.int (1 : Int32)), .val (.ref y18)] [(.int (255 : Int32)), (.int k1)])) t
        refine XS.icmpYes X28.here hx rfl (pc0 := 38) (pc' := 54) rfl (hb hby d8_38) rfl (tlt hc29).2.2.1 (by decide) (by decide) ?_
        refine XS.aload X28.here hx rfl (hb hby d8_54) rfl rfl ?_
        exact k
      obtain ⟨fs, hr, hrun, hended, hW, hsame⟩ := X28.leave (v := some (.ref y18)) (fun h => by rw [Bd.returns] at h; cases h) hlk
      refine ⟨_, _, ?_, hrun, hended, _, _, rfl, ?_, ⟨_, rfl⟩, hW, hsame.mono (by decide) (by decide)⟩
      · show Steps p.tables e below (T28.setTop (mkF m 56 #[.val (.ref a0), .val (.int (0 : Int32)), .val (.int (4 : Int32)), .val (.ref b1), .val (.int (1 : Int32)), .val (.ref y18)] [(.ref y18)])) _
        exact own_retA X28 hx Bd.returns rfl rfl rfl (hb hby d8_56) hr
      · show Qrm8_4 Z a0 k0 k1 k2 k3 kc h0 n0 _ (T28.setFrames fs).heap _
        rw [show (T28.setFrames fs).heap = T18.heap from eq28]
        exact ⟨N28, f20, y18, _, _, rfl, sz_y18, Or.inr ⟨f25, Or.inr ⟨rfl, rfl, rfl, k1, List.mem_of_getElem? (i := 1) rfl, h5⟩⟩⟩
    · show OwnGo p.tables e below _ (T18.setTop (mkF m 28 #[.val (.ref a0), .val (.int (0 : Int32)), .val (.int (4 : Int32)), .val (.ref b1), .val (.int (2 : Int32)), .val (.ref y18)] []))
      refine OwnGo.of (B := T18.setTop (mkF m 32 #[.val (.ref a0), .val (.int (0 : Int32)), .val (.int (4 : Int32)), .val (.ref b1), .val (.int (2 : Int32)), .val (.ref y18)] [(.int (2 : Int32)), (.ref y18)])) (fun t k => ?_) ?_
      · show Steps p.tables e below (T18.setTop (mkF m 28 #[.val (.ref a0), .val (.int (0 : Int32)), .val (.int (4 : Int32)), .val (.ref b1), .val (.int (2 : Int32)), .val (.ref y18)] [])) t
        refine XS.aload X18.here hx rfl (hb hby d8_28) rfl rfl ?_
        refine XS.iload X18.here hx rfl (hb hby d8_30) rfl ?_
        exact k
      obtain ⟨T30, L30, v30, X30, hQ30, st30⟩ := own_callS X18 hx (y := (⟨"java/lang/StringUTF16", "getChar", "([BI)C"⟩ : MethodName)) hown (mvT hZ (w129 hw)) (mvT hZ (w130 hw)) (mvT hZ (w42 hw)) (mvT hZ (w131 hw)) (by decide) (backOf (W := 0) (rm30 l Z aw hw [] y18 (2 : Int32) kq18 (8 : Int32) ([(.int (StrChars.lo8 k0)), (.int (StrChars.hi8 k0)), (.int (StrChars.lo8 k1)), (.int (StrChars.hi8 k1)), (.int (StrChars.lo8 k2)), (.int (StrChars.hi8 k2)), (.int (StrChars.lo8 k3)), (.int (StrChars.hi8 k3))] : List Value) k2 T18.heap n0 f19 f25 f21 f22 f23 (by decide) (by decide) rfl rfl hc2) hZ (w131 hw) (w42 hw) (by decide) (by decide)) (g := (mkF m 32 #[.val (.ref a0), .val (.int (0 : Int32)), .val (.int (4 : Int32)), .val (.ref b1), .val (.int (2 : Int32)), .val (.ref y18)] [(.int (2 : Int32)), (.ref y18)])) rfl (by rw [hml]; rfl) (argsL := [(.ref y18), (.int (2 : Int32))]) (rest := []) (lenOf pd_76 rfl) rfl (by show 2 * 0 + _ ≤ _; exact Nat.le_of_eq rfl) (hb hby d8_32) rfl rfl (by decide) (by decide)
      obtain ⟨rfl, N30q, eq30⟩ := hQ30
      have N30 := Fr.app N18 N30q
      refine OwnGo.of st30 ?_
      show OwnGo p.tables e below _ (T30.setTop (mkF m 35 #[.val (.ref a0), .val (.int (0 : Int32)), .val (.int (4 : Int32)), .val (.ref b1), .val (.int (2 : Int32)), .val (.ref y18)] [(.int k2)]))
      refine OwnGo.of (B := T30.setTop (mkF m 38 #[.val (.ref a0), .val (.int (0 : Int32)), .val (.int (4 : Int32)), .val (.ref b1), .val (.int (2 : Int32)), .val (.ref y18)] [(.int (255 : Int32)), (.int k2)])) (fun t k => ?_) ?_
      · show Steps p.tables e below (T30.setTop (mkF m 35 #[.val (.ref a0), .val (.int (0 : Int32)), .val (.int (4 : Int32)), .val (.ref b1), .val (.int (2 : Int32)), .val (.ref y18)] [(.int k2)])) t
        refine XS.sipush X30.here hx rfl (hb hby d8_35) ?_
        exact k
      have hc31 : (255 : Int32) < k2 := h5
      refine OwnGo.of (B := T30.setTop (mkF m 56 #[.val (.ref a0), .val (.int (0 : Int32)), .val (.int (4 : Int32)), .val (.ref b1), .val (.int (2 : Int32)), .val (.ref y18)] [(.ref y18)])) (fun t k => ?_) ?_
      · show Steps p.tables e below (T30.setTop (mkF m 38 #[.val (.ref a0), .val (.int (0 : Int32)), .val (.int (4 : Int32)), .val (.ref b1), .val (.int (2 : Int32)), .val (.ref y18)] [(.int (255 : Int32)), (.int k2)])) t
        refine XS.icmpYes X30.here hx rfl (pc0 := 38) (pc' := 54) rfl (hb hby d8_38) rfl (tlt hc31).2.2.1 (by decide) (by decide) ?_
        refine XS.aload X30.here hx rfl (hb hby d8_54) rfl rfl ?_
        exact k
      obtain ⟨fs, hr, hrun, hended, hW, hsame⟩ := X30.leave (v := some (.ref y18)) (fun h => by rw [Bd.returns] at h; cases h) hlk
      refine ⟨_, _, ?_, hrun, hended, _, _, rfl, ?_, ⟨_, rfl⟩, hW, hsame.mono (by decide) (by decide)⟩
      · show Steps p.tables e below (T30.setTop (mkF m 56 #[.val (.ref a0), .val (.int (0 : Int32)), .val (.int (4 : Int32)), .val (.ref b1), .val (.int (2 : Int32)), .val (.ref y18)] [(.ref y18)])) _
        exact own_retA X30 hx Bd.returns rfl rfl rfl (hb hby d8_56) hr
      · show Qrm8_4 Z a0 k0 k1 k2 k3 kc h0 n0 _ (T30.setFrames fs).heap _
        rw [show (T30.setFrames fs).heap = T18.heap from eq30]
        exact ⟨N30, f20, y18, _, _, rfl, sz_y18, Or.inr ⟨f25, Or.inr ⟨rfl, rfl, rfl, k2, List.mem_of_getElem? (i := 2) rfl, h5⟩⟩⟩
    · show OwnGo p.tables e below _ (T18.setTop (mkF m 28 #[.val (.ref a0), .val (.int (0 : Int32)), .val (.int (4 : Int32)), .val (.ref b1), .val (.int (3 : Int32)), .val (.ref y18)] []))
      refine OwnGo.of (B := T18.setTop (mkF m 32 #[.val (.ref a0), .val (.int (0 : Int32)), .val (.int (4 : Int32)), .val (.ref b1), .val (.int (3 : Int32)), .val (.ref y18)] [(.int (3 : Int32)), (.ref y18)])) (fun t k => ?_) ?_
      · show Steps p.tables e below (T18.setTop (mkF m 28 #[.val (.ref a0), .val (.int (0 : Int32)), .val (.int (4 : Int32)), .val (.ref b1), .val (.int (3 : Int32)), .val (.ref y18)] [])) t
        refine XS.aload X18.here hx rfl (hb hby d8_28) rfl rfl ?_
        refine XS.iload X18.here hx rfl (hb hby d8_30) rfl ?_
        exact k
      obtain ⟨T32, L32, v32, X32, hQ32, st32⟩ := own_callS X18 hx (y := (⟨"java/lang/StringUTF16", "getChar", "([BI)C"⟩ : MethodName)) hown (mvT hZ (w129 hw)) (mvT hZ (w130 hw)) (mvT hZ (w42 hw)) (mvT hZ (w131 hw)) (by decide) (backOf (W := 0) (rm30 l Z aw hw [] y18 (3 : Int32) kq18 (8 : Int32) ([(.int (StrChars.lo8 k0)), (.int (StrChars.hi8 k0)), (.int (StrChars.lo8 k1)), (.int (StrChars.hi8 k1)), (.int (StrChars.lo8 k2)), (.int (StrChars.hi8 k2)), (.int (StrChars.lo8 k3)), (.int (StrChars.hi8 k3))] : List Value) k3 T18.heap n0 f19 f25 f21 f22 f23 (by decide) (by decide) rfl rfl hc3) hZ (w131 hw) (w42 hw) (by decide) (by decide)) (g := (mkF m 32 #[.val (.ref a0), .val (.int (0 : Int32)), .val (.int (4 : Int32)), .val (.ref b1), .val (.int (3 : Int32)), .val (.ref y18)] [(.int (3 : Int32)), (.ref y18)])) rfl (by rw [hml]; rfl) (argsL := [(.ref y18), (.int (3 : Int32))]) (rest := []) (lenOf pd_76 rfl) rfl (by show 2 * 0 + _ ≤ _; exact Nat.le_of_eq rfl) (hb hby d8_32) rfl rfl (by decide) (by decide)
      obtain ⟨rfl, N32q, eq32⟩ := hQ32
      have N32 := Fr.app N18 N32q
      refine OwnGo.of st32 ?_
      show OwnGo p.tables e below _ (T32.setTop (mkF m 35 #[.val (.ref a0), .val (.int (0 : Int32)), .val (.int (4 : Int32)), .val (.ref b1), .val (.int (3 : Int32)), .val (.ref y18)] [(.int k3)]))
      refine OwnGo.of (B := T32.setTop (mkF m 38 #[.val (.ref a0), .val (.int (0 : Int32)), .val (.int (4 : Int32)), .val (.ref b1), .val (.int (3 : Int32)), .val (.ref y18)] [(.int (255 : Int32)), (.int k3)])) (fun t k => ?_) ?_
      · show Steps p.tables e below (T32.setTop (mkF m 35 #[.val (.ref a0), .val (.int (0 : Int32)), .val (.int (4 : Int32)), .val (.ref b1), .val (.int (3 : Int32)), .val (.ref y18)] [(.int k3)])) t
        refine XS.sipush X32.here hx rfl (hb hby d8_35) ?_
        exact k
      have hc33 : (255 : Int32) < k3 := h5
      refine OwnGo.of (B := T32.setTop (mkF m 56 #[.val (.ref a0), .val (.int (0 : Int32)), .val (.int (4 : Int32)), .val (.ref b1), .val (.int (3 : Int32)), .val (.ref y18)] [(.ref y18)])) (fun t k => ?_) ?_
      · show Steps p.tables e below (T32.setTop (mkF m 38 #[.val (.ref a0), .val (.int (0 : Int32)), .val (.int (4 : Int32)), .val (.ref b1), .val (.int (3 : Int32)), .val (.ref y18)] [(.int (255 : Int32)), (.int k3)])) t
        refine XS.icmpYes X32.here hx rfl (pc0 := 38) (pc' := 54) rfl (hb hby d8_38) rfl (tlt hc33).2.2.1 (by decide) (by decide) ?_
        refine XS.aload X32.here hx rfl (hb hby d8_54) rfl rfl ?_
        exact k
      obtain ⟨fs, hr, hrun, hended, hW, hsame⟩ := X32.leave (v := some (.ref y18)) (fun h => by rw [Bd.returns] at h; cases h) hlk
      refine ⟨_, _, ?_, hrun, hended, _, _, rfl, ?_, ⟨_, rfl⟩, hW, hsame.mono (by decide) (by decide)⟩
      · show Steps p.tables e below (T32.setTop (mkF m 56 #[.val (.ref a0), .val (.int (0 : Int32)), .val (.int (4 : Int32)), .val (.ref b1), .val (.int (3 : Int32)), .val (.ref y18)] [(.ref y18)])) _
        exact own_retA X32 hx Bd.returns rfl rfl rfl (hb hby d8_56) hr
      · show Qrm8_4 Z a0 k0 k1 k2 k3 kc h0 n0 _ (T32.setFrames fs).heap _
        rw [show (T32.setFrames fs).heap = T18.heap from eq32]
        exact ⟨N32, f20, y18, _, _, rfl, sz_y18, Or.inr ⟨f25, Or.inr ⟨rfl, rfl, rfl, k3, List.mem_of_getElem? (i := 3) rfl, h5⟩⟩⟩
def Qrm8g (Z : State) (cs : List Int32) (h0 : Heap) (n0 : Nat) (v : Option Value) (h : Heap) (L : List Loc) : Prop := Fr n0 L ∧ Keep h0 h [] ∧ ∃ (y : Addr) (k : ClassId) (vs : List Value) (cd N : Int32), v = some (.ref y) ∧ h0.size ≤ y ∧ Arv Z h y k .byte N vs (.int (0 : Int32)) ∧ StrChars.Road.CodA cs cd N vs ∧ (cd = 0 ∨ cd = 1) ∧ nar .byte (((Int32.ofNat cs.length - N).toUInt32 >>> ((31 : Int32) &&& 31).toUInt32).toInt32).toInt8.toInt32 = cd

theorem rm8 (l : Launch) (Z : State) (aw : Array Value) (hw : ∀ d ∈ tables_1, d.before aw Z = true) (ws : List Jvm.Cond) (a0 : Addr) (cs : List Int32) (kc : ClassId) (h0 : Heap) (n0 : Nat) (Z0 : n0 ≤ h0.size) (h1 : 1 ≤ cs.length) (h4 : cs.length ≤ 4) (V_a : Arv Z h0 a0 kc .char (Int32.ofNat cs.length) (cs.map Value.int) (.int (0 : Int32))) (S__assertionsDisabled : Sta Z h0 "java/lang/StringUTF16" "$assertionsDisabled" "Z" (.int (1 : Int32))) (S_HI_BYTE_SHIFT : Sta Z h0 "java/lang/StringUTF16" "HI_BYTE_SHIFT" "I" (.int (0 : Int32))) (S_LO_BYTE_SHIFT : Sta Z h0 "java/lang/StringUTF16" "LO_BYTE_SHIFT" "I" (.int (8 : Int32))) (hc : ∀ c ∈ cs, OwnC16 c) :
    MetFree l (⟨"java/lang/StringUTF16", "compress", "([CII)[B"⟩ : MethodName) (head1 (Jvm.Cond.code (⟨"java/lang/StringUTF16", "compress", "([CII)[B"⟩ : MethodName) jdk_52_method_16_code 6 (some (.array .byte)) :: ws) ({ frames := 3, cells := 2, slots := 12, locals := 40 } : Room)) (fun a U => a = #[(.ref a0), (.int 0), (.int (Int32.ofNat cs.length))] ∧ Z.Warmed39 U.vm ∧ U.heap = h0) (fun _ _ _ _ _ => True) (fun _ U o U' => ∃ v L, o = .returned v ∧ Qrm8g Z cs h0 n0 v U'.heap L ∧ FrameEnd U o U' L ({ frames := 3, cells := 2, slots := 12, locals := 40 } : Room).cells ({ frames := 3, cells := 2, slots := 12, locals := 40 } : Room).slots) := by
  match cs, h1, h4, V_a, hc with
  | [k0], _, _, V_a, hc =>
    intro p e a1 a2 a3 s m args below a4 a5 a6 a7
    obtain ⟨n1, o, b1, b2, b3, v, L, b4, ⟨b5, b6, y, k, vs, b7, b8, b9⟩, b10⟩ := rm8_1 l Z aw hw ws a0 k0 kc h0 n0 Z0 V_a S__assertionsDisabled S_HI_BYTE_SHIFT S_LO_BYTE_SHIFT (hc k0 (List.mem_of_getElem? (i := 0) rfl)) p e a1 a2 a3 s m args below a4 a5 a6 a7
    rcases b9 with ⟨c1, c2⟩ | ⟨c1, c2⟩
    · exact ⟨n1, o, b1, b2, b3, v, L, b4, ⟨b5, b6, y, k, vs, 0, _, b7, b8, c1, c2, Or.inl rfl, by show nar .byte (((Int32.ofNat 1 - (1 : Int32)).toUInt32 >>> ((31 : Int32) &&& 31).toUInt32).toInt32).toInt8.toInt32 = (0 : Int32); decide⟩, b10⟩
    · exact ⟨n1, o, b1, b2, b3, v, L, b4, ⟨b5, b6, y, k, vs, 1, _, b7, b8, c1, c2, Or.inr rfl, by show nar .byte (((Int32.ofNat 1 - (2 : Int32)).toUInt32 >>> ((31 : Int32) &&& 31).toUInt32).toInt32).toInt8.toInt32 = (1 : Int32); decide⟩, b10⟩
  | [k0, k1], _, _, V_a, hc =>
    intro p e a1 a2 a3 s m args below a4 a5 a6 a7
    obtain ⟨n1, o, b1, b2, b3, v, L, b4, ⟨b5, b6, y, k, vs, b7, b8, b9⟩, b10⟩ := rm8_2 l Z aw hw ws a0 k0 k1 kc h0 n0 Z0 V_a S__assertionsDisabled S_HI_BYTE_SHIFT S_LO_BYTE_SHIFT (hc k0 (List.mem_of_getElem? (i := 0) rfl)) (hc k1 (List.mem_of_getElem? (i := 1) rfl)) p e a1 a2 a3 s m args below a4 a5 a6 a7
    rcases b9 with ⟨c1, c2⟩ | ⟨c1, c2⟩
    · exact ⟨n1, o, b1, b2, b3, v, L, b4, ⟨b5, b6, y, k, vs, 0, _, b7, b8, c1, c2, Or.inl rfl, by show nar .byte (((Int32.ofNat 2 - (2 : Int32)).toUInt32 >>> ((31 : Int32) &&& 31).toUInt32).toInt32).toInt8.toInt32 = (0 : Int32); decide⟩, b10⟩
    · exact ⟨n1, o, b1, b2, b3, v, L, b4, ⟨b5, b6, y, k, vs, 1, _, b7, b8, c1, c2, Or.inr rfl, by show nar .byte (((Int32.ofNat 2 - (4 : Int32)).toUInt32 >>> ((31 : Int32) &&& 31).toUInt32).toInt32).toInt8.toInt32 = (1 : Int32); decide⟩, b10⟩
  | [k0, k1, k2], _, _, V_a, hc =>
    intro p e a1 a2 a3 s m args below a4 a5 a6 a7
    obtain ⟨n1, o, b1, b2, b3, v, L, b4, ⟨b5, b6, y, k, vs, b7, b8, b9⟩, b10⟩ := rm8_3 l Z aw hw ws a0 k0 k1 k2 kc h0 n0 Z0 V_a S__assertionsDisabled S_HI_BYTE_SHIFT S_LO_BYTE_SHIFT (hc k0 (List.mem_of_getElem? (i := 0) rfl)) (hc k1 (List.mem_of_getElem? (i := 1) rfl)) (hc k2 (List.mem_of_getElem? (i := 2) rfl)) p e a1 a2 a3 s m args below a4 a5 a6 a7
    rcases b9 with ⟨c1, c2⟩ | ⟨c1, c2⟩
    · exact ⟨n1, o, b1, b2, b3, v, L, b4, ⟨b5, b6, y, k, vs, 0, _, b7, b8, c1, c2, Or.inl rfl, by show nar .byte (((Int32.ofNat 3 - (3 : Int32)).toUInt32 >>> ((31 : Int32) &&& 31).toUInt32).toInt32).toInt8.toInt32 = (0 : Int32); decide⟩, b10⟩
    · exact ⟨n1, o, b1, b2, b3, v, L, b4, ⟨b5, b6, y, k, vs, 1, _, b7, b8, c1, c2, Or.inr rfl, by show nar .byte (((Int32.ofNat 3 - (6 : Int32)).toUInt32 >>> ((31 : Int32) &&& 31).toUInt32).toInt32).toInt8.toInt32 = (1 : Int32); decide⟩, b10⟩
  | [k0, k1, k2, k3], _, _, V_a, hc =>
    intro p e a1 a2 a3 s m args below a4 a5 a6 a7
    obtain ⟨n1, o, b1, b2, b3, v, L, b4, ⟨b5, b6, y, k, vs, b7, b8, b9⟩, b10⟩ := rm8_4 l Z aw hw ws a0 k0 k1 k2 k3 kc h0 n0 Z0 V_a S__assertionsDisabled S_HI_BYTE_SHIFT S_LO_BYTE_SHIFT (hc k0 (List.mem_of_getElem? (i := 0) rfl)) (hc k1 (List.mem_of_getElem? (i := 1) rfl)) (hc k2 (List.mem_of_getElem? (i := 2) rfl)) (hc k3 (List.mem_of_getElem? (i := 3) rfl)) p e a1 a2 a3 s m args below a4 a5 a6 a7
    rcases b9 with ⟨c1, c2⟩ | ⟨c1, c2⟩
    · exact ⟨n1, o, b1, b2, b3, v, L, b4, ⟨b5, b6, y, k, vs, 0, _, b7, b8, c1, c2, Or.inl rfl, by show nar .byte (((Int32.ofNat 4 - (4 : Int32)).toUInt32 >>> ((31 : Int32) &&& 31).toUInt32).toInt32).toInt8.toInt32 = (0 : Int32); decide⟩, b10⟩
    · exact ⟨n1, o, b1, b2, b3, v, L, b4, ⟨b5, b6, y, k, vs, 1, _, b7, b8, c1, c2, Or.inr rfl, by show nar .byte (((Int32.ofNat 4 - (8 : Int32)).toUInt32 >>> ((31 : Int32) &&& 31).toUInt32).toInt32).toInt8.toInt32 = (1 : Int32); decide⟩, b10⟩
  | _ :: _ :: _ :: _ :: _ :: _, _, h4, _, _ => exact absurd h4 (by simp only [List.length_cons]; omega)


theorem own_ne0 {n : Nat} (h1 : 1 ≤ n) (h4 : n ≤ 4) : ¬ Int32.ofNat n = (0 : Int32) := by
  intro q; have := congrArg Int32.toInt q; rw [Int32.toInt_ofNat_of_lt (by omega), show (0 : Int32).toInt = 0 from rfl] at this; omega

theorem w16 {Z aw} (hw : OwnHW aw Z) : Cond.before (Jvm.Cond.methodLink "java/lang/String" (1 : Nat) ({ cls := "java/lang/Object", name := "<init>", desc := "()V" } : Jvm.MethodName)) aw Z = true := hw _ (List.mem_of_getElem? (i := 16) rfl)
theorem w17 {Z aw} (hw : OwnHW aw Z) : Cond.before (Jvm.Cond.instanceMethod ({ cls := "java/lang/Object", name := "<init>", desc := "()V" } : Jvm.MethodName)) aw Z = true := hw _ (List.mem_of_getElem? (i := 17) rfl)
theorem w18 {Z aw} (hw : OwnHW aw Z) : Cond.before (Jvm.Cond.code ({ cls := "java/lang/Object", name := "<init>", desc := "()V" } : Jvm.MethodName) object_method_1_code (1 : Nat) (Option.none : Option Jvm.ClassFile.FieldType)) aw Z = true := hw _ (List.mem_of_getElem? (i := 18) rfl)
theorem w40 {Z aw} (hw : OwnHW aw Z) : Cond.before (Jvm.Cond.methodLink "java/lang/String" (177 : Nat) ({ cls := "java/lang/StringUTF16", name := "compress", desc := "([CII)[B" } : Jvm.MethodName)) aw Z = true := hw _ (List.mem_of_getElem? (i := 40) rfl)
theorem w43 {Z aw} (hw : OwnHW aw Z) : Cond.before (Jvm.Cond.code ({ cls := "java/lang/StringUTF16", name := "compress", desc := "([CII)[B" } : Jvm.MethodName) jdk_52_method_16_code (6 : Nat) (Option.some (Jvm.ClassFile.FieldType.array Jvm.ClassFile.FieldType.byte))) aw Z = true := hw _ (List.mem_of_getElem? (i := 43) rfl)
theorem w41 {Z aw} (hw : OwnHW aw Z) : Cond.before (Jvm.Cond.static ({ cls := "java/lang/StringUTF16", name := "compress", desc := "([CII)[B" } : Jvm.MethodName)) aw Z = true := hw _ (List.mem_of_getElem? (i := 41) rfl)
theorem w47 {Z aw} (hw : OwnHW aw Z) : Cond.before (Jvm.Cond.methodLink "java/lang/String" (47 : Nat) ({ cls := "java/lang/StringUTF16", name := "coderFromArrayLen", desc := "([BI)B" } : Jvm.MethodName)) aw Z = true := hw _ (List.mem_of_getElem? (i := 47) rfl)
theorem w49 {Z aw} (hw : OwnHW aw Z) : Cond.before (Jvm.Cond.code ({ cls := "java/lang/StringUTF16", name := "coderFromArrayLen", desc := "([BI)B" } : Jvm.MethodName) jdk_52_method_15_code (2 : Nat) (Option.some Jvm.ClassFile.FieldType.byte)) aw Z = true := hw _ (List.mem_of_getElem? (i := 49) rfl)
theorem pd_114 : parseMethodDescriptor "([BI)B" = some ⟨[(.array .byte), .int], some .byte⟩ := by decide +kernel
theorem w48 {Z aw} (hw : OwnHW aw Z) : Cond.before (Jvm.Cond.static ({ cls := "java/lang/StringUTF16", name := "coderFromArrayLen", desc := "([BI)B" } : Jvm.MethodName)) aw Z = true := hw _ (List.mem_of_getElem? (i := 48) rfl)
theorem w22 {Z aw} (hw : OwnHW aw Z) : Cond.before (Jvm.Cond.laysFinal "java/lang/String" "java/lang/String" "coder" "B") aw Z = true := hw _ (List.mem_of_getElem? (i := 22) rfl)
theorem w21 {Z aw} (hw : OwnHW aw Z) : Cond.before (Jvm.Cond.laysFinal "java/lang/String" "java/lang/String" "value" "[B") aw Z = true := hw _ (List.mem_of_getElem? (i := 21) rfl)
theorem d3_0 : decode jdk_42_method_149_code 0 = .ok (.aload_n 0, 1) := by decide +kernel
theorem d3_1 : decode jdk_42_method_149_code 1 = .ok (.invokespecial 1, 3) := by decide +kernel
theorem d3_4 : decode jdk_42_method_149_code 4 = .ok (.iload_n 3, 1) := by decide +kernel
theorem d3_5 : decode jdk_42_method_149_code 5 = .ok (.ifCond .ne 22, 3) := by decide +kernel
theorem d3_27 : decode jdk_42_method_149_code 27 = .ok (.getstatic 38, 3) := by decide +kernel
theorem d3_30 : decode jdk_42_method_149_code 30 = .ok (.ifCond .eq 28, 3) := by decide +kernel
theorem d3_33 : decode jdk_42_method_149_code 33 = .ok (.aload_n 1, 1) := by decide +kernel
theorem d3_34 : decode jdk_42_method_149_code 34 = .ok (.iload_n 2, 1) := by decide +kernel
theorem d3_35 : decode jdk_42_method_149_code 35 = .ok (.iload_n 3, 1) := by decide +kernel
theorem d3_36 : decode jdk_42_method_149_code 36 = .ok (.invokestatic 177, 3) := by decide +kernel
theorem d3_39 : decode jdk_42_method_149_code 39 = .ok (.astore 5, 2) := by decide +kernel
theorem d3_41 : decode jdk_42_method_149_code 41 = .ok (.aload_n 0, 1) := by decide +kernel
theorem d3_42 : decode jdk_42_method_149_code 42 = .ok (.aload 5, 2) := by decide +kernel
theorem d3_44 : decode jdk_42_method_149_code 44 = .ok (.iload_n 3, 1) := by decide +kernel
theorem d3_45 : decode jdk_42_method_149_code 45 = .ok (.invokestatic 47, 3) := by decide +kernel
theorem d3_48 : decode jdk_42_method_149_code 48 = .ok (.putfield 15, 3) := by decide +kernel
theorem d3_51 : decode jdk_42_method_149_code 51 = .ok (.aload_n 0, 1) := by decide +kernel
theorem d3_52 : decode jdk_42_method_149_code 52 = .ok (.aload 5, 2) := by decide +kernel
theorem d3_54 : decode jdk_42_method_149_code 54 = .ok (.putfield 9, 3) := by decide +kernel
theorem d3_57 : decode jdk_42_method_149_code 57 = .ok (.return_, 1) := by decide +kernel
theorem ef_rm3g (m : MethodId) (a0 : Addr) (a1 : Addr) (cs : List Int32) : entryFrame m #[(.ref a0), (.ref a1), (.int (0 : Int32)), (.int (Int32.ofNat cs.length)), .null] 6 = mkF m 0 #[.val (.ref a0), .val (.ref a1), .val (.int (0 : Int32)), .val (.int (Int32.ofNat cs.length)), .val .null, .unset] [] := by first | (simp [entryFrame, mkF, argsToLocals, Value.category]; done) | rfl
def Qrm3g (Z : State) (a0 : Addr) (a1 : Addr) (cs : List Int32) (kc : ClassId) (zc : Int32) (h0 : Heap) (n0 : Nat) (v : Option Value) (h : Heap) (L : List Loc) : Prop := v = none ∧ Fr n0 L ∧ Keep h0 h [a0] ∧ OwnStr Z h a0 cs
set_option maxRecDepth 65536 in
set_option maxHeartbeats 40000000 in
theorem rm3g (l : Launch) (Z : State) (aw : Array Value) (hw : ∀ d ∈ tables_1, d.before aw Z = true) (ws : List Jvm.Cond) (a0 : Addr) (a1 : Addr) (cs : List Int32) (kc : ClassId) (zc : Int32) (h0 : Heap) (n0 : Nat) (Z0 : n0 ≤ h0.size) (h1 : 1 ≤ cs.length) (h4 : cs.length ≤ 4) (E_a0 : Exa Z h0 a0 "java/lang/String") (F_a0_value : Fld Z h0 a0 "java/lang/String" "value" "[B" .null) (F_a0_coder : Fld Z h0 a0 "java/lang/String" "coder" "B" (.int (0 : Int32))) (g_a0 : n0 ≤ a0) (V_a : Arv Z h0 a1 kc .char (Int32.ofNat cs.length) (cs.map Value.int) (.int (0 : Int32))) (hne : a1 ≠ a0) (S_COMPACT_STRINGS : Sta Z h0 "java/lang/String" "COMPACT_STRINGS" "Z" (.int zc)) (hzc : ¬ zc = 0) (S__assertionsDisabled : Sta Z h0 "java/lang/StringUTF16" "$assertionsDisabled" "Z" (.int (1 : Int32))) (S_HI_BYTE_SHIFT : Sta Z h0 "java/lang/StringUTF16" "HI_BYTE_SHIFT" "I" (.int (0 : Int32))) (S_LO_BYTE_SHIFT : Sta Z h0 "java/lang/StringUTF16" "LO_BYTE_SHIFT" "I" (.int (8 : Int32))) (hc : ∀ c ∈ cs, OwnC16 c) :
    MetFree l (⟨"java/lang/String", "<init>", "([CIILjava/lang/Void;)V"⟩ : MethodName) (head1 (Jvm.Cond.code (⟨"java/lang/String", "<init>", "([CIILjava/lang/Void;)V"⟩ : MethodName) jdk_42_method_149_code 6 none :: ws) ({ frames := 4, cells := 2, slots := 12, locals := 57 } : Room)) (fun a U => a = #[(.ref a0), (.ref a1), (.int (0 : Int32)), (.int (Int32.ofNat cs.length)), .null] ∧ Z.Warmed39 U.vm ∧ U.heap = h0) (fun _ _ _ _ _ => True) (fun _ U o U' => ∃ v L, o = .returned v ∧ Qrm3g Z a0 a1 cs kc zc h0 n0 v U'.heap L ∧ FrameEnd U o U' L ({ frames := 4, cells := 2, slots := 12, locals := 57 } : Room).cells ({ frames := 4, cells := 2, slots := 12, locals := 57 } : Room).slots) := by
  refine MetFree.of_bodySF (plainFor_of_name pn_26) hisR ?_
  intro p e s m args below meth c s₁ Bd hml0 hP hK
  obtain ⟨rfl, hZ, hh⟩ := hP
  have hx := Bd.exec
  have hby := Bd.bytes
  have hml : c.maxLocals = 6 := hml0
  have hown : s.vm.findClass "java/lang/String" = some m.cls := findClass_of_methodNamed Bd.named
  have hnm := (name_of_methodNamed Bd.named Bd.method).1
  have X0 : Stand p l e ({ frames := 4, cells := 2, slots := 12, locals := 57 } : Room) s m #[(.ref a0), (.ref a1), (.int (0 : Int32)), (.int (Int32.ofNat cs.length)), .null] below meth c s₁ [] 0 0 := Stand.of_body Bd
  have e0 : s₁.heap = h0 := by rw [← hh, Bd.state]; rfl
  have N0 := Fr.nil n0
  have hlk := Bd.notSynchronized
  show OwnGo p.tables e below _ (s₁.setTop (entryFrame m #[(.ref a0), (.ref a1), (.int (0 : Int32)), (.int (Int32.ofNat cs.length)), .null] 6))
  rw [ef_rm3g m a0 a1 cs]
  have K0 : Keep h0 h0 [a0] := Keep.refl _ _
  have ne1 : a1 ≠ a0 := hne
  show OwnGo p.tables e below _ (s₁.setTop (mkF m 0 #[.val (.ref a0), .val (.ref a1), .val (.int (0 : Int32)), .val (.int (Int32.ofNat cs.length)), .val .null, .unset] []))
  refine OwnGo.of (B := s₁.setTop (mkF m 1 #[.val (.ref a0), .val (.ref a1), .val (.int (0 : Int32)), .val (.int (Int32.ofNat cs.length)), .val .null, .unset] [(.ref a0)])) (fun t k => ?_) ?_
  · show Steps p.tables e below (s₁.setTop (mkF m 0 #[.val (.ref a0), .val (.ref a1), .val (.int (0 : Int32)), .val (.int (Int32.ofNat cs.length)), .val .null, .unset] [])) t
    refine XS.aloadN X0.here hx rfl (hb hby d3_0) rfl rfl ?_
    exact k
  obtain ⟨T1, X1, e1, st1⟩ := initO X0 hx hZ hown (w16 hw) (w17 hw) (w18 hw) e0 (g := (mkF m 1 #[.val (.ref a0), .val (.ref a1), .val (.int (0 : Int32)), .val (.int (Int32.ofNat cs.length)), .val .null, .unset] [(.ref a0)])) rfl (by rw [hml]; rfl) rfl (hb hby d3_1) (by decide) (W := 0) (by show 2 * 0 + _ ≤ _; exact Nat.le_of_eq rfl) (by decide)
  refine OwnGo.of st1 ?_
  show OwnGo p.tables e below _ (T1.setTop (mkF m 4 #[.val (.ref a0), .val (.ref a1), .val (.int (0 : Int32)), .val (.int (Int32.ofNat cs.length)), .val .null, .unset] []))
  refine OwnGo.of (B := T1.setTop (mkF m 5 #[.val (.ref a0), .val (.ref a1), .val (.int (0 : Int32)), .val (.int (Int32.ofNat cs.length)), .val .null, .unset] [(.int (Int32.ofNat cs.length))])) (fun t k => ?_) ?_
  · show Steps p.tables e below (T1.setTop (mkF m 4 #[.val (.ref a0), .val (.ref a1), .val (.int (0 : Int32)), .val (.int (Int32.ofNat cs.length)), .val .null, .unset] [])) t
    refine XS.iloadN X1.here hx rfl (hb hby d3_4) rfl ?_
    exact k
  have hc2 : ¬ ((Int32.ofNat cs.length) = (0 : Int32)) := own_ne0 h1 h4
  refine OwnGo.of (B := T1.setTop (mkF m 27 #[.val (.ref a0), .val (.ref a1), .val (.int (0 : Int32)), .val (.int (Int32.ofNat cs.length)), .val .null, .unset] [])) (fun t k => ?_) ?_
  · show Steps p.tables e below (T1.setTop (mkF m 5 #[.val (.ref a0), .val (.ref a1), .val (.int (0 : Int32)), .val (.int (Int32.ofNat cs.length)), .val .null, .unset] [(.int (Int32.ofNat cs.length))])) t
    refine XS.ifYes X1.here hx rfl (pc0 := 5) (pc' := 27) rfl (hb hby d3_5) rfl ((if0 _ _).trans (feq hc2).2) (by decide) (by decide) ?_
    exact k
  obtain ⟨T3, X3, e3, st3⟩ := getS2 X1 hx hZ hown (host := "") (Or.inl (w39 hw)) Via.refl e1 S_COMPACT_STRINGS (g := (mkF m 27 #[.val (.ref a0), .val (.ref a1), .val (.int (0 : Int32)), .val (.int (Int32.ofNat cs.length)), .val .null, .unset] [])) rfl (hb hby d3_27)
  refine OwnGo.of st3 ?_
  show OwnGo p.tables e below _ (T3.setTop (mkF m 30 #[.val (.ref a0), .val (.ref a1), .val (.int (0 : Int32)), .val (.int (Int32.ofNat cs.length)), .val .null, .unset] [(.int zc)]))
  have hc4 : ¬ (zc = (0 : Int32)) := hzc
  refine OwnGo.of (B := T3.setTop (mkF m 36 #[.val (.ref a0), .val (.ref a1), .val (.int (0 : Int32)), .val (.int (Int32.ofNat cs.length)), .val .null, .unset] [(.int (Int32.ofNat cs.length)), (.int (0 : Int32)), (.ref a1)])) (fun t k => ?_) ?_
  · show Steps p.tables e below (T3.setTop (mkF m 30 #[.val (.ref a0), .val (.ref a1), .val (.int (0 : Int32)), .val (.int (Int32.ofNat cs.length)), .val .null, .unset] [(.int zc)])) t
    refine XS.ifNo X3.here hx rfl (hb hby d3_30) rfl ((if0 _ _).trans (feq hc4).1) ?_
    refine XS.aloadN X3.here hx rfl (hb hby d3_33) rfl rfl ?_
    refine XS.iloadN X3.here hx rfl (hb hby d3_34) rfl ?_
    refine XS.iloadN X3.here hx rfl (hb hby d3_35) rfl ?_
    exact k
  obtain ⟨T5, L5, v5, X5, hQ5, st5⟩ := own_callS X3 hx (y := (⟨"java/lang/StringUTF16", "compress", "([CII)[B"⟩ : MethodName)) hown (mvT hZ (w40 hw)) (mvT hZ (w41 hw)) (mvT hZ (w42 hw)) (mvT hZ (w43 hw)) (by decide) (backOf (W := 0) (rm8 l Z aw hw [] a1 cs kc h0 n0 Z0 h1 h4 V_a S__assertionsDisabled S_HI_BYTE_SHIFT S_LO_BYTE_SHIFT hc) hZ (w43 hw) (w42 hw) (by decide) (by decide)) (g := (mkF m 36 #[.val (.ref a0), .val (.ref a1), .val (.int (0 : Int32)), .val (.int (Int32.ofNat cs.length)), .val .null, .unset] [(.int (Int32.ofNat cs.length)), (.int (0 : Int32)), (.ref a1)])) rfl (by rw [hml]; rfl) (argsL := [(.ref a1), (.int (0 : Int32)), (.int (Int32.ofNat cs.length))]) (rest := []) (lenOf pd_104 rfl) rfl (by show 2 * 0 + _ ≤ _; exact Nat.le_of_eq rfl) (hb hby d3_36) rfl e3 (by decide) (by decide)
  obtain ⟨N5q, K5, y5, kq5, vs5, cd, NN, rfl, gy5, fb, cod, hcd, hnar⟩ := hQ5
  have ne_a0_y5 : a0 ≠ y5 := Nat.ne_of_lt (Nat.lt_of_lt_of_le E_a0.lt gy5)
  have ne_a1_y5 : a1 ≠ y5 := Nat.ne_of_lt (Nat.lt_of_lt_of_le V_a.lt gy5)
  have g_y5 : n0 ≤ y5 := Nat.le_trans Z0 gy5
  have sz_y5 : h0.size ≤ y5 := Nat.le_trans K0.1 gy5
  have f6 := Nat.le_trans Z0 K5.1
  have f7 := K0.trans K5 all0
  have f8 := own_sta_keep S_COMPACT_STRINGS K5 all0
  have f9 := own_sta_keep S__assertionsDisabled K5 all0
  have f10 := own_sta_keep S_HI_BYTE_SHIFT K5 all0
  have f11 := own_sta_keep S_LO_BYTE_SHIFT K5 all0
  have f12 := E_a0.keep K5
  have f13 := F_a0_value.keep K5 nin0
  have f14 := F_a0_coder.keep K5 nin0
  have f15 := V_a.keep K5 nin0
  have N5 := Fr.app N0 N5q
  refine OwnGo.of st5 ?_
  show OwnGo p.tables e below _ (T5.setTop (mkF m 39 #[.val (.ref a0), .val (.ref a1), .val (.int (0 : Int32)), .val (.int (Int32.ofNat cs.length)), .val .null, .unset] [(.ref y5)]))
  refine OwnGo.of (B := T5.setTop (mkF m 45 #[.val (.ref a0), .val (.ref a1), .val (.int (0 : Int32)), .val (.int (Int32.ofNat cs.length)), .val .null, .val (.ref y5)] [(.int (Int32.ofNat cs.length)), (.ref y5), (.ref a0)])) (fun t k => ?_) ?_
  · show Steps p.tables e below (T5.setTop (mkF m 39 #[.val (.ref a0), .val (.ref a1), .val (.int (0 : Int32)), .val (.int (Int32.ofNat cs.length)), .val .null, .unset] [(.ref y5)])) t
    refine XS.astore X5.here hx rfl (hb hby d3_39) rfl rfl (l' := #[.val (.ref a0), .val (.ref a1), .val (.int (0 : Int32)), .val (.int (Int32.ofNat cs.length)), .val .null, .val (.ref y5)]) rfl ?_
    refine XS.aloadN X5.here hx rfl (hb hby d3_41) rfl rfl ?_
    refine XS.aload X5.here hx rfl (hb hby d3_42) rfl rfl ?_
    refine XS.iloadN X5.here hx rfl (hb hby d3_44) rfl ?_
    exact k
  obtain ⟨T16, L16, v16, X16, hQ16, st16⟩ := own_callS X5 hx (y := (⟨"java/lang/StringUTF16", "coderFromArrayLen", "([BI)B"⟩ : MethodName)) hown (mvT hZ (w47 hw)) (mvT hZ (w48 hw)) (mvT hZ (w42 hw)) (mvT hZ (w49 hw)) (by decide) (backOf (W := 1) (rm10 l Z aw hw [] y5 (Int32.ofNat cs.length) kq5 NN vs5 cd T5.heap n0 f6 fb hnar) hZ (w49 hw) (w42 hw) (by decide) (by decide)) (g := (mkF m 45 #[.val (.ref a0), .val (.ref a1), .val (.int (0 : Int32)), .val (.int (Int32.ofNat cs.length)), .val .null, .val (.ref y5)] [(.int (Int32.ofNat cs.length)), (.ref y5), (.ref a0)])) rfl (by rw [hml]; rfl) (argsL := [(.ref y5), (.int (Int32.ofNat cs.length))]) (rest := [(.ref a0)]) (lenOf pd_114 rfl) rfl (by show 2 * 0 + _ ≤ _; exact Nat.le_of_eq rfl) (hb hby d3_45) rfl rfl (by decide) (by decide)
  obtain ⟨rfl, N16q, eq16⟩ := hQ16
  have N16 := Fr.app N5 N16q
  refine OwnGo.of st16 ?_
  show OwnGo p.tables e below _ (T16.setTop (mkF m 48 #[.val (.ref a0), .val (.ref a1), .val (.int (0 : Int32)), .val (.int (Int32.ofNat cs.length)), .val .null, .val (.ref y5)] [(.int cd), (.ref a0)]))
  rcases hcd with rfl | rfl
  · show OwnGo p.tables e below _ (T16.setTop (mkF m 48 #[.val (.ref a0), .val (.ref a1), .val (.int (0 : Int32)), .val (.int (Int32.ofNat cs.length)), .val .null, .val (.ref y5)] [(.int (0 : Int32)), (.ref a0)]))
    obtain ⟨T17, h17, X17, e17, W17, st17⟩ := putFN X16 hx hZ hown (w26 hw) Via.refl eq16 f14 f12 (Or.inr ⟨(w22 hw), rfl, hnm⟩) (w7 hw) (ty := .byte) (v' := (.int (0 : Int32))) (by decide) rfl rfl (g := (mkF m 48 #[.val (.ref a0), .val (.ref a1), .val (.int (0 : Int32)), .val (.int (Int32.ofNat cs.length)), .val .null, .val (.ref y5)] [(.int (0 : Int32)), (.ref a0)])) rfl rfl (hb hby d3_48)
    refine OwnGo.of st17 ?_
    have N17 := Fr.snoc X17 N16 g_a0
    have f18 := Nat.le_trans f6 (Keep.of_wr W17).1
    have f19 := f7.wr W17 (Or.inl (List.mem_of_getElem? (i := 0) rfl))
    have f20 := f8.wr W17
    have f21 := f9.wr W17
    have f22 := f10.wr W17
    have f23 := f11.wr W17
    have f24 := f12.wr W17
    have f25 := f13.other W17 (Or.inr (slot_ne (Or.inr (w21 hw)) (Or.inr (w22 hw)) (by decide) (t := (.array .byte)) (t' := .byte) (by decide) (by decide)))
    have f26 := f15.other W17 ne1
    have f27 := fb.other W17 (Ne.symm ne_a0_y5)
    have f28 : Fld Z h17 a0 "java/lang/String" "coder" "B" (.int (0 : Int32)) := Fld.same W17 f14
    show OwnGo p.tables e below _ (T17.setTop (mkF m 51 #[.val (.ref a0), .val (.ref a1), .val (.int (0 : Int32)), .val (.int (Int32.ofNat cs.length)), .val .null, .val (.ref y5)] []))
    refine OwnGo.of (B := T17.setTop (mkF m 54 #[.val (.ref a0), .val (.ref a1), .val (.int (0 : Int32)), .val (.int (Int32.ofNat cs.length)), .val .null, .val (.ref y5)] [(.ref y5), (.ref a0)])) (fun t k => ?_) ?_
    · show Steps p.tables e below (T17.setTop (mkF m 51 #[.val (.ref a0), .val (.ref a1), .val (.int (0 : Int32)), .val (.int (Int32.ofNat cs.length)), .val .null, .val (.ref y5)] [])) t
      refine XS.aloadN X17.here hx rfl (hb hby d3_51) rfl rfl ?_
      refine XS.aload X17.here hx rfl (hb hby d3_52) rfl rfl ?_
      exact k
    obtain ⟨T29, h29, X29, e29, W29, st29⟩ := putF X17 hx hZ hown (host := "") (Or.inl (w25 hw)) Via.refl e17 f25 f24 (Or.inr ⟨(w21 hw), rfl, hnm⟩) (w7 hw) (ty := (.array .byte)) (by decide) rfl rfl (g := (mkF m 54 #[.val (.ref a0), .val (.ref a1), .val (.int (0 : Int32)), .val (.int (Int32.ofNat cs.length)), .val .null, .val (.ref y5)] [(.ref y5), (.ref a0)])) rfl rfl (hb hby d3_54)
    refine OwnGo.of st29 ?_
    have N29 := Fr.snoc X29 N17 g_a0
    have f30 := Nat.le_trans f18 (Keep.of_wr W29).1
    have f31 := f19.wr W29 (Or.inl (List.mem_of_getElem? (i := 0) rfl))
    have f32 := f20.wr W29
    have f33 := f21.wr W29
    have f34 := f22.wr W29
    have f35 := f23.wr W29
    have f36 := f24.wr W29
    have f37 := f26.other W29 ne1
    have f38 := f27.other W29 (Ne.symm ne_a0_y5)
    have f39 := f28.other W29 (Or.inr (slot_ne (Or.inr (w22 hw)) (Or.inr (w21 hw)) (by decide) (t := .byte) (t' := (.array .byte)) (by decide) (by decide)))
    have f40 : Fld Z h29 a0 "java/lang/String" "value" "[B" (.ref y5) := Fld.same W29 f25
    show OwnGo p.tables e below _ (T29.setTop (mkF m 57 #[.val (.ref a0), .val (.ref a1), .val (.int (0 : Int32)), .val (.int (Int32.ofNat cs.length)), .val .null, .val (.ref y5)] []))
    obtain ⟨fs, hr, hrun, hended, hW, hsame⟩ := X29.leave (v := none) (fun _ => rfl) hlk
    refine ⟨_, _, ?_, hrun, hended, _, _, rfl, ?_, ⟨_, rfl⟩, hW, hsame.mono (by decide) (by decide)⟩
    · show Steps p.tables e below (T29.setTop (mkF m 57 #[.val (.ref a0), .val (.ref a1), .val (.int (0 : Int32)), .val (.int (Int32.ofNat cs.length)), .val .null, .val (.ref y5)] [])) _
      exact X29.returnOut hx Bd.returns (hb hby d3_57) hr
    · show Qrm3g Z a0 a1 cs kc zc h0 n0 _ (T29.setFrames fs).heap _
      rw [show (T29.setFrames fs).heap = h29 from e29]
      exact ⟨rfl, N29, f31, _, _, _, _, _, f36, f40, f39, f38, cod, hc, Nat.le_trans h4 (by decide)⟩
  · show OwnGo p.tables e below _ (T16.setTop (mkF m 48 #[.val (.ref a0), .val (.ref a1), .val (.int (0 : Int32)), .val (.int (Int32.ofNat cs.length)), .val .null, .val (.ref y5)] [(.int (1 : Int32)), (.ref a0)]))
    obtain ⟨T41, h41, X41, e41, W41, st41⟩ := putFN X16 hx hZ hown (w26 hw) Via.refl eq16 f14 f12 (Or.inr ⟨(w22 hw), rfl, hnm⟩) (w7 hw) (ty := .byte) (v' := (.int (1 : Int32))) (by decide) rfl rfl (g := (mkF m 48 #[.val (.ref a0), .val (.ref a1), .val (.int (0 : Int32)), .val (.int (Int32.ofNat cs.length)), .val .null, .val (.ref y5)] [(.int (1 : Int32)), (.ref a0)])) rfl rfl (hb hby d3_48)
    refine OwnGo.of st41 ?_
    have N41 := Fr.snoc X41 N16 g_a0
    have f42 := Nat.le_trans f6 (Keep.of_wr W41).1
    have f43 := f7.wr W41 (Or.inl (List.mem_of_getElem? (i := 0) rfl))
    have f44 := f8.wr W41
    have f45 := f9.wr W41
    have f46 := f10.wr W41
    have f47 := f11.wr W41
    have f48 := f12.wr W41
    have f49 := f13.other W41 (Or.inr (slot_ne (Or.inr (w21 hw)) (Or.inr (w22 hw)) (by decide) (t := (.array .byte)) (t' := .byte) (by decide) (by decide)))
    have f50 := f15.other W41 ne1
    have f51 := fb.other W41 (Ne.symm ne_a0_y5)
    have f52 : Fld Z h41 a0 "java/lang/String" "coder" "B" (.int (1 : Int32)) := Fld.same W41 f14
    show OwnGo p.tables e below _ (T41.setTop (mkF m 51 #[.val (.ref a0), .val (.ref a1), .val (.int (0 : Int32)), .val (.int (Int32.ofNat cs.length)), .val .null, .val (.ref y5)] []))
    refine OwnGo.of (B := T41.setTop (mkF m 54 #[.val (.ref a0), .val (.ref a1), .val (.int (0 : Int32)), .val (.int (Int32.ofNat cs.length)), .val .null, .val (.ref y5)] [(.ref y5), (.ref a0)])) (fun t k => ?_) ?_
    · show Steps p.tables e below (T41.setTop (mkF m 51 #[.val (.ref a0), .val (.ref a1), .val (.int (0 : Int32)), .val (.int (Int32.ofNat cs.length)), .val .null, .val (.ref y5)] [])) t
      refine XS.aloadN X41.here hx rfl (hb hby d3_51) rfl rfl ?_
      refine XS.aload X41.here hx rfl (hb hby d3_52) rfl rfl ?_
      exact k
    obtain ⟨T53, h53, X53, e53, W53, st53⟩ := putF X41 hx hZ hown (host := "") (Or.inl (w25 hw)) Via.refl e41 f49 f48 (Or.inr ⟨(w21 hw), rfl, hnm⟩) (w7 hw) (ty := (.array .byte)) (by decide) rfl rfl (g := (mkF m 54 #[.val (.ref a0), .val (.ref a1), .val (.int (0 : Int32)), .val (.int (Int32.ofNat cs.length)), .val .null, .val (.ref y5)] [(.ref y5), (.ref a0)])) rfl rfl (hb hby d3_54)
    refine OwnGo.of st53 ?_
    have N53 := Fr.snoc X53 N41 g_a0
    have f54 := Nat.le_trans f42 (Keep.of_wr W53).1
    have f55 := f43.wr W53 (Or.inl (List.mem_of_getElem? (i := 0) rfl))
    have f56 := f44.wr W53
    have f57 := f45.wr W53
    have f58 := f46.wr W53
    have f59 := f47.wr W53
    have f60 := f48.wr W53
    have f61 := f50.other W53 ne1
    have f62 := f51.other W53 (Ne.symm ne_a0_y5)
    have f63 := f52.other W53 (Or.inr (slot_ne (Or.inr (w22 hw)) (Or.inr (w21 hw)) (by decide) (t := .byte) (t' := (.array .byte)) (by decide) (by decide)))
    have f64 : Fld Z h53 a0 "java/lang/String" "value" "[B" (.ref y5) := Fld.same W53 f49
    show OwnGo p.tables e below _ (T53.setTop (mkF m 57 #[.val (.ref a0), .val (.ref a1), .val (.int (0 : Int32)), .val (.int (Int32.ofNat cs.length)), .val .null, .val (.ref y5)] []))
    obtain ⟨fs, hr, hrun, hended, hW, hsame⟩ := X53.leave (v := none) (fun _ => rfl) hlk
    refine ⟨_, _, ?_, hrun, hended, _, _, rfl, ?_, ⟨_, rfl⟩, hW, hsame.mono (by decide) (by decide)⟩
    · show Steps p.tables e below (T53.setTop (mkF m 57 #[.val (.ref a0), .val (.ref a1), .val (.int (0 : Int32)), .val (.int (Int32.ofNat cs.length)), .val .null, .val (.ref y5)] [])) _
      exact X53.returnOut hx Bd.returns (hb hby d3_57) hr
    · show Qrm3g Z a0 a1 cs kc zc h0 n0 _ (T53.setFrames fs).heap _
      rw [show (T53.setFrames fs).heap = h53 from e53]
      exact ⟨rfl, N53, f55, _, _, _, _, _, f60, f64, f63, f62, cod, hc, Nat.le_trans h4 (by decide)⟩
theorem w12 {Z aw} (hw : OwnHW aw Z) : Cond.before (Jvm.Cond.methodLink "java/lang/String" (27 : Nat) ({ cls := "java/lang/String", name := "<init>", desc := "([CIILjava/lang/Void;)V" } : Jvm.MethodName)) aw Z = true := hw _ (List.mem_of_getElem? (i := 12) rfl)
theorem w15 {Z aw} (hw : OwnHW aw Z) : Cond.before (Jvm.Cond.code ({ cls := "java/lang/String", name := "<init>", desc := "([CIILjava/lang/Void;)V" } : Jvm.MethodName) jdk_42_method_149_code (6 : Nat) (Option.none : Option Jvm.ClassFile.FieldType)) aw Z = true := hw _ (List.mem_of_getElem? (i := 15) rfl)
theorem pd_120 : parseMethodDescriptor "([CIILjava/lang/Void;)V" = some ⟨[(.array .char), .int, .int, (.object "java/lang/Void")], none⟩ := by decide +kernel
theorem w13 {Z aw} (hw : OwnHW aw Z) : Cond.before (Jvm.Cond.instanceMethod ({ cls := "java/lang/String", name := "<init>", desc := "([CIILjava/lang/Void;)V" } : Jvm.MethodName)) aw Z = true := hw _ (List.mem_of_getElem? (i := 13) rfl)
theorem d2_0 : decode jdk_42_method_3_code 0 = .ok (.aload_n 0, 1) := by decide +kernel
theorem d2_1 : decode jdk_42_method_3_code 1 = .ok (.aload_n 1, 1) := by decide +kernel
theorem d2_2 : decode jdk_42_method_3_code 2 = .ok (.iconst 0, 1) := by decide +kernel
theorem d2_3 : decode jdk_42_method_3_code 3 = .ok (.aload_n 1, 1) := by decide +kernel
theorem d2_4 : decode jdk_42_method_3_code 4 = .ok (.arraylength, 1) := by decide +kernel
theorem d2_5 : decode jdk_42_method_3_code 5 = .ok (.aconst_null, 1) := by decide +kernel
theorem d2_6 : decode jdk_42_method_3_code 6 = .ok (.invokespecial 27, 3) := by decide +kernel
theorem d2_9 : decode jdk_42_method_3_code 9 = .ok (.return_, 1) := by decide +kernel
theorem ef_rm2g (m : MethodId) (a0 : Addr) (a1 : Addr) : entryFrame m #[(.ref a0), (.ref a1)] 2 = mkF m 0 #[.val (.ref a0), .val (.ref a1)] [] := by first | (simp [entryFrame, mkF, argsToLocals, Value.category]; done) | rfl
def Qrm2g (Z : State) (a0 : Addr) (a1 : Addr) (cs : List Int32) (kc : ClassId) (zc : Int32) (h0 : Heap) (n0 : Nat) (v : Option Value) (h : Heap) (L : List Loc) : Prop := v = none ∧ Fr n0 L ∧ Keep h0 h [a0] ∧ OwnStr Z h a0 cs
set_option maxRecDepth 65536 in
set_option maxHeartbeats 40000000 in
theorem rm2g (l : Launch) (Z : State) (aw : Array Value) (hw : ∀ d ∈ tables_1, d.before aw Z = true) (ws : List Jvm.Cond) (a0 : Addr) (a1 : Addr) (cs : List Int32) (kc : ClassId) (zc : Int32) (h0 : Heap) (n0 : Nat) (Z0 : n0 ≤ h0.size) (h1 : 1 ≤ cs.length) (h4 : cs.length ≤ 4) (E_a0 : Exa Z h0 a0 "java/lang/String") (F_a0_value : Fld Z h0 a0 "java/lang/String" "value" "[B" .null) (F_a0_coder : Fld Z h0 a0 "java/lang/String" "coder" "B" (.int (0 : Int32))) (g_a0 : n0 ≤ a0) (V_a : Arv Z h0 a1 kc .char (Int32.ofNat cs.length) (cs.map Value.int) (.int (0 : Int32))) (hne : a1 ≠ a0) (S_COMPACT_STRINGS : Sta Z h0 "java/lang/String" "COMPACT_STRINGS" "Z" (.int zc)) (hzc : ¬ zc = 0) (S__assertionsDisabled : Sta Z h0 "java/lang/StringUTF16" "$assertionsDisabled" "Z" (.int (1 : Int32))) (S_HI_BYTE_SHIFT : Sta Z h0 "java/lang/StringUTF16" "HI_BYTE_SHIFT" "I" (.int (0 : Int32))) (S_LO_BYTE_SHIFT : Sta Z h0 "java/lang/StringUTF16" "LO_BYTE_SHIFT" "I" (.int (8 : Int32))) (hc : ∀ c ∈ cs, OwnC16 c) :
    MetFree l (⟨"java/lang/String", "<init>", "([C)V"⟩ : MethodName) (head1 (Jvm.Cond.code (⟨"java/lang/String", "<init>", "([C)V"⟩ : MethodName) jdk_42_method_3_code 2 none :: ws) ({ frames := 5, cells := 2, slots := 12, locals := 74 } : Room)) (fun a U => a = #[(.ref a0), (.ref a1)] ∧ Z.Warmed39 U.vm ∧ U.heap = h0) (fun _ _ _ _ _ => True) (fun _ U o U' => ∃ v L, o = .returned v ∧ Qrm2g Z a0 a1 cs kc zc h0 n0 v U'.heap L ∧ FrameEnd U o U' L ({ frames := 5, cells := 2, slots := 12, locals := 74 } : Room).cells ({ frames := 5, cells := 2, slots := 12, locals := 74 } : Room).slots) := by
  refine MetFree.of_bodySF (plainFor_of_name pn_26) hisR ?_
  intro p e s m args below meth c s₁ Bd hml0 hP hK
  obtain ⟨rfl, hZ, hh⟩ := hP
  have hx := Bd.exec
  have hby := Bd.bytes
  have hml : c.maxLocals = 2 := hml0
  have hown : s.vm.findClass "java/lang/String" = some m.cls := findClass_of_methodNamed Bd.named
  have hnm := (name_of_methodNamed Bd.named Bd.method).1
  have X0 : Stand p l e ({ frames := 5, cells := 2, slots := 12, locals := 74 } : Room) s m #[(.ref a0), (.ref a1)] below meth c s₁ [] 0 0 := Stand.of_body Bd
  have e0 : s₁.heap = h0 := by rw [← hh, Bd.state]; rfl
  have N0 := Fr.nil n0
  have hlk := Bd.notSynchronized
  show OwnGo p.tables e below _ (s₁.setTop (entryFrame m #[(.ref a0), (.ref a1)] 2))
  rw [ef_rm2g m a0 a1]
  have K0 : Keep h0 h0 [a0] := Keep.refl _ _
  have ne1 : a1 ≠ a0 := hne
  show OwnGo p.tables e below _ (s₁.setTop (mkF m 0 #[.val (.ref a0), .val (.ref a1)] []))
  refine OwnGo.of (B := s₁.setTop (mkF m 4 #[.val (.ref a0), .val (.ref a1)] [(.ref a1), (.int (0 : Int32)), (.ref a1), (.ref a0)])) (fun t k => ?_) ?_
  · show Steps p.tables e below (s₁.setTop (mkF m 0 #[.val (.ref a0), .val (.ref a1)] [])) t
    refine XS.aloadN X0.here hx rfl (hb hby d2_0) rfl rfl ?_
    refine XS.aloadN X0.here hx rfl (hb hby d2_1) rfl rfl ?_
    refine XS.iconst X0.here hx rfl (hb hby d2_2) ?_
    refine XS.aloadN X0.here hx rfl (hb hby d2_3) rfl rfl ?_
    exact k
  have cq1 := V_a
  obtain ⟨clq1, Arq1, qq1, Sq1, Nq1, Hq1, Gq1⟩ := cq1
  refine OwnGo.of (X0.arraylength hx (by rw [e0]; exact Arq1.1) (State.isArrayOf_alike hZ.alike Arq1.2.1) (g := (mkF m 4 #[.val (.ref a0), .val (.ref a1)] [(.ref a1), (.int (0 : Int32)), (.ref a1), (.ref a0)])) rfl rfl (hb hby d2_4)) ?_
  rw [len_of Sq1 Nq1]
  show OwnGo p.tables e below _ (s₁.setTop (mkF m 5 #[.val (.ref a0), .val (.ref a1)] [(.int (Int32.ofNat cs.length)), (.int (0 : Int32)), (.ref a1), (.ref a0)]))
  refine OwnGo.of (B := s₁.setTop (mkF m 6 #[.val (.ref a0), .val (.ref a1)] [.null, (.int (Int32.ofNat cs.length)), (.int (0 : Int32)), (.ref a1), (.ref a0)])) (fun t k => ?_) ?_
  · show Steps p.tables e below (s₁.setTop (mkF m 5 #[.val (.ref a0), .val (.ref a1)] [(.int (Int32.ofNat cs.length)), (.int (0 : Int32)), (.ref a1), (.ref a0)])) t
    refine XS.aconstNull X0.here hx rfl (hb hby d2_5) ?_
    exact k
  obtain ⟨T2, L2, v2, X2, hQ2, st2⟩ := own_callI X0 hx (y := (⟨"java/lang/String", "<init>", "([CIILjava/lang/Void;)V"⟩ : MethodName)) rfl hown (mvT hZ (w12 hw)) (mvT hZ (w13 hw)) (mvT hZ (w15 hw)) (by decide) (backOf (W := 0) (rm3g l Z aw hw [] a0 a1 cs kc zc h0 n0 Z0 h1 h4 E_a0 F_a0_value F_a0_coder g_a0 V_a ne1 S_COMPACT_STRINGS hzc S__assertionsDisabled S_HI_BYTE_SHIFT S_LO_BYTE_SHIFT hc) hZ (w15 hw) (w8 hw) (by decide) (by decide)) (g := (mkF m 6 #[.val (.ref a0), .val (.ref a1)] [.null, (.int (Int32.ofNat cs.length)), (.int (0 : Int32)), (.ref a1), (.ref a0)])) rfl (by rw [hml]; rfl) (a := a0) (argsL := [(.ref a1), (.int (0 : Int32)), (.int (Int32.ofNat cs.length)), .null]) (rest := []) (lenOf pd_120 rfl) rfl (by show 2 * 0 + _ ≤ _; exact Nat.le_of_eq rfl) (hb hby d2_6) rfl e0 (by decide) (by decide)
  obtain ⟨rfl, N2q, K2, SS2⟩ := hQ2
  have f3 := Nat.le_trans Z0 K2.1
  have f4 := K0.trans K2 (allS (Or.inl (List.mem_of_getElem? (i := 0) rfl)) all0)
  have f5 := own_sta_keep S_COMPACT_STRINGS K2 (allS (own_ns_exa E_a0) all0)
  have f6 := own_sta_keep S__assertionsDisabled K2 (allS (own_ns_exa E_a0) all0)
  have f7 := own_sta_keep S_HI_BYTE_SHIFT K2 (allS (own_ns_exa E_a0) all0)
  have f8 := own_sta_keep S_LO_BYTE_SHIFT K2 (allS (own_ns_exa E_a0) all0)
  have f9 := E_a0.keep K2
  have f10 := V_a.keep K2 (ninS ne1 nin0)
  obtain ⟨t_m2, kb_m2, cd_m2, N_m2, vs_m2, E_m2, V_m2, C_m2, K_m2, cod_m2, up_m2, ln_m2⟩ := SS2
  have N2 := Fr.app N0 N2q
  refine OwnGo.of st2 ?_
  show OwnGo p.tables e below _ (T2.setTop (mkF m 9 #[.val (.ref a0), .val (.ref a1)] []))
  obtain ⟨fs, hr, hrun, hended, hW, hsame⟩ := X2.leave (v := none) (fun _ => rfl) hlk
  refine ⟨_, _, ?_, hrun, hended, _, _, rfl, ?_, ⟨_, rfl⟩, hW, hsame.mono (by decide) (by decide)⟩
  · show Steps p.tables e below (T2.setTop (mkF m 9 #[.val (.ref a0), .val (.ref a1)] [])) _
    exact X2.returnOut hx Bd.returns (hb hby d2_9) hr
  · show Qrm2g Z a0 a1 cs kc zc h0 n0 _ (T2.setFrames fs).heap _
    rw [show (T2.setFrames fs).heap = T2.heap from rfl]
    exact ⟨rfl, N2, f4, ⟨_, _, _, _, _, E_m2, V_m2, C_m2, K_m2, cod_m2, up_m2, ln_m2⟩⟩
theorem own_lit_122 : ((∀ c ∈ "".toList, c.toNat < 256) ∧ "".toList.map (fun c => Value.int (Jvm.Lit.byteI c.toNat.toUInt16)) = []) ∧ 4 * "".toList.length ≤ 0 := by refine ⟨⟨by decide +kernel, by rfl⟩, by decide +kernel⟩
theorem d3_8 : decode jdk_42_method_149_code 8 = .ok (.aload_n 0, 1) := by decide +kernel
theorem d3_9 : decode jdk_42_method_149_code 9 = .ok (.ldc 7, 2) := by decide +kernel
theorem d3_11 : decode jdk_42_method_149_code 11 = .ok (.getfield 9, 3) := by decide +kernel
theorem d3_14 : decode jdk_42_method_149_code 14 = .ok (.putfield 9, 3) := by decide +kernel
theorem d3_17 : decode jdk_42_method_149_code 17 = .ok (.aload_n 0, 1) := by decide +kernel
theorem d3_18 : decode jdk_42_method_149_code 18 = .ok (.ldc 7, 2) := by decide +kernel
theorem d3_20 : decode jdk_42_method_149_code 20 = .ok (.getfield 15, 3) := by decide +kernel
theorem d3_23 : decode jdk_42_method_149_code 23 = .ok (.putfield 15, 3) := by decide +kernel
theorem d3_26 : decode jdk_42_method_149_code 26 = .ok (.return_, 1) := by decide +kernel
theorem ef_rm3 (m : MethodId) (a0 : Addr) (a1 : Addr) : entryFrame m #[(.ref a0), (.ref a1), (.int (0 : Int32)), (.int (0 : Int32)), .null] 6 = mkF m 0 #[.val (.ref a0), .val (.ref a1), .val (.int (0 : Int32)), .val (.int (0 : Int32)), .val .null, .unset] [] := by first | (simp [entryFrame, mkF, argsToLocals, Value.category]; done) | rfl
def Qrm3 (Z : State) (a0 : Addr) (a1 : Addr) (h0 : Heap) (n0 : Nat) (v : Option Value) (h : Heap) (L : List Loc) : Prop := v = none ∧ Fr n0 L ∧ Keep h0 h [a0] ∧ Exa Z h a0 "java/lang/String" ∧ Fld Z h a0 "java/lang/String" "coder" "B" (.int (0 : Int32)) ∧ ∃ (t : Addr) (kb : ClassId), Fld Z h a0 "java/lang/String" "value" "[B" (.ref t) ∧ Arv Z h t kb .byte (0 : Int32) [] (.int (0 : Int32))
set_option maxRecDepth 65536 in
set_option maxHeartbeats 40000000 in
theorem rm3 (l : Launch) (Z : State) (aw : Array Value) (hw : ∀ d ∈ tables_1, d.before aw Z = true) (ws : List Jvm.Cond) (a0 : Addr) (a1 : Addr) (h0 : Heap) (n0 : Nat) (Z0 : n0 ≤ h0.size) (E_a0 : Exa Z h0 a0 "java/lang/String") (F_a0_value : Fld Z h0 a0 "java/lang/String" "value" "[B" .null) (F_a0_coder : Fld Z h0 a0 "java/lang/String" "coder" "B" (.int (0 : Int32))) (g_a0 : n0 ≤ a0) :
    MetFree l (⟨"java/lang/String", "<init>", "([CIILjava/lang/Void;)V"⟩ : MethodName) (head1 (Jvm.Cond.code (⟨"java/lang/String", "<init>", "([CIILjava/lang/Void;)V"⟩ : MethodName) jdk_42_method_149_code 6 none :: ws) ({ frames := 1, cells := 4, slots := 8, locals := 12 } : Room)) (fun a U => a = #[(.ref a0), (.ref a1), (.int (0 : Int32)), (.int (0 : Int32)), .null] ∧ Z.Warmed39 U.vm ∧ U.heap = h0 ∧ CHv Z consts_1 U.vm h0 ∧ ∀ x ∈ ([a0] : List Addr), Safe Z consts_1 U.vm h0 x) (fun _ _ _ _ _ => True) (fun _ U o U' => ∃ v L, o = .returned v ∧ Qrm3 Z a0 a1 h0 n0 v U'.heap L ∧ CHr Z consts_1 U.vm U.heap U'.vm U'.heap ∧ ReturnedEndW U o U' L ({ frames := 1, cells := 4, slots := 8, locals := 12 } : Room).cells ({ frames := 1, cells := 4, slots := 8, locals := 12 } : Room).slots) := by
  refine MetFree.of_bodySF (plainFor_of_name pn_26) hisR ?_
  intro p e s m args below meth c s₁ Bd hml0 hP hK
  obtain ⟨rfl, hZ, hh, hC0, hSf⟩ := hP
  have hx := Bd.exec
  have hby := Bd.bytes
  have hml : c.maxLocals = 6 := hml0
  have hown : s.vm.findClass "java/lang/String" = some m.cls := findClass_of_methodNamed Bd.named
  have hnm := (name_of_methodNamed Bd.named Bd.method).1
  have X0 : Stand p l e ({ frames := 1, cells := 4, slots := 8, locals := 12 } : Room) s m #[(.ref a0), (.ref a1), (.int (0 : Int32)), (.int (0 : Int32)), .null] below meth c s₁ [] 0 0 := Stand.of_body Bd
  have e0 : s₁.heap = h0 := by rw [← hh, Bd.state]; rfl
  have N0 := Fr.nil n0
  have hlk := Bd.notSynchronized
  show OwnGo p.tables e below _ (s₁.setTop (entryFrame m #[(.ref a0), (.ref a1), (.int (0 : Int32)), (.int (0 : Int32)), .null] 6))
  rw [ef_rm3 m a0 a1]
  have B0 := OwnB.start s h0
  have C0 := CHr.refl hC0
  have G0_a0 := hSf a0 (List.mem_of_getElem? (i := 0) rfl)
  have K0 : Keep h0 h0 [a0] := Keep.refl _ _
  show OwnGo p.tables e below _ (s₁.setTop (mkF m 0 #[.val (.ref a0), .val (.ref a1), .val (.int (0 : Int32)), .val (.int (0 : Int32)), .val .null, .unset] []))
  refine OwnGo.of (B := s₁.setTop (mkF m 1 #[.val (.ref a0), .val (.ref a1), .val (.int (0 : Int32)), .val (.int (0 : Int32)), .val .null, .unset] [(.ref a0)])) (fun t k => ?_) ?_
  · show Steps p.tables e below (s₁.setTop (mkF m 0 #[.val (.ref a0), .val (.ref a1), .val (.int (0 : Int32)), .val (.int (0 : Int32)), .val .null, .unset] [])) t
    refine XS.aloadN X0.here hx rfl (hb hby d3_0) rfl rfl ?_
    exact k
  obtain ⟨T1, X1, e1, st1⟩ := initO X0 hx hZ hown (w16 hw) (w17 hw) (w18 hw) e0 (g := (mkF m 1 #[.val (.ref a0), .val (.ref a1), .val (.int (0 : Int32)), .val (.int (0 : Int32)), .val .null, .unset] [(.ref a0)])) rfl (by rw [hml]; rfl) rfl (hb hby d3_1) (by decide) (W := 0) (by show 2 * 0 + _ ≤ _; exact Nat.le_of_eq rfl) (by decide)
  refine OwnGo.of st1 ?_
  show OwnGo p.tables e below _ (T1.setTop (mkF m 4 #[.val (.ref a0), .val (.ref a1), .val (.int (0 : Int32)), .val (.int (0 : Int32)), .val .null, .unset] []))
  refine OwnGo.of (B := T1.setTop (mkF m 5 #[.val (.ref a0), .val (.ref a1), .val (.int (0 : Int32)), .val (.int (0 : Int32)), .val .null, .unset] [(.int (0 : Int32))])) (fun t k => ?_) ?_
  · show Steps p.tables e below (T1.setTop (mkF m 4 #[.val (.ref a0), .val (.ref a1), .val (.int (0 : Int32)), .val (.int (0 : Int32)), .val .null, .unset] [])) t
    refine XS.iloadN X1.here hx rfl (hb hby d3_4) rfl ?_
    exact k
  have hc2 : (0 : Int32) = (0 : Int32) := by decide
  refine OwnGo.of (B := T1.setTop (mkF m 9 #[.val (.ref a0), .val (.ref a1), .val (.int (0 : Int32)), .val (.int (0 : Int32)), .val .null, .unset] [(.ref a0)])) (fun t k => ?_) ?_
  · show Steps p.tables e below (T1.setTop (mkF m 5 #[.val (.ref a0), .val (.ref a1), .val (.int (0 : Int32)), .val (.int (0 : Int32)), .val .null, .unset] [(.int (0 : Int32))])) t
    refine XS.ifNo X1.here hx rfl (hb hby d3_5) rfl ((if0 _ _).trans (teq hc2).2) ?_
    refine XS.aloadN X1.here hx rfl (hb hby d3_8) rfl rfl ?_
    exact k
  obtain ⟨s3, b3, T3, h3, t3, kq3, X3, e3, E3, B3, hZ, hown, A3, Fc3, Fv3, Vl3, cs3, ne3, st3⟩ := own_ldc (s := s) X1 hx hZ hown (w19 hw) (own_wS hw) e1 B0 (own_EW hw) (List.mem_of_getElem? (i := 1) rfl) C0.1 own_lit_122.1 (z := (0 : Int32)) (by decide) rfl (g := (mkF m 9 #[.val (.ref a0), .val (.ref a1), .val (.int (0 : Int32)), .val (.int (0 : Int32)), .val .null, .unset] [(.ref a0)])) rfl (hb hby d3_9) (n := 0) own_lit_122.2 (by decide) (by decide) (by decide)
  refine OwnGo.of st3 ?_
  have f4 := Nat.le_trans Z0 E3.1
  have f5 := C0.trans cs3
  have f6 := cs3.safe E_a0.lt G0_a0
  have f7 := K0.ext E3
  have f8 := E_a0.ext E3
  have f9 := F_a0_value.ext E3
  have f10 := F_a0_coder.ext E3
  have nx3_a0 := ne3 _ f6
  show OwnGo p.tables e below _ (T3.setTop (mkF m 11 #[.val (.ref a0), .val (.ref a1), .val (.int (0 : Int32)), .val (.int (0 : Int32)), .val .null, .unset] [(.ref b3), (.ref a0)]))
  obtain ⟨T11, X11, e11, st11⟩ := getF X3 hx hZ hown (host := "") (Or.inl (w25 hw)) Via.refl e3 Fv3 (g := (mkF m 11 #[.val (.ref a0), .val (.ref a1), .val (.int (0 : Int32)), .val (.int (0 : Int32)), .val .null, .unset] [(.ref b3), (.ref a0)])) rfl rfl (hb hby d3_11)
  refine OwnGo.of st11 ?_
  show OwnGo p.tables e below _ (T11.setTop (mkF m 14 #[.val (.ref a0), .val (.ref a1), .val (.int (0 : Int32)), .val (.int (0 : Int32)), .val .null, .unset] [(.ref t3), (.ref a0)]))
  obtain ⟨T12, h12, X12, e12, W12, st12⟩ := putF X11 hx hZ hown (host := "") (Or.inl (w25 hw)) Via.refl e11 f9 f8 (Or.inr ⟨(w21 hw), rfl, hnm⟩) (w7 hw) (ty := (.array .byte)) (by decide) rfl rfl (g := (mkF m 14 #[.val (.ref a0), .val (.ref a1), .val (.int (0 : Int32)), .val (.int (0 : Int32)), .val .null, .unset] [(.ref t3), (.ref a0)])) rfl rfl (hb hby d3_14)
  refine OwnGo.of st12 ?_
  have N12 := Fr.snoc X12 N0 g_a0
  have cs13 := CHr.wr W12 f6 f5.1
  have f14 := Nat.le_trans f4 (Keep.of_wr W12).1
  have f15 := B3.wr W12
  have f16 := f5.trans cs13
  have f17 := cs13.safe f8.lt f6
  have f18 := f7.wr W12 (Or.inl (List.mem_of_getElem? (i := 0) rfl))
  have f19 := f8.wr W12
  have f20 := f10.other W12 (Or.inr (slot_ne (Or.inr (w22 hw)) (Or.inr (w21 hw)) (by decide) (t := .byte) (t' := (.array .byte)) (by decide) (by decide)))
  have f21 := A3.wr W12
  have f22 := Fc3.other W12 (Or.inl (Ne.symm nx3_a0.1))
  have f23 := Fv3.other W12 (Or.inl (Ne.symm nx3_a0.1))
  have f24 := Vl3.other W12 (Ne.symm nx3_a0.2)
  have f25 : Fld Z h12 a0 "java/lang/String" "value" "[B" (.ref t3) := Fld.same W12 f9
  show OwnGo p.tables e below _ (T12.setTop (mkF m 17 #[.val (.ref a0), .val (.ref a1), .val (.int (0 : Int32)), .val (.int (0 : Int32)), .val .null, .unset] []))
  refine OwnGo.of (B := T12.setTop (mkF m 18 #[.val (.ref a0), .val (.ref a1), .val (.int (0 : Int32)), .val (.int (0 : Int32)), .val .null, .unset] [(.ref a0)])) (fun t k => ?_) ?_
  · show Steps p.tables e below (T12.setTop (mkF m 17 #[.val (.ref a0), .val (.ref a1), .val (.int (0 : Int32)), .val (.int (0 : Int32)), .val .null, .unset] [])) t
    refine XS.aloadN X12.here hx rfl (hb hby d3_17) rfl rfl ?_
    exact k
  obtain ⟨s26, b26, T26, h26, t26, kq26, X26, e26, E26, B26, hZ, hown, A26, Fc26, Fv26, Vl26, cs26, ne26, st26⟩ := own_ldc (s := s) X12 hx hZ hown (w19 hw) (own_wS hw) e12 f15 (own_EW hw) (List.mem_of_getElem? (i := 1) rfl) f16.1 own_lit_122.1 (z := (0 : Int32)) (by decide) rfl (g := (mkF m 18 #[.val (.ref a0), .val (.ref a1), .val (.int (0 : Int32)), .val (.int (0 : Int32)), .val .null, .unset] [(.ref a0)])) rfl (hb hby d3_18) (n := 0) own_lit_122.2 (by decide) (by decide) (by decide)
  refine OwnGo.of st26 ?_
  have f27 := Nat.le_trans f14 E26.1
  have f28 := f16.trans cs26
  have f29 := cs26.safe f19.lt f17
  have f30 := f18.ext E26
  have f31 := f19.ext E26
  have f32 := f20.ext E26
  have f33 := f21.ext E26
  have f34 := f22.ext E26
  have f35 := f23.ext E26
  have f36 := f24.ext E26
  have f37 := f25.ext E26
  have nx26_a0 := ne26 _ f29
  show OwnGo p.tables e below _ (T26.setTop (mkF m 20 #[.val (.ref a0), .val (.ref a1), .val (.int (0 : Int32)), .val (.int (0 : Int32)), .val .null, .unset] [(.ref b26), (.ref a0)]))
  obtain ⟨T38, X38, e38, st38⟩ := getF X26 hx hZ hown (host := "") (Or.inl (w26 hw)) Via.refl e26 Fc26 (g := (mkF m 20 #[.val (.ref a0), .val (.ref a1), .val (.int (0 : Int32)), .val (.int (0 : Int32)), .val .null, .unset] [(.ref b26), (.ref a0)])) rfl rfl (hb hby d3_20)
  refine OwnGo.of st38 ?_
  show OwnGo p.tables e below _ (T38.setTop (mkF m 23 #[.val (.ref a0), .val (.ref a1), .val (.int (0 : Int32)), .val (.int (0 : Int32)), .val .null, .unset] [(.int (0 : Int32)), (.ref a0)]))
  obtain ⟨T39, h39, X39, e39, W39, st39⟩ := putFN X38 hx hZ hown (w26 hw) Via.refl e38 f32 f31 (Or.inr ⟨(w22 hw), rfl, hnm⟩) (w7 hw) (ty := .byte) (v' := (.int (0 : Int32))) (by decide) rfl rfl (g := (mkF m 23 #[.val (.ref a0), .val (.ref a1), .val (.int (0 : Int32)), .val (.int (0 : Int32)), .val .null, .unset] [(.int (0 : Int32)), (.ref a0)])) rfl rfl (hb hby d3_23)
  refine OwnGo.of st39 ?_
  have N39 := Fr.snoc X39 N12 g_a0
  have cs40 := CHr.wr W39 f29 f28.1
  have f41 := Nat.le_trans f27 (Keep.of_wr W39).1
  have f42 := B26.wr W39
  have f43 := f28.trans cs40
  have f44 := cs40.safe f31.lt f29
  have f45 := f30.wr W39 (Or.inl (List.mem_of_getElem? (i := 0) rfl))
  have f46 := f31.wr W39
  have f47 := f33.wr W39
  have f48 := f34.other W39 (Or.inl (Ne.symm nx3_a0.1))
  have f49 := f35.other W39 (Or.inl (Ne.symm nx3_a0.1))
  have f50 := f36.other W39 (Ne.symm nx3_a0.2)
  have f51 := f37.other W39 (Or.inr (slot_ne (Or.inr (w21 hw)) (Or.inr (w22 hw)) (by decide) (t := (.array .byte)) (t' := .byte) (by decide) (by decide)))
  have f52 := A26.wr W39
  have f53 := Fc26.other W39 (Or.inl (Ne.symm nx26_a0.1))
  have f54 := Fv26.other W39 (Or.inl (Ne.symm nx26_a0.1))
  have f55 := Vl26.other W39 (Ne.symm nx26_a0.2)
  have f56 : Fld Z h39 a0 "java/lang/String" "coder" "B" (.int (0 : Int32)) := Fld.same W39 f32
  show OwnGo p.tables e below _ (T39.setTop (mkF m 26 #[.val (.ref a0), .val (.ref a1), .val (.int (0 : Int32)), .val (.int (0 : Int32)), .val .null, .unset] []))
  obtain ⟨fs, hr, hrun, hended, hRW⟩ := own_leaveW X39 f42 e39 (v := none) (fun _ => rfl) hlk
  refine ⟨_, _, ?_, hrun, hended, _, _, rfl, ?_, own_endW X39 hZ (own_EW hw) e39 hh f43 fs, own_monoW hRW (by decide) (by decide)⟩
  · show Steps p.tables e below (T39.setTop (mkF m 26 #[.val (.ref a0), .val (.ref a1), .val (.int (0 : Int32)), .val (.int (0 : Int32)), .val .null, .unset] [])) _
    exact X39.returnOut hx Bd.returns (hb hby d3_26) hr
  · show Qrm3 Z a0 a1 h0 n0 _ (T39.setFrames fs).heap _
    rw [show (T39.setFrames fs).heap = h39 from e39]
    exact ⟨rfl, N39, f45, f46, f56, t3, _, f51, f50⟩
theorem ef_rm2 (m : MethodId) (a0 : Addr) (a1 : Addr) : entryFrame m #[(.ref a0), (.ref a1)] 2 = mkF m 0 #[.val (.ref a0), .val (.ref a1)] [] := by first | (simp [entryFrame, mkF, argsToLocals, Value.category]; done) | rfl
def Qrm2 (Z : State) (a0 : Addr) (a1 : Addr) (ka : ClassId) (h0 : Heap) (n0 : Nat) (v : Option Value) (h : Heap) (L : List Loc) : Prop := v = none ∧ Fr n0 L ∧ Keep h0 h [a0] ∧ Exa Z h a0 "java/lang/String" ∧ Fld Z h a0 "java/lang/String" "coder" "B" (.int (0 : Int32)) ∧ ∃ (t : Addr) (kb : ClassId), Fld Z h a0 "java/lang/String" "value" "[B" (.ref t) ∧ Arv Z h t kb .byte (0 : Int32) [] (.int (0 : Int32))
set_option maxRecDepth 65536 in
set_option maxHeartbeats 40000000 in
theorem rm2 (l : Launch) (Z : State) (aw : Array Value) (hw : ∀ d ∈ tables_1, d.before aw Z = true) (ws : List Jvm.Cond) (a0 : Addr) (a1 : Addr) (ka : ClassId) (h0 : Heap) (n0 : Nat) (Z0 : n0 ≤ h0.size) (E_a0 : Exa Z h0 a0 "java/lang/String") (F_a0_value : Fld Z h0 a0 "java/lang/String" "value" "[B" .null) (F_a0_coder : Fld Z h0 a0 "java/lang/String" "coder" "B" (.int (0 : Int32))) (g_a0 : n0 ≤ a0) (V_a : Arv Z h0 a1 ka .char (0 : Int32) [] (.int (0 : Int32))) (hne : a1 ≠ a0) :
    MetFree l (⟨"java/lang/String", "<init>", "([C)V"⟩ : MethodName) (head1 (Jvm.Cond.code (⟨"java/lang/String", "<init>", "([C)V"⟩ : MethodName) jdk_42_method_3_code 2 none :: ws) ({ frames := 2, cells := 4, slots := 8, locals := 29 } : Room)) (fun a U => a = #[(.ref a0), (.ref a1)] ∧ Z.Warmed39 U.vm ∧ U.heap = h0 ∧ CHv Z consts_1 U.vm h0 ∧ ∀ x ∈ ([a0] : List Addr), Safe Z consts_1 U.vm h0 x) (fun _ _ _ _ _ => True) (fun _ U o U' => ∃ v L, o = .returned v ∧ Qrm2 Z a0 a1 ka h0 n0 v U'.heap L ∧ CHr Z consts_1 U.vm U.heap U'.vm U'.heap ∧ ReturnedEndW U o U' L ({ frames := 2, cells := 4, slots := 8, locals := 29 } : Room).cells ({ frames := 2, cells := 4, slots := 8, locals := 29 } : Room).slots) := by
  refine MetFree.of_bodySF (plainFor_of_name pn_26) hisR ?_
  intro p e s m args below meth c s₁ Bd hml0 hP hK
  obtain ⟨rfl, hZ, hh, hC0, hSf⟩ := hP
  have hx := Bd.exec
  have hby := Bd.bytes
  have hml : c.maxLocals = 2 := hml0
  have hown : s.vm.findClass "java/lang/String" = some m.cls := findClass_of_methodNamed Bd.named
  have hnm := (name_of_methodNamed Bd.named Bd.method).1
  have X0 : Stand p l e ({ frames := 2, cells := 4, slots := 8, locals := 29 } : Room) s m #[(.ref a0), (.ref a1)] below meth c s₁ [] 0 0 := Stand.of_body Bd
  have e0 : s₁.heap = h0 := by rw [← hh, Bd.state]; rfl
  have N0 := Fr.nil n0
  have hlk := Bd.notSynchronized
  show OwnGo p.tables e below _ (s₁.setTop (entryFrame m #[(.ref a0), (.ref a1)] 2))
  rw [ef_rm2 m a0 a1]
  have B0 := OwnB.start s h0
  have C0 := CHr.refl hC0
  have G0_a0 := hSf a0 (List.mem_of_getElem? (i := 0) rfl)
  have K0 : Keep h0 h0 [a0] := Keep.refl _ _
  have ne1 : a1 ≠ a0 := hne
  show OwnGo p.tables e below _ (s₁.setTop (mkF m 0 #[.val (.ref a0), .val (.ref a1)] []))
  refine OwnGo.of (B := s₁.setTop (mkF m 4 #[.val (.ref a0), .val (.ref a1)] [(.ref a1), (.int (0 : Int32)), (.ref a1), (.ref a0)])) (fun t k => ?_) ?_
  · show Steps p.tables e below (s₁.setTop (mkF m 0 #[.val (.ref a0), .val (.ref a1)] [])) t
    refine XS.aloadN X0.here hx rfl (hb hby d2_0) rfl rfl ?_
    refine XS.aloadN X0.here hx rfl (hb hby d2_1) rfl rfl ?_
    refine XS.iconst X0.here hx rfl (hb hby d2_2) ?_
    refine XS.aloadN X0.here hx rfl (hb hby d2_3) rfl rfl ?_
    exact k
  have cq1 := V_a
  obtain ⟨clq1, Arq1, qq1, Sq1, Nq1, Hq1, Gq1⟩ := cq1
  refine OwnGo.of (X0.arraylength hx (by rw [e0]; exact Arq1.1) (State.isArrayOf_alike hZ.alike Arq1.2.1) (g := (mkF m 4 #[.val (.ref a0), .val (.ref a1)] [(.ref a1), (.int (0 : Int32)), (.ref a1), (.ref a0)])) rfl rfl (hb hby d2_4)) ?_
  rw [len_of Sq1 Nq1]
  show OwnGo p.tables e below _ (s₁.setTop (mkF m 5 #[.val (.ref a0), .val (.ref a1)] [(.int (0 : Int32)), (.int (0 : Int32)), (.ref a1), (.ref a0)]))
  refine OwnGo.of (B := s₁.setTop (mkF m 6 #[.val (.ref a0), .val (.ref a1)] [.null, (.int (0 : Int32)), (.int (0 : Int32)), (.ref a1), (.ref a0)])) (fun t k => ?_) ?_
  · show Steps p.tables e below (s₁.setTop (mkF m 5 #[.val (.ref a0), .val (.ref a1)] [(.int (0 : Int32)), (.int (0 : Int32)), (.ref a1), (.ref a0)])) t
    refine XS.aconstNull X0.here hx rfl (hb hby d2_5) ?_
    exact k
  obtain ⟨s2, T2, L2, v2, X2, hQ2, B2, hZ, hown, cs2, st2⟩ := own_callIW (s := s) X0 hx (y := (⟨"java/lang/String", "<init>", "([CIILjava/lang/Void;)V"⟩ : MethodName)) rfl hown (mvT hZ (w12 hw)) (mvT hZ (w13 hw)) (mvT hZ (w15 hw)) (by decide) hZ B0 (own_backW (W := 0) (ws := [a0]) (rm3 l Z aw hw [] a0 a1  h0 n0 Z0 E_a0 F_a0_value F_a0_coder g_a0) hZ (w15 hw) (w8 hw) (by decide) (by decide) (own_EW hw) C0.1 (allS ⟨E_a0.lt, G0_a0⟩ all0)) (g := (mkF m 6 #[.val (.ref a0), .val (.ref a1)] [.null, (.int (0 : Int32)), (.int (0 : Int32)), (.ref a1), (.ref a0)])) rfl (by rw [hml]; rfl) (a := a0) (argsL := [(.ref a1), (.int (0 : Int32)), (.int (0 : Int32)), .null]) (rest := []) (lenOf pd_120 rfl) rfl (by show 2 * 0 + _ ≤ _; exact Nat.le_of_eq rfl) (hb hby d2_6) rfl e0 (by decide) (by decide)
  obtain ⟨rfl, N2q, K2, y2E, y2C, t2, kb2, y2V, y2A⟩ := hQ2
  have f3 := Nat.le_trans Z0 K2.1
  have f4 := C0.trans cs2
  have f5 := cs2.safe E_a0.lt G0_a0
  have f6 := K0.trans K2 (allS (Or.inl (List.mem_of_getElem? (i := 0) rfl)) all0)
  have f7 := E_a0.keep K2
  have f8 := V_a.keep K2 (ninS ne1 nin0)
  have N2 := Fr.app N0 N2q
  refine OwnGo.of st2 ?_
  show OwnGo p.tables e below _ (T2.setTop (mkF m 9 #[.val (.ref a0), .val (.ref a1)] []))
  obtain ⟨fs, hr, hrun, hended, hRW⟩ := own_leaveW X2 B2 rfl (v := none) (fun _ => rfl) hlk
  refine ⟨_, _, ?_, hrun, hended, _, _, rfl, ?_, own_endW X2 hZ (own_EW hw) rfl hh f4 fs, own_monoW hRW (by decide) (by decide)⟩
  · show Steps p.tables e below (T2.setTop (mkF m 9 #[.val (.ref a0), .val (.ref a1)] [])) _
    exact X2.returnOut hx Bd.returns (hb hby d2_9) hr
  · show Qrm2 Z a0 a1 ka h0 n0 _ (T2.setFrames fs).heap _
    rw [show (T2.setFrames fs).heap = T2.heap from rfl]
    exact ⟨rfl, N2, f6, y2E, y2C, t2, _, y2V, y2A⟩

def own_tokL (cs : List Int32) : Prop := ¬ cs.length = 0 ∧ ∀ c ∈ cs, own_tok c
instance (cs : List Int32) : Decidable (own_tokL cs) := inferInstanceAs (Decidable (_ ∧ _))
theorem own_c0 {P : Prop} [Decidable P] (h : (if P then (1 : Int32) else (0 : Int32)) = (0 : Int32)) : ¬ P := fun q => by rw [if_pos q] at h; exact absurd h (by decide)
theorem own_c1 {P : Prop} [Decidable P] (h : ¬ (if P then (1 : Int32) else (0 : Int32)) = (0 : Int32)) : P := by
  by_cases q : P
  · exact q
  · rw [if_neg q] at h; exact absurd rfl h
theorem own_allT {cs : List Int32} {i : Nat} (hne : ¬ cs.length = 0) (hik : i + 0 = cs.length) (hall : ∀ q, q < i → own_tok (cs.getD q 0)) : own_tokL cs := by
  refine ⟨hne, fun c hc => ?_⟩
  obtain ⟨q, hq, rfl⟩ := List.getElem_of_mem hc
  have := hall q (by omega)
  rwa [List.getD_eq_getElem?_getD, List.getElem?_eq_getElem hq] at this
theorem own_more {cs : List Int32} {i : Nat} (hall : ∀ q, q < i → own_tok (cs.getD q 0)) (h : own_tok (cs.getD i 0)) : ∀ q, q < i + 1 → own_tok (cs.getD q 0) := fun q hq => by
  by_cases e : q = i
  · rw [e]; exact h
  · exact hall q (by omega)
set_option maxRecDepth 65536 in
theorem own_ix256 : ∀ k : Fin 256, (own_ixf (Int32.ofNat k.val) < (0 : Int32) → ¬ own_sy (Int32.ofNat k.val)) ∧ (¬ own_ixf (Int32.ofNat k.val) < (0 : Int32) → own_sy (Int32.ofNat k.val)) := by decide +kernel
theorem own_ixB {c : Int32} (h : OwnC16 c) : (own_ixf c < (0 : Int32) → ¬ own_sy c) ∧ (¬ own_ixf c < (0 : Int32) → own_sy c) := by
  by_cases h8 : (255 : Int32) < c
  · have e : own_ixf c = -1 := by
      have : own_can c = (0 : Int32) := by unfold own_can; rw [if_neg h.1, if_pos h8]
      rw [own_ixf, if_pos this]
    rw [e]
    refine ⟨fun _ q => ?_, fun q => absurd (by decide) q⟩
    have h8' : (255 : Int32).toInt < c.toInt := Int32.lt_iff_toInt_lt.mp h8
    rw [show (255 : Int32).toInt = 255 from by decide] at h8'
    rcases q with rfl | rfl | rfl | rfl | rfl | rfl | rfl | rfl | rfl | rfl | rfl | rfl | rfl | rfl | rfl <;> exact absurd h8' (by decide)
  · obtain ⟨a1, a2⟩ := (own_c16I c).mp h
    rw [Int32.lt_iff_toInt_lt, show (255 : Int32).toInt = 255 from by decide] at h8
    have e : c = Int32.ofNat c.toInt.toNat := Int32.toInt_inj.mp (by rw [Int32.toInt_ofNat_of_lt (by omega)]; omega)
    rw [e]; exact own_ix256 ⟨c.toInt.toNat, by omega⟩

theorem w31 {Z aw} (hw : OwnHW aw Z) : Cond.before (Jvm.Cond.methodLink "dev/boundaryline/model/HeaderValue" (109 : Nat) ({ cls := "java/lang/String", name := "isEmpty", desc := "()Z" } : Jvm.MethodName)) aw Z = true := hw _ (List.mem_of_getElem? (i := 31) rfl)
theorem w35 {Z aw} (hw : OwnHW aw Z) : Cond.before (Jvm.Cond.code ({ cls := "java/lang/String", name := "isEmpty", desc := "()Z" } : Jvm.MethodName) jdk_42_method_55_code (1 : Nat) (Option.some Jvm.ClassFile.FieldType.boolean)) aw Z = true := hw _ (List.mem_of_getElem? (i := 35) rfl)
theorem w34 {Z aw} (hw : OwnHW aw Z) : Cond.before (Jvm.Cond.selects "java/lang/String" ({ cls := "java/lang/String", name := "isEmpty", desc := "()Z" } : Jvm.MethodName) ({ cls := "java/lang/String", name := "isEmpty", desc := "()Z" } : Jvm.MethodName)) aw Z = true := hw _ (List.mem_of_getElem? (i := 34) rfl)
theorem w32 {Z aw} (hw : OwnHW aw Z) : Cond.before (Jvm.Cond.declares ({ cls := "java/lang/String", name := "isEmpty", desc := "()Z" } : Jvm.MethodName)) aw Z = true := hw _ (List.mem_of_getElem? (i := 32) rfl)
theorem w33 {Z aw} (hw : OwnHW aw Z) : Cond.before (Jvm.Cond.instanceMethod ({ cls := "java/lang/String", name := "isEmpty", desc := "()Z" } : Jvm.MethodName)) aw Z = true := hw _ (List.mem_of_getElem? (i := 33) rfl)
theorem w50 {Z aw} (hw : OwnHW aw Z) : Cond.before (Jvm.Cond.methodLink "dev/boundaryline/model/HeaderValue" (17 : Nat) ({ cls := "java/lang/String", name := "length", desc := "()I" } : Jvm.MethodName)) aw Z = true := hw _ (List.mem_of_getElem? (i := 50) rfl)
theorem w60 {Z aw} (hw : OwnHW aw Z) : Cond.before (Jvm.Cond.methodLink "dev/boundaryline/model/HeaderValue" (38 : Nat) ({ cls := "java/lang/String", name := "charAt", desc := "(I)C" } : Jvm.MethodName)) aw Z = true := hw _ (List.mem_of_getElem? (i := 60) rfl)
theorem w64 {Z aw} (hw : OwnHW aw Z) : Cond.before (Jvm.Cond.code ({ cls := "java/lang/String", name := "charAt", desc := "(I)C" } : Jvm.MethodName) jdk_42_method_56_code (2 : Nat) (Option.some Jvm.ClassFile.FieldType.char)) aw Z = true := hw _ (List.mem_of_getElem? (i := 64) rfl)
theorem pd_131 : parseMethodDescriptor "(I)C" = some ⟨[.int], some .char⟩ := by decide +kernel
theorem w63 {Z aw} (hw : OwnHW aw Z) : Cond.before (Jvm.Cond.selects "java/lang/String" ({ cls := "java/lang/String", name := "charAt", desc := "(I)C" } : Jvm.MethodName) ({ cls := "java/lang/String", name := "charAt", desc := "(I)C" } : Jvm.MethodName)) aw Z = true := hw _ (List.mem_of_getElem? (i := 63) rfl)
theorem w61 {Z aw} (hw : OwnHW aw Z) : Cond.before (Jvm.Cond.declares ({ cls := "java/lang/String", name := "charAt", desc := "(I)C" } : Jvm.MethodName)) aw Z = true := hw _ (List.mem_of_getElem? (i := 61) rfl)
theorem w62 {Z aw} (hw : OwnHW aw Z) : Cond.before (Jvm.Cond.instanceMethod ({ cls := "java/lang/String", name := "charAt", desc := "(I)C" } : Jvm.MethodName)) aw Z = true := hw _ (List.mem_of_getElem? (i := 62) rfl)
theorem w82 {Z aw} (hw : OwnHW aw Z) : Cond.before (Jvm.Cond.methodLink "dev/boundaryline/model/HeaderValue" (113 : Nat) ({ cls := "dev/boundaryline/model/HeaderValue", name := "isAsciiAlphanumeric", desc := "(C)Z" } : Jvm.MethodName)) aw Z = true := hw _ (List.mem_of_getElem? (i := 82) rfl)
theorem w84 {Z aw} (hw : OwnHW aw Z) : Cond.before (Jvm.Cond.code ({ cls := "dev/boundaryline/model/HeaderValue", name := "isAsciiAlphanumeric", desc := "(C)Z" } : Jvm.MethodName) prog_32_method_7_code (1 : Nat) (Option.some Jvm.ClassFile.FieldType.boolean)) aw Z = true := hw _ (List.mem_of_getElem? (i := 84) rfl)
theorem w29 {Z aw} (hw : OwnHW aw Z) : Cond.before (Jvm.Cond.initialized "dev/boundaryline/model/HeaderValue") aw Z = true := hw _ (List.mem_of_getElem? (i := 29) rfl)
theorem pd_138 : parseMethodDescriptor "(C)Z" = some ⟨[.char], some .boolean⟩ := by decide +kernel
theorem w83 {Z aw} (hw : OwnHW aw Z) : Cond.before (Jvm.Cond.static ({ cls := "dev/boundaryline/model/HeaderValue", name := "isAsciiAlphanumeric", desc := "(C)Z" } : Jvm.MethodName)) aw Z = true := hw _ (List.mem_of_getElem? (i := 83) rfl)
theorem own_lit_140 : ((∀ c ∈ "!#$%&'*+-.^_`|~".toList, c.toNat < 256) ∧ "!#$%&'*+-.^_`|~".toList.map (fun c => Value.int (Jvm.Lit.byteI c.toNat.toUInt16)) = [Value.int (33), Value.int (35), Value.int (36), Value.int (37), Value.int (38), Value.int (39), Value.int (42), Value.int (43), Value.int (45), Value.int (46), Value.int (94), Value.int (95), Value.int (96), Value.int (124), Value.int (126)]) ∧ 4 * "!#$%&'*+-.^_`|~".toList.length ≤ 60 := by refine ⟨⟨by decide +kernel, by rfl⟩, by decide +kernel⟩
theorem w86 {Z aw} (hw : OwnHW aw Z) : Cond.before (Jvm.Cond.methodLink "dev/boundaryline/model/HeaderValue" (23 : Nat) ({ cls := "java/lang/String", name := "indexOf", desc := "(I)I" } : Jvm.MethodName)) aw Z = true := hw _ (List.mem_of_getElem? (i := 86) rfl)
theorem w90 {Z aw} (hw : OwnHW aw Z) : Cond.before (Jvm.Cond.code ({ cls := "java/lang/String", name := "indexOf", desc := "(I)I" } : Jvm.MethodName) jdk_42_method_79_code (2 : Nat) (Option.some Jvm.ClassFile.FieldType.int)) aw Z = true := hw _ (List.mem_of_getElem? (i := 90) rfl)
theorem w89 {Z aw} (hw : OwnHW aw Z) : Cond.before (Jvm.Cond.selects "java/lang/String" ({ cls := "java/lang/String", name := "indexOf", desc := "(I)I" } : Jvm.MethodName) ({ cls := "java/lang/String", name := "indexOf", desc := "(I)I" } : Jvm.MethodName)) aw Z = true := hw _ (List.mem_of_getElem? (i := 89) rfl)
theorem w87 {Z aw} (hw : OwnHW aw Z) : Cond.before (Jvm.Cond.declares ({ cls := "java/lang/String", name := "indexOf", desc := "(I)I" } : Jvm.MethodName)) aw Z = true := hw _ (List.mem_of_getElem? (i := 87) rfl)
theorem w88 {Z aw} (hw : OwnHW aw Z) : Cond.before (Jvm.Cond.instanceMethod ({ cls := "java/lang/String", name := "indexOf", desc := "(I)I" } : Jvm.MethodName)) aw Z = true := hw _ (List.mem_of_getElem? (i := 88) rfl)
theorem d5_0 : decode prog_32_method_6_code 0 = .ok (.aload_n 0, 1) := by decide +kernel
theorem d5_1 : decode prog_32_method_6_code 1 = .ok (.invokevirtual 109, 3) := by decide +kernel
theorem d5_4 : decode prog_32_method_6_code 4 = .ok (.ifCond .eq 5, 3) := by decide +kernel
theorem d5_7 : decode prog_32_method_6_code 7 = .ok (.iconst 0, 1) := by decide +kernel
theorem d5_8 : decode prog_32_method_6_code 8 = .ok (.ireturn, 1) := by decide +kernel
theorem d5_9 : decode prog_32_method_6_code 9 = .ok (.iconst 0, 1) := by decide +kernel
theorem d5_10 : decode prog_32_method_6_code 10 = .ok (.istore_n 1, 1) := by decide +kernel
theorem d5_11 : decode prog_32_method_6_code 11 = .ok (.iload_n 1, 1) := by decide +kernel
theorem d5_12 : decode prog_32_method_6_code 12 = .ok (.aload_n 0, 1) := by decide +kernel
theorem d5_13 : decode prog_32_method_6_code 13 = .ok (.invokevirtual 17, 3) := by decide +kernel
theorem d5_16 : decode prog_32_method_6_code 16 = .ok (.if_icmp .ge 33, 3) := by decide +kernel
theorem d5_19 : decode prog_32_method_6_code 19 = .ok (.aload_n 0, 1) := by decide +kernel
theorem d5_20 : decode prog_32_method_6_code 20 = .ok (.iload_n 1, 1) := by decide +kernel
theorem d5_21 : decode prog_32_method_6_code 21 = .ok (.invokevirtual 38, 3) := by decide +kernel
theorem d5_24 : decode prog_32_method_6_code 24 = .ok (.istore_n 2, 1) := by decide +kernel
theorem d5_25 : decode prog_32_method_6_code 25 = .ok (.iload_n 2, 1) := by decide +kernel
theorem d5_26 : decode prog_32_method_6_code 26 = .ok (.invokestatic 113, 3) := by decide +kernel
theorem d5_29 : decode prog_32_method_6_code 29 = .ok (.ifCond .ne 14, 3) := by decide +kernel
theorem d5_32 : decode prog_32_method_6_code 32 = .ok (.ldc 117, 2) := by decide +kernel
theorem d5_34 : decode prog_32_method_6_code 34 = .ok (.iload_n 2, 1) := by decide +kernel
theorem d5_35 : decode prog_32_method_6_code 35 = .ok (.invokevirtual 23, 3) := by decide +kernel
theorem d5_38 : decode prog_32_method_6_code 38 = .ok (.ifCond .ge 5, 3) := by decide +kernel
theorem d5_41 : decode prog_32_method_6_code 41 = .ok (.iconst 0, 1) := by decide +kernel
theorem d5_42 : decode prog_32_method_6_code 42 = .ok (.ireturn, 1) := by decide +kernel
theorem d5_43 : decode prog_32_method_6_code 43 = .ok (.iinc 1 1, 3) := by decide +kernel
theorem d5_46 : decode prog_32_method_6_code 46 = .ok (.goto (-35), 3) := by decide +kernel
theorem d5_49 : decode prog_32_method_6_code 49 = .ok (.iconst 1, 1) := by decide +kernel
theorem d5_50 : decode prog_32_method_6_code 50 = .ok (.ireturn, 1) := by decide +kernel
theorem ef_rm5 (m : MethodId) (a0 : Addr) : entryFrame m #[(.ref a0)] 3 = mkF m 0 #[.val (.ref a0), .unset, .unset] [] := by first | (simp [entryFrame, mkF, argsToLocals, Value.category]; done) | rfl
def Qrm5 (Z : State) (a0 : Addr) (cs : List Int32) (zc : Int32) (fm : Value) (h0 : Heap) (n0 : Nat) (v : Option Value) (h : Heap) (L : List Loc) : Prop := v = some (.int (own_b (own_tokL cs))) ∧ Fr n0 L ∧ Keep h0 h []
set_option maxRecDepth 65536 in
set_option maxHeartbeats 40000000 in
theorem rm5 (l : Launch) (Z : State) (aw : Array Value) (hw : ∀ d ∈ tables_1, d.before aw Z = true) (ws : List Jvm.Cond) (a0 : Addr) (cs : List Int32) (zc : Int32) (fm : Value) (h0 : Heap) (n0 : Nat) (Z0 : n0 ≤ h0.size) (h4 : cs.length ≤ 4) (S_a : OwnStr Z h0 a0 cs) (S_COMPACT_STRINGS : Sta Z h0 "java/lang/String" "COMPACT_STRINGS" "Z" (.int zc)) (hzc : ¬ zc = 0) (S_SIOOBE_FORMATTER : Sta Z h0 "jdk/internal/util/Preconditions" "SIOOBE_FORMATTER" "Ljava/util/function/BiFunction;" fm) (rf : fm.isRef = true) (S__assertionsDisabled : Sta Z h0 "java/lang/StringUTF16" "$assertionsDisabled" "Z" (.int (1 : Int32))) (S_HI_BYTE_SHIFT : Sta Z h0 "java/lang/StringUTF16" "HI_BYTE_SHIFT" "I" (.int (0 : Int32))) (S_LO_BYTE_SHIFT : Sta Z h0 "java/lang/StringUTF16" "LO_BYTE_SHIFT" "I" (.int (8 : Int32))) :
    MetFree l (⟨"dev/boundaryline/model/HeaderValue", "isToken", "(Ljava/lang/String;)Z"⟩ : MethodName) (head1 (Jvm.Cond.code (⟨"dev/boundaryline/model/HeaderValue", "isToken", "(Ljava/lang/String;)Z"⟩ : MethodName) prog_32_method_6_code 3 (some .boolean) :: ws) ({ frames := 5, cells := 8, slots := 256, locals := 66 } : Room)) (fun a U => a = #[(.ref a0)] ∧ Z.Warmed39 U.vm ∧ U.heap = h0 ∧ CHv Z consts_1 U.vm h0 ∧ ∀ x ∈ ([] : List Addr), Safe Z consts_1 U.vm h0 x) (fun _ _ _ _ _ => True) (fun _ U o U' => ∃ v L, o = .returned v ∧ Qrm5 Z a0 cs zc fm h0 n0 v U'.heap L ∧ CHr Z consts_1 U.vm U.heap U'.vm U'.heap ∧ ReturnedEndW U o U' L ({ frames := 5, cells := 8, slots := 256, locals := 66 } : Room).cells ({ frames := 5, cells := 8, slots := 256, locals := 66 } : Room).slots) := by
  refine MetFree.of_bodySF (plainFor_of_name pn_5) hisR ?_
  intro p e s m args below meth c s₁ Bd hml0 hP hK
  obtain ⟨rfl, hZ, hh, hC0, hSf⟩ := hP
  have hx := Bd.exec
  have hby := Bd.bytes
  have hml : c.maxLocals = 3 := hml0
  have hown : s.vm.findClass "dev/boundaryline/model/HeaderValue" = some m.cls := findClass_of_methodNamed Bd.named
  have hnm := (name_of_methodNamed Bd.named Bd.method).1
  have X0 : Stand p l e ({ frames := 5, cells := 8, slots := 256, locals := 66 } : Room) s m #[(.ref a0)] below meth c s₁ [] 0 0 := Stand.of_body Bd
  have e0 : s₁.heap = h0 := by rw [← hh, Bd.state]; rfl
  have N0 := Fr.nil n0
  have hlk := Bd.notSynchronized
  show OwnGo p.tables e below _ (s₁.setTop (entryFrame m #[(.ref a0)] 3))
  rw [ef_rm5 m a0]
  have B0 := OwnB.start s h0
  have C0 := CHr.refl hC0
  have K0 : Keep h0 h0 [] := Keep.refl _ _
  obtain ⟨t_a, kb_a, cd_a, N_a, vs_a, E_a, V_a, C_a, K_a, cod_a, up_a, ln_a⟩ := S_a
  show OwnGo p.tables e below _ (s₁.setTop (mkF m 0 #[.val (.ref a0), .unset, .unset] []))
  refine OwnGo.of (B := s₁.setTop (mkF m 1 #[.val (.ref a0), .unset, .unset] [(.ref a0)])) (fun t k => ?_) ?_
  · show Steps p.tables e below (s₁.setTop (mkF m 0 #[.val (.ref a0), .unset, .unset] [])) t
    refine XS.aloadN X0.here hx rfl (hb hby d5_0) rfl rfl ?_
    exact k
  obtain ⟨cq1, kq1, q1a, q1b, q1c⟩ := isOf hZ e0 E_a
  obtain ⟨T1, L1, v1, X1, hQ1, st1⟩ := own_callV (Q := fun v H L => v = some (.int (if cs.length = 0 then (1 : Int32) else (0 : Int32))) ∧ L = [] ∧ H = h0) (rc := 0) (rs := 0) X0 hx (y := (⟨"java/lang/String", "isEmpty", "()Z"⟩ : MethodName)) (z := (⟨"java/lang/String", "isEmpty", "()Z"⟩ : MethodName)) hown (mvT hZ (w31 hw)) (mvT hZ (w32 hw)) (notFace_of_selects (args := #[]) (mvT hZ (w34 hw))) (mvT hZ (w34 hw)) (mvT hZ (w33 hw)) (by decide) (StrChars.Road.empW (W := 0) hZ (own_wE hw) (kI := 4) (w7 hw) E_a V_a C_a K_a cod_a up_a ln_a (by decide) (by decide)) q1a q1c (g := (mkF m 1 #[.val (.ref a0), .unset, .unset] [(.ref a0)])) rfl (by rw [hml]; rfl) (argsL := []) (rest := []) (lenOf pd_30 rfl) rfl (by show 2 * 0 + _ ≤ _; exact Nat.le_of_eq rfl) (hb hby d5_1) rfl e0 (by decide) (by decide)
  obtain ⟨hv1, rfl, eq1⟩ := hQ1
  subst hv1
  have N1q : Fr n0 ([] : List Loc) := Fr.nil n0
  have N1 := Fr.app N0 N1q
  refine OwnGo.of st1 ?_
  show OwnGo p.tables e below _ (T1.setTop (mkF m 4 #[.val (.ref a0), .unset, .unset] [(.int (if cs.length = 0 then (1 : Int32) else (0 : Int32)))]))
  by_cases hc2 : (if cs.length = 0 then (1 : Int32) else (0 : Int32)) = (0 : Int32)
  · have hemp := own_c0 hc2
    refine OwnGo.of (B := T1.setTop (mkF m 11 #[.val (.ref a0), .val (.int (0 : Int32)), .unset] [])) (fun t k => ?_) ?_
    · show Steps p.tables e below (T1.setTop (mkF m 4 #[.val (.ref a0), .unset, .unset] [(.int (if cs.length = 0 then (1 : Int32) else (0 : Int32)))])) t
      refine XS.ifYes X1.here hx rfl (pc0 := 4) (pc' := 9) rfl (hb hby d5_4) rfl ((if0 _ _).trans (teq hc2).1) (by decide) (by decide) ?_
      refine XS.iconst X1.here hx rfl (hb hby d5_9) ?_
      refine XS.istoreN X1.here hx rfl (hb hby d5_10) rfl (l' := #[.val (.ref a0), .val (.int (0 : Int32)), .unset]) rfl ?_
      exact k
    have loop : ∀ (k i : Nat) (b Tj : State) (Lo : List Loc) (hj : Heap) (Xj : Stand p l e ({ frames := 5, cells := 8, slots := 256, locals := 66 } : Room) b m #[(.ref a0)] below meth c Tj Lo (2 * i) (64 * i)) (ej : Tj.heap = hj) (Nj : Fr n0 Lo) (Zj : n0 ≤ hj.size) (Kj : Keep h0 hj []) (hZ : Z.Warmed39 b.vm) (hown : b.vm.findClass "dev/boundaryline/model/HeaderValue" = some m.cls) (Bj : OwnB s b hj) (Cj : CHr Z consts_1 s.vm h0 b.vm hj) (hik : i + k = cs.length) (hall : ∀ q, q < i → own_tok (cs.getD q 0)) (sl2 : Slot) (hsl2 : One sl2), OwnGo p.tables e below (fun o U' => ∃ v L, o = .returned v ∧ Qrm5 Z a0 cs zc fm h0 n0 v U'.heap L ∧ CHr Z consts_1 s.vm s.heap U'.vm U'.heap ∧ ReturnedEndW s o U' L ({ frames := 5, cells := 8, slots := 256, locals := 66 } : Room).cells ({ frames := 5, cells := 8, slots := 256, locals := 66 } : Room).slots) (Tj.setTop (mkF m 11 #[.val (.ref a0), .val (.int (Int32.ofNat i)), sl2] [])) := by
      intro k
      induction k with
      | zero =>
        intro i b Tj Lo hj Xj ej Nj Zj Kj hZ hown Bj Cj hik hall sl2 hsl2
        have f3 : Sta Z hj "java/lang/String" "COMPACT_STRINGS" "Z" (.int zc) := own_sta_keep S_COMPACT_STRINGS Kj all0
        have f4 : Sta Z hj "jdk/internal/util/Preconditions" "SIOOBE_FORMATTER" "Ljava/util/function/BiFunction;" fm := own_sta_keep S_SIOOBE_FORMATTER Kj all0
        have f5 : Sta Z hj "java/lang/StringUTF16" "$assertionsDisabled" "Z" (.int (1 : Int32)) := own_sta_keep S__assertionsDisabled Kj all0
        have f6 : Sta Z hj "java/lang/StringUTF16" "HI_BYTE_SHIFT" "I" (.int (0 : Int32)) := own_sta_keep S_HI_BYTE_SHIFT Kj all0
        have f7 : Sta Z hj "java/lang/StringUTF16" "LO_BYTE_SHIFT" "I" (.int (8 : Int32)) := own_sta_keep S_LO_BYTE_SHIFT Kj all0
        have f8 : Exa Z hj a0 "java/lang/String" := E_a.keep Kj
        have f9 : Fld Z hj a0 "java/lang/String" "coder" "B" (.int cd_a) := C_a.keep Kj nin0
        have f10 : Fld Z hj a0 "java/lang/String" "value" "[B" (.ref t_a) := V_a.keep Kj nin0
        have f11 : Arv Z hj t_a kb_a .byte N_a vs_a (.int (0 : Int32)) := K_a.keep Kj nin0
        show OwnGo p.tables e below _ (Tj.setTop (mkF m 11 #[.val (.ref a0), .val (.int (Int32.ofNat i)), sl2] []))
        refine OwnGo.of (B := Tj.setTop (mkF m 13 #[.val (.ref a0), .val (.int (Int32.ofNat i)), sl2] [(.ref a0), (.int (Int32.ofNat i))])) (fun t k => ?_) ?_
        · show Steps p.tables e below (Tj.setTop (mkF m 11 #[.val (.ref a0), .val (.int (Int32.ofNat i)), sl2] [])) t
          refine XS.iloadN Xj.here hx rfl (hb hby d5_11) rfl ?_
          refine XS.aloadN Xj.here hx rfl (hb hby d5_12) rfl rfl ?_
          exact k
        obtain ⟨cq12, kq12, q12a, q12b, q12c⟩ := isOf hZ ej f8
        obtain ⟨T12, L12, v12, X12, hQ12, st12⟩ := own_callV (Q := fun v H L => v = some (.int (Int32.ofNat cs.length)) ∧ L = [] ∧ H = hj) (rc := 0) (rs := 0) Xj hx (y := (⟨"java/lang/String", "length", "()I"⟩ : MethodName)) (z := (⟨"java/lang/String", "length", "()I"⟩ : MethodName)) hown (mvT hZ (w50 hw)) (mvT hZ (w51 hw)) (notFace_of_selects (args := #[]) (mvT hZ (w53 hw))) (mvT hZ (w53 hw)) (mvT hZ (w52 hw)) (by decide) (StrChars.Road.lenW (W := 1) hZ (own_wL hw) (kI := 4) (w7 hw) f8 f10 f9 f11 cod_a up_a f3 hzc ln_a (by decide) (by decide)) q12a q12c (g := (mkF m 13 #[.val (.ref a0), .val (.int (Int32.ofNat i)), sl2] [(.ref a0), (.int (Int32.ofNat i))])) rfl (by rw [hml]; rfl) (argsL := []) (rest := [(.int (Int32.ofNat i))]) (lenOf pd_37 rfl) rfl (by show 2 * 0 + _ ≤ _; exact Nat.le_of_eq rfl) (hb hby d5_13) rfl ej (by dsimp only; omega) (by dsimp only; omega)
        obtain ⟨hv12, rfl, eq12⟩ := hQ12
        subst hv12
        have N12q : Fr n0 ([] : List Loc) := Fr.nil n0
        have N12 := Fr.app Nj N12q
        refine OwnGo.of st12 ?_
        show OwnGo p.tables e below _ (T12.setTop (mkF m 16 #[.val (.ref a0), .val (.int (Int32.ofNat i)), sl2] [(.int (Int32.ofNat cs.length)), (.int (Int32.ofNat i))]))
        have hc13 : ¬ ((Int32.ofNat i) < (Int32.ofNat cs.length)) := own_irr hik
        refine OwnGo.of (B := T12.setTop (mkF m 50 #[.val (.ref a0), .val (.int (Int32.ofNat i)), sl2] [(.int (1 : Int32))])) (fun t k => ?_) ?_
        · show Steps p.tables e below (T12.setTop (mkF m 16 #[.val (.ref a0), .val (.int (Int32.ofNat i)), sl2] [(.int (Int32.ofNat cs.length)), (.int (Int32.ofNat i))])) t
          refine XS.icmpYes X12.here hx rfl (pc0 := 16) (pc' := 49) rfl (hb hby d5_16) rfl (flt hc13).2.1 (by decide) (by decide) ?_
          refine XS.iconst X12.here hx rfl (hb hby d5_49) ?_
          exact k
        obtain ⟨fs, hr, hrun, hended, hRW⟩ := own_leaveW X12 Bj eq12 (v := some (.int (nar .boolean (1 : Int32)))) (fun h => by rw [Bd.returns] at h; cases h) hlk
        refine ⟨_, _, ?_, hrun, hended, _, _, rfl, ?_, own_endW X12 hZ (own_EW hw) eq12 hh Cj fs, own_monoW hRW (by dsimp only; omega) (by dsimp only; omega)⟩
        · show Steps p.tables e below (T12.setTop (mkF m 50 #[.val (.ref a0), .val (.int (Int32.ofNat i)), sl2] [(.int (1 : Int32))])) _
          exact retN X12 hx (t := .boolean) Bd.returns (by simp) (hb hby d5_50) hr
        · show Qrm5 Z a0 cs zc fm h0 n0 _ (T12.setFrames fs).heap _
          rw [show (T12.setFrames fs).heap = hj from eq12]
          exact ⟨own_bT (own_allT hemp hik hall), N12, Kj⟩
      | succ k ih =>
        intro i b Tj Lo hj Xj ej Nj Zj Kj hZ hown Bj Cj hik hall sl2 hsl2
        have hi : i < cs.length := by omega
        have f14 : Sta Z hj "java/lang/String" "COMPACT_STRINGS" "Z" (.int zc) := own_sta_keep S_COMPACT_STRINGS Kj all0
        have f15 : Sta Z hj "jdk/internal/util/Preconditions" "SIOOBE_FORMATTER" "Ljava/util/function/BiFunction;" fm := own_sta_keep S_SIOOBE_FORMATTER Kj all0
        have f16 : Sta Z hj "java/lang/StringUTF16" "$assertionsDisabled" "Z" (.int (1 : Int32)) := own_sta_keep S__assertionsDisabled Kj all0
        have f17 : Sta Z hj "java/lang/StringUTF16" "HI_BYTE_SHIFT" "I" (.int (0 : Int32)) := own_sta_keep S_HI_BYTE_SHIFT Kj all0
        have f18 : Sta Z hj "java/lang/StringUTF16" "LO_BYTE_SHIFT" "I" (.int (8 : Int32)) := own_sta_keep S_LO_BYTE_SHIFT Kj all0
        have f19 : Exa Z hj a0 "java/lang/String" := E_a.keep Kj
        have f20 : Fld Z hj a0 "java/lang/String" "coder" "B" (.int cd_a) := C_a.keep Kj nin0
        have f21 : Fld Z hj a0 "java/lang/String" "value" "[B" (.ref t_a) := V_a.keep Kj nin0
        have f22 : Arv Z hj t_a kb_a .byte N_a vs_a (.int (0 : Int32)) := K_a.keep Kj nin0
        show OwnGo p.tables e below _ (Tj.setTop (mkF m 11 #[.val (.ref a0), .val (.int (Int32.ofNat i)), sl2] []))
        refine OwnGo.of (B := Tj.setTop (mkF m 13 #[.val (.ref a0), .val (.int (Int32.ofNat i)), sl2] [(.ref a0), (.int (Int32.ofNat i))])) (fun t k => ?_) ?_
        · show Steps p.tables e below (Tj.setTop (mkF m 11 #[.val (.ref a0), .val (.int (Int32.ofNat i)), sl2] [])) t
          refine XS.iloadN Xj.here hx rfl (hb hby d5_11) rfl ?_
          refine XS.aloadN Xj.here hx rfl (hb hby d5_12) rfl rfl ?_
          exact k
        obtain ⟨cq23, kq23, q23a, q23b, q23c⟩ := isOf hZ ej f19
        obtain ⟨T23, L23, v23, X23, hQ23, st23⟩ := own_callV (Q := fun v H L => v = some (.int (Int32.ofNat cs.length)) ∧ L = [] ∧ H = hj) (rc := 0) (rs := 0) Xj hx (y := (⟨"java/lang/String", "length", "()I"⟩ : MethodName)) (z := (⟨"java/lang/String", "length", "()I"⟩ : MethodName)) hown (mvT hZ (w50 hw)) (mvT hZ (w51 hw)) (notFace_of_selects (args := #[]) (mvT hZ (w53 hw))) (mvT hZ (w53 hw)) (mvT hZ (w52 hw)) (by decide) (StrChars.Road.lenW (W := 1) hZ (own_wL hw) (kI := 4) (w7 hw) f19 f21 f20 f22 cod_a up_a f14 hzc ln_a (by decide) (by decide)) q23a q23c (g := (mkF m 13 #[.val (.ref a0), .val (.int (Int32.ofNat i)), sl2] [(.ref a0), (.int (Int32.ofNat i))])) rfl (by rw [hml]; rfl) (argsL := []) (rest := [(.int (Int32.ofNat i))]) (lenOf pd_37 rfl) rfl (by show 2 * 0 + _ ≤ _; exact Nat.le_of_eq rfl) (hb hby d5_13) rfl ej (by dsimp only; omega) (by dsimp only; omega)
        obtain ⟨hv23, rfl, eq23⟩ := hQ23
        subst hv23
        have N23q : Fr n0 ([] : List Loc) := Fr.nil n0
        have N23 := Fr.app Nj N23q
        refine OwnGo.of st23 ?_
        show OwnGo p.tables e below _ (T23.setTop (mkF m 16 #[.val (.ref a0), .val (.int (Int32.ofNat i)), sl2] [(.int (Int32.ofNat cs.length)), (.int (Int32.ofNat i))]))
        have hc24 : (Int32.ofNat i) < (Int32.ofNat cs.length) := own_ofltN hi ln_a
        refine OwnGo.of (B := T23.setTop (mkF m 21 #[.val (.ref a0), .val (.int (Int32.ofNat i)), sl2] [(.int (Int32.ofNat i)), (.ref a0)])) (fun t k => ?_) ?_
        · show Steps p.tables e below (T23.setTop (mkF m 16 #[.val (.ref a0), .val (.int (Int32.ofNat i)), sl2] [(.int (Int32.ofNat cs.length)), (.int (Int32.ofNat i))])) t
          refine XS.icmpNo X23.here hx rfl (hb hby d5_16) rfl (tlt hc24).2.1 ?_
          refine XS.aloadN X23.here hx rfl (hb hby d5_19) rfl rfl ?_
          refine XS.iloadN X23.here hx rfl (hb hby d5_20) rfl ?_
          exact k
        obtain ⟨cq25, kq25, q25a, q25b, q25c⟩ := isOf hZ eq23 f19
        obtain ⟨T25, L25, v25, X25, hQ25, st25⟩ := own_callV X23 hx (y := (⟨"java/lang/String", "charAt", "(I)C"⟩ : MethodName)) (z := (⟨"java/lang/String", "charAt", "(I)C"⟩ : MethodName)) hown (mvT hZ (w60 hw)) (mvT hZ (w61 hw)) (notFace_of_selects (args := #[]) (mvT hZ (w63 hw))) (mvT hZ (w63 hw)) (mvT hZ (w62 hw)) (by decide) (backOf (W := 0) (rm13 l Z aw hw [] a0 i cs zc fm hj n0 Zj ⟨_, _, _, _, _, f19, f21, f20, f22, cod_a, up_a, ln_a⟩ hi f14 hzc f15 rf f16 f17 f18) hZ (w64 hw) (w8 hw) (by decide) (by decide)) q25a q25c (g := (mkF m 21 #[.val (.ref a0), .val (.int (Int32.ofNat i)), sl2] [(.int (Int32.ofNat i)), (.ref a0)])) rfl (by rw [hml]; rfl) (argsL := [(.int (Int32.ofNat i))]) (rest := []) (lenOf pd_131 rfl) rfl (by show 2 * 0 + _ ≤ _; exact Nat.le_of_eq rfl) (hb hby d5_21) rfl eq23 (by dsimp only; omega) (by dsimp only; omega)
        obtain ⟨rfl, N25q, eq25⟩ := hQ25
        have N25 := Fr.app N23 N25q
        refine OwnGo.of st25 ?_
        show OwnGo p.tables e below _ (T25.setTop (mkF m 24 #[.val (.ref a0), .val (.int (Int32.ofNat i)), sl2] [(.int (cs.getD i 0))]))
        refine OwnGo.of (B := T25.setTop (mkF m 26 #[.val (.ref a0), .val (.int (Int32.ofNat i)), .val (.int (cs.getD i 0))] [(.int (cs.getD i 0))])) (fun t k => ?_) ?_
        · show Steps p.tables e below (T25.setTop (mkF m 24 #[.val (.ref a0), .val (.int (Int32.ofNat i)), sl2] [(.int (cs.getD i 0))])) t
          refine XS.istoreNS X25.here hx rfl (hb hby d5_24) rfl rfl hsl2 ?_
          refine XS.iloadN X25.here hx rfl (hb hby d5_25) rfl ?_
          exact k
        obtain ⟨T26, L26, v26, X26, hQ26, st26⟩ := own_callS X25 hx (y := (⟨"dev/boundaryline/model/HeaderValue", "isAsciiAlphanumeric", "(C)Z"⟩ : MethodName)) hown (mvT hZ (w82 hw)) (mvT hZ (w83 hw)) (mvT hZ (w29 hw)) (mvT hZ (w84 hw)) (by decide) (backOf (W := 0) (rm18 l Z aw hw [] (cs.getD i 0)  hj n0 Zj ) hZ (w84 hw) (w29 hw) (by decide) (by decide)) (g := (mkF m 26 #[.val (.ref a0), .val (.int (Int32.ofNat i)), .val (.int (cs.getD i 0))] [(.int (cs.getD i 0))])) rfl (by rw [hml]; rfl) (argsL := [(.int (cs.getD i 0))]) (rest := []) (lenOf pd_138 rfl) rfl (by show 2 * 0 + _ ≤ _; exact Nat.le_of_eq rfl) (hb hby d5_26) rfl eq25 (by dsimp only; omega) (by dsimp only; omega)
        obtain ⟨rfl, N26q, eq26⟩ := hQ26
        have N26 := Fr.app N25 N26q
        refine OwnGo.of st26 ?_
        show OwnGo p.tables e below _ (T26.setTop (mkF m 29 #[.val (.ref a0), .val (.int (Int32.ofNat i)), .val (.int (cs.getD i 0))] [(.int (own_b (own_al (cs.getD i 0))))]))
        by_cases hc27 : (own_b (own_al (cs.getD i 0))) = (0 : Int32)
        · refine OwnGo.of (B := T26.setTop (mkF m 32 #[.val (.ref a0), .val (.int (Int32.ofNat i)), .val (.int (cs.getD i 0))] [])) (fun t k => ?_) ?_
          · show Steps p.tables e below (T26.setTop (mkF m 29 #[.val (.ref a0), .val (.int (Int32.ofNat i)), .val (.int (cs.getD i 0))] [(.int (own_b (own_al (cs.getD i 0))))])) t
            refine XS.ifNo X26.here hx rfl (hb hby d5_29) rfl ((if0 _ _).trans (teq hc27).2) ?_
            exact k
          obtain ⟨s28, b28, T28, h28, t28, kq28, X28, e28, E28, B28, hZ, hown, A28, Fc28, Fv28, Vl28, cs28, ne28, st28⟩ := own_ldc (s := s) X26 hx hZ hown (w85 hw) (own_wS hw) eq26 Bj (own_EW hw) (List.mem_of_getElem? (i := 0) rfl) Cj.1 own_lit_140.1 (z := (15 : Int32)) (by decide) rfl (g := (mkF m 32 #[.val (.ref a0), .val (.int (Int32.ofNat i)), .val (.int (cs.getD i 0))] [])) rfl (hb hby d5_32) (n := 60) own_lit_140.2 (by decide) (by dsimp only; omega) (by dsimp only; omega)
          refine OwnGo.of st28 ?_
          have f29 := Nat.le_trans Zj E28.1
          have f30 := Kj.ext E28
          have f31 := Cj.trans cs28
          have f32 := f14.ext E28
          have f33 := f15.ext E28
          have f34 := f16.ext E28
          have f35 := f17.ext E28
          have f36 := f18.ext E28
          have f37 := f19.ext E28
          have f38 := f20.ext E28
          have f39 := f21.ext E28
          have f40 := f22.ext E28
          show OwnGo p.tables e below _ (T28.setTop (mkF m 34 #[.val (.ref a0), .val (.int (Int32.ofNat i)), .val (.int (cs.getD i 0))] [(.ref b28)]))
          have f41 : Arv Z h28 t28 kq28 .byte (15 : Int32) (own_SY.map Value.int) (.int (0 : Int32)) := Vl28
          refine OwnGo.of (B := T28.setTop (mkF m 35 #[.val (.ref a0), .val (.int (Int32.ofNat i)), .val (.int (cs.getD i 0))] [(.int (cs.getD i 0)), (.ref b28)])) (fun t k => ?_) ?_
          · show Steps p.tables e below (T28.setTop (mkF m 34 #[.val (.ref a0), .val (.int (Int32.ofNat i)), .val (.int (cs.getD i 0))] [(.ref b28)])) t
            refine XS.iloadN X28.here hx rfl (hb hby d5_34) rfl ?_
            exact k
          obtain ⟨cq42, kq42, q42a, q42b, q42c⟩ := isOf hZ e28 A28
          obtain ⟨T42, L42, v42, X42, hQ42, st42⟩ := own_callV X28 hx (y := (⟨"java/lang/String", "indexOf", "(I)I"⟩ : MethodName)) (z := (⟨"java/lang/String", "indexOf", "(I)I"⟩ : MethodName)) hown (mvT hZ (w86 hw)) (mvT hZ (w87 hw)) (notFace_of_selects (args := #[]) (mvT hZ (w89 hw))) (mvT hZ (w89 hw)) (mvT hZ (w88 hw)) (by decide) (backOf (W := 0) (rm19 l Z aw hw [] b28 (cs.getD i 0) t28 kq28 zc h28 n0 f29 A28 Fc28 Fv28 f41 f32 hzc) hZ (w90 hw) (w8 hw) (by decide) (by decide)) q42a q42c (g := (mkF m 35 #[.val (.ref a0), .val (.int (Int32.ofNat i)), .val (.int (cs.getD i 0))] [(.int (cs.getD i 0)), (.ref b28)])) rfl (by rw [hml]; rfl) (argsL := [(.int (cs.getD i 0))]) (rest := []) (lenOf pd_87 rfl) rfl (by show 2 * 0 + _ ≤ _; exact Nat.le_of_eq rfl) (hb hby d5_35) rfl e28 (by dsimp only; omega) (by dsimp only; omega)
          obtain ⟨rfl, N42q, eq42⟩ := hQ42
          have N42 := Fr.app N26 N42q
          refine OwnGo.of st42 ?_
          show OwnGo p.tables e below _ (T42.setTop (mkF m 38 #[.val (.ref a0), .val (.int (Int32.ofNat i)), .val (.int (cs.getD i 0))] [(.int (own_ixf (cs.getD i 0)))]))
          by_cases hc43 : (own_ixf (cs.getD i 0)) < (0 : Int32)
          · refine OwnGo.of (B := T42.setTop (mkF m 42 #[.val (.ref a0), .val (.int (Int32.ofNat i)), .val (.int (cs.getD i 0))] [(.int (0 : Int32))])) (fun t k => ?_) ?_
            · show Steps p.tables e below (T42.setTop (mkF m 38 #[.val (.ref a0), .val (.int (Int32.ofNat i)), .val (.int (cs.getD i 0))] [(.int (own_ixf (cs.getD i 0)))])) t
              refine XS.ifNo X42.here hx rfl (hb hby d5_38) rfl ((if0 _ _).trans (tlt hc43).2.1) ?_
              refine XS.iconst X42.here hx rfl (hb hby d5_41) ?_
              exact k
            obtain ⟨fs, hr, hrun, hended, hRW⟩ := own_leaveW X42 B28 eq42 (v := some (.int (nar .boolean (0 : Int32)))) (fun h => by rw [Bd.returns] at h; cases h) hlk
            refine ⟨_, _, ?_, hrun, hended, _, _, rfl, ?_, own_endW X42 hZ (own_EW hw) eq42 hh f31 fs, own_monoW hRW (by dsimp only; omega) (by dsimp only; omega)⟩
            · show Steps p.tables e below (T42.setTop (mkF m 42 #[.val (.ref a0), .val (.int (Int32.ofNat i)), .val (.int (cs.getD i 0))] [(.int (0 : Int32))])) _
              exact retN X42 hx (t := .boolean) Bd.returns (by simp) (hb hby d5_42) hr
            · show Qrm5 Z a0 cs zc fm h0 n0 _ (T42.setFrames fs).heap _
              rw [show (T42.setFrames fs).heap = h28 from eq42]
              exact ⟨own_bF (fun q => (q.2 _ (own_gm hi)).elim (own_b0 hc27) ((own_ixB (up_a _ (own_gm hi))).1 hc43)), N42, f30⟩
          · refine OwnGo.of (B := T42.setTop (mkF m 11 #[.val (.ref a0), .val (.int ((Int32.ofNat i) + (1 : Int32))), .val (.int (cs.getD i 0))] [])) (fun t k => ?_) ?_
            · show Steps p.tables e below (T42.setTop (mkF m 38 #[.val (.ref a0), .val (.int (Int32.ofNat i)), .val (.int (cs.getD i 0))] [(.int (own_ixf (cs.getD i 0)))])) t
              refine XS.ifYes X42.here hx rfl (pc0 := 38) (pc' := 43) rfl (hb hby d5_38) rfl ((if0 _ _).trans (flt hc43).2.1) (by decide) (by decide) ?_
              refine XS.iinc X42.here hx rfl (hb hby d5_43) rfl (l' := #[.val (.ref a0), .val (.int ((Int32.ofNat i) + (1 : Int32))), .val (.int (cs.getD i 0))]) rfl ?_
              refine XS.goto X42.here hx rfl (pc0 := 46) (pc' := 11) rfl (hb hby d5_46) (by decide) (by decide) ?_
              exact k
            rw [own_suc]
            exact ih (i + 1) s28 T42 _ _ (X42.more (by dsimp only; omega) (by dsimp only; omega)) eq42 N42 f29 f30 hZ hown B28 f31 (by omega) (own_more hall (Or.inr ((own_ixB (up_a _ (own_gm hi))).2 hc43))) _ (One.val rfl)
        · refine OwnGo.of (B := T26.setTop (mkF m 11 #[.val (.ref a0), .val (.int ((Int32.ofNat i) + (1 : Int32))), .val (.int (cs.getD i 0))] [])) (fun t k => ?_) ?_
          · show Steps p.tables e below (T26.setTop (mkF m 29 #[.val (.ref a0), .val (.int (Int32.ofNat i)), .val (.int (cs.getD i 0))] [(.int (own_b (own_al (cs.getD i 0))))])) t
            refine XS.ifYes X26.here hx rfl (pc0 := 29) (pc' := 43) rfl (hb hby d5_29) rfl ((if0 _ _).trans (feq hc27).2) (by decide) (by decide) ?_
            refine XS.iinc X26.here hx rfl (hb hby d5_43) rfl (l' := #[.val (.ref a0), .val (.int ((Int32.ofNat i) + (1 : Int32))), .val (.int (cs.getD i 0))]) rfl ?_
            refine XS.goto X26.here hx rfl (pc0 := 46) (pc' := 11) rfl (hb hby d5_46) (by decide) (by decide) ?_
            exact k
          rw [own_suc]
          exact ih (i + 1) b T26 _ _ (X26.more (by dsimp only; omega) (by dsimp only; omega)) eq26 N26 Zj Kj hZ hown Bj Cj (by omega) (own_more hall (Or.inl (own_b1 hc27))) _ (One.val rfl)
    exact loop cs.length 0 s T1 _ _ X1 eq1 N1 Z0 K0 hZ hown B0 C0 (Nat.zero_add _) (fun q hq => absurd hq (Nat.not_lt_zero q)) _ One.u
  · have hemp := own_c1 hc2
    refine OwnGo.of (B := T1.setTop (mkF m 8 #[.val (.ref a0), .unset, .unset] [(.int (0 : Int32))])) (fun t k => ?_) ?_
    · show Steps p.tables e below (T1.setTop (mkF m 4 #[.val (.ref a0), .unset, .unset] [(.int (if cs.length = 0 then (1 : Int32) else (0 : Int32)))])) t
      refine XS.ifNo X1.here hx rfl (hb hby d5_4) rfl ((if0 _ _).trans (feq hc2).1) ?_
      refine XS.iconst X1.here hx rfl (hb hby d5_7) ?_
      exact k
    obtain ⟨fs, hr, hrun, hended, hRW⟩ := own_leaveW X1 B0 eq1 (v := some (.int (nar .boolean (0 : Int32)))) (fun h => by rw [Bd.returns] at h; cases h) hlk
    refine ⟨_, _, ?_, hrun, hended, _, _, rfl, ?_, own_endW X1 hZ (own_EW hw) eq1 hh C0 fs, own_monoW hRW (by decide) (by decide)⟩
    · show Steps p.tables e below (T1.setTop (mkF m 8 #[.val (.ref a0), .unset, .unset] [(.int (0 : Int32))])) _
      exact retN X1 hx (t := .boolean) Bd.returns (by simp) (hb hby d5_8) hr
    · show Qrm5 Z a0 cs zc fm h0 n0 _ (T1.setFrames fs).heap _
      rw [show (T1.setFrames fs).heap = h0 from eq1]
      exact ⟨own_bF (fun q => q.1 hemp), N1, K0⟩

theorem own_drawC (x : Int32) : OwnC16 (own_draw x) := by
  unfold own_draw
  split
  · exact own_c16 _
  · exact own_c16 _
theorem own_ix5 (x : Int32) : (x &&& (2147483647 : Int32)) % (5 : Int32) = 0 ∨ (x &&& (2147483647 : Int32)) % (5 : Int32) = 1 ∨ (x &&& (2147483647 : Int32)) % (5 : Int32) = 2 ∨ (x &&& (2147483647 : Int32)) % (5 : Int32) = 3 ∨ (x &&& (2147483647 : Int32)) % (5 : Int32) = 4 := by
  have h1 := c_mask x 2147483647 31 (by decide) (by decide)
  have h2 := (c_irem (x &&& 2147483647) 5 5 (by decide)).1
  have : ((x &&& (2147483647 : Int32)) % (5 : Int32)).toInt = 0 ∨ ((x &&& (2147483647 : Int32)) % (5 : Int32)).toInt = 1 ∨ ((x &&& (2147483647 : Int32)) % (5 : Int32)).toInt = 2 ∨ ((x &&& (2147483647 : Int32)) % (5 : Int32)).toInt = 3 ∨ ((x &&& (2147483647 : Int32)) % (5 : Int32)).toInt = 4 := by omega
  rcases this with z | z | z | z | z
  · exact Or.inl (Int32.toInt_inj.mp (z.trans (by decide)))
  · exact Or.inr (Or.inl (Int32.toInt_inj.mp (z.trans (by decide))))
  · exact Or.inr (Or.inr (Or.inl (Int32.toInt_inj.mp (z.trans (by decide)))))
  · exact Or.inr (Or.inr (Or.inr (Or.inl (Int32.toInt_inj.mp (z.trans (by decide))))))
  · exact Or.inr (Or.inr (Or.inr (Or.inr (Int32.toInt_inj.mp (z.trans (by decide))))))
theorem own_eT {p : Prop} [Decidable p] (h : p) : own_b p = (1 : Int32) := if_pos h
theorem own_eF {p : Prop} [Decidable p] (h : ¬ p) : own_b p = (0 : Int32) := if_neg h

theorem w6 {Z aw} (hw : OwnHW aw Z) : Cond.before (Jvm.Cond.classLink "dev/boundaryline/model/HeaderValueIsTokenPinLaw" (18 : Nat) "java/lang/String") aw Z = true := hw _ (List.mem_of_getElem? (i := 6) rfl)
theorem w9 {Z aw} (hw : OwnHW aw Z) : Cond.before (Jvm.Cond.methodLink "dev/boundaryline/model/HeaderValueIsTokenPinLaw" (20 : Nat) ({ cls := "java/lang/String", name := "<init>", desc := "([C)V" } : Jvm.MethodName)) aw Z = true := hw _ (List.mem_of_getElem? (i := 9) rfl)
theorem w11 {Z aw} (hw : OwnHW aw Z) : Cond.before (Jvm.Cond.code ({ cls := "java/lang/String", name := "<init>", desc := "([C)V" } : Jvm.MethodName) jdk_42_method_3_code (2 : Nat) (Option.none : Option Jvm.ClassFile.FieldType)) aw Z = true := hw _ (List.mem_of_getElem? (i := 11) rfl)
theorem pd_149 : parseMethodDescriptor "([C)V" = some ⟨[(.array .char)], none⟩ := by decide +kernel
theorem w10 {Z aw} (hw : OwnHW aw Z) : Cond.before (Jvm.Cond.instanceMethod ({ cls := "java/lang/String", name := "<init>", desc := "([C)V" } : Jvm.MethodName)) aw Z = true := hw _ (List.mem_of_getElem? (i := 10) rfl)
theorem w27 {Z aw} (hw : OwnHW aw Z) : Cond.before (Jvm.Cond.methodLink "dev/boundaryline/model/HeaderValueIsTokenPinLaw" (23 : Nat) ({ cls := "dev/boundaryline/model/HeaderValue", name := "isToken", desc := "(Ljava/lang/String;)Z" } : Jvm.MethodName)) aw Z = true := hw _ (List.mem_of_getElem? (i := 27) rfl)
theorem w30 {Z aw} (hw : OwnHW aw Z) : Cond.before (Jvm.Cond.code ({ cls := "dev/boundaryline/model/HeaderValue", name := "isToken", desc := "(Ljava/lang/String;)Z" } : Jvm.MethodName) prog_32_method_6_code (3 : Nat) (Option.some Jvm.ClassFile.FieldType.boolean)) aw Z = true := hw _ (List.mem_of_getElem? (i := 30) rfl)
theorem pd_153 : parseMethodDescriptor "(Ljava/lang/String;)Z" = some ⟨[(.object "java/lang/String")], some .boolean⟩ := by decide +kernel
theorem w28 {Z aw} (hw : OwnHW aw Z) : Cond.before (Jvm.Cond.static ({ cls := "dev/boundaryline/model/HeaderValue", name := "isToken", desc := "(Ljava/lang/String;)Z" } : Jvm.MethodName)) aw Z = true := hw _ (List.mem_of_getElem? (i := 28) rfl)
theorem w5 {Z aw} (hw : OwnHW aw Z) : Cond.before (Jvm.Cond.arrayClass Jvm.ClassFile.FieldType.char) aw Z = true := hw _ (List.mem_of_getElem? (i := 5) rfl)
theorem w36 {Z aw} (hw : OwnHW aw Z) : Cond.before (Jvm.Cond.methodLink "dev/boundaryline/model/HeaderValueIsTokenPinLaw" (14 : Nat) ({ cls := "dev/boundaryline/model/HeaderValueIsTokenPinLaw", name := "tokenChar", desc := "(C)Z" } : Jvm.MethodName)) aw Z = true := hw _ (List.mem_of_getElem? (i := 36) rfl)
theorem w38 {Z aw} (hw : OwnHW aw Z) : Cond.before (Jvm.Cond.code ({ cls := "dev/boundaryline/model/HeaderValueIsTokenPinLaw", name := "tokenChar", desc := "(C)Z" } : Jvm.MethodName) method_4_code (1 : Nat) (Option.some Jvm.ClassFile.FieldType.boolean)) aw Z = true := hw _ (List.mem_of_getElem? (i := 38) rfl)
theorem w3 {Z aw} (hw : OwnHW aw Z) : Cond.before (Jvm.Cond.initialized "dev/boundaryline/model/HeaderValueIsTokenPinLaw") aw Z = true := hw _ (List.mem_of_getElem? (i := 3) rfl)
theorem w37 {Z aw} (hw : OwnHW aw Z) : Cond.before (Jvm.Cond.static ({ cls := "dev/boundaryline/model/HeaderValueIsTokenPinLaw", name := "tokenChar", desc := "(C)Z" } : Jvm.MethodName)) aw Z = true := hw _ (List.mem_of_getElem? (i := 37) rfl)
theorem w0 {Z aw} (hw : OwnHW aw Z) : Cond.before (Jvm.Cond.constant "dev/boundaryline/model/HeaderValueIsTokenPinLaw" (7 : Nat) (2147483647 : Int32)) aw Z = true := hw _ (List.mem_of_getElem? (i := 0) rfl)
theorem w1 {Z aw} (hw : OwnHW aw Z) : Cond.before (Jvm.Cond.methodLink "dev/boundaryline/model/HeaderValueIsTokenPinLaw" (8 : Nat) ({ cls := "dev/boundaryline/model/HeaderValueIsTokenPinLaw", name := "draw", desc := "(I)C" } : Jvm.MethodName)) aw Z = true := hw _ (List.mem_of_getElem? (i := 1) rfl)
theorem w4 {Z aw} (hw : OwnHW aw Z) : Cond.before (Jvm.Cond.code ({ cls := "dev/boundaryline/model/HeaderValueIsTokenPinLaw", name := "draw", desc := "(I)C" } : Jvm.MethodName) method_3_code (1 : Nat) (Option.some Jvm.ClassFile.FieldType.char)) aw Z = true := hw _ (List.mem_of_getElem? (i := 4) rfl)
theorem w2 {Z aw} (hw : OwnHW aw Z) : Cond.before (Jvm.Cond.static ({ cls := "dev/boundaryline/model/HeaderValueIsTokenPinLaw", name := "draw", desc := "(I)C" } : Jvm.MethodName)) aw Z = true := hw _ (List.mem_of_getElem? (i := 2) rfl)
theorem ef_rm0 (m : MethodId) (p0 : Int32) (p1 : Int32) (p2 : Int32) (p3 : Int32) (p4 : Int32) : entryFrame m #[(.int p0), (.int p1), (.int p2), (.int p3), (.int p4)] maxLocals = mkF m 0 #[.val (.int p0), .val (.int p1), .val (.int p2), .val (.int p3), .val (.int p4), .unset, .unset, .unset, .unset, .unset, .unset, .unset] [] := by first | (simp [entryFrame, mkF, argsToLocals, Value.category, maxLocals]; done) | rfl
def Qrm0 (Z : State) (p0 : Int32) (p1 : Int32) (p2 : Int32) (p3 : Int32) (p4 : Int32) (zc : Int32) (fm : Value) (h0 : Heap) (n0 : Nat) (v : Option Value) (h : Heap) (L : List Loc) : Prop := v = some (.int 1) ∧ Fr n0 L
set_option maxRecDepth 65536 in
set_option maxHeartbeats 40000000 in
theorem rm0 (l : Launch) (Z : State) (aw : Array Value) (hw : ∀ d ∈ tables_1, d.before aw Z = true) (ws : List Jvm.Cond) (p0 : Int32) (p1 : Int32) (p2 : Int32) (p3 : Int32) (p4 : Int32) (zc : Int32) (fm : Value) (h0 : Heap) (n0 : Nat) (Z0 : n0 ≤ h0.size) (S_COMPACT_STRINGS : Sta Z h0 "java/lang/String" "COMPACT_STRINGS" "Z" (.int zc)) (hzc : ¬ zc = 0) (S_SIOOBE_FORMATTER : Sta Z h0 "jdk/internal/util/Preconditions" "SIOOBE_FORMATTER" "Ljava/util/function/BiFunction;" fm) (rf : fm.isRef = true) (S__assertionsDisabled : Sta Z h0 "java/lang/StringUTF16" "$assertionsDisabled" "Z" (.int (1 : Int32))) (S_HI_BYTE_SHIFT : Sta Z h0 "java/lang/StringUTF16" "HI_BYTE_SHIFT" "I" (.int (0 : Int32))) (S_LO_BYTE_SHIFT : Sta Z h0 "java/lang/StringUTF16" "LO_BYTE_SHIFT" "I" (.int (8 : Int32))) :
    MetFree l x (head1 (Jvm.Cond.code x code maxLocals ret :: ws) room_1) (fun a U => a = #[(.int p0), (.int p1), (.int p2), (.int p3), (.int p4)] ∧ Z.Warmed39 U.vm ∧ U.heap = h0 ∧ CHv Z consts_1 U.vm h0 ∧ ∀ x ∈ ([] : List Addr), Safe Z consts_1 U.vm h0 x) (fun _ _ _ _ _ => True) (fun _ U o U' => ∃ v L, o = .returned v ∧ Qrm0 Z p0 p1 p2 p3 p4 zc fm h0 n0 v U'.heap L ∧ CHr Z consts_1 U.vm U.heap U'.vm U'.heap ∧ ReturnedEndW U o U' L room_1.cells room_1.slots) := by
  refine MetFree.of_bodySF (plainFor_of_name pn_4) hisR ?_
  intro p e s m args below meth c s₁ Bd hml0 hP hK
  obtain ⟨rfl, hZ, hh, hC0, hSf⟩ := hP
  have hx := Bd.exec
  have hby := Bd.bytes
  have hml : c.maxLocals = 12 := hml0
  have hown : s.vm.findClass "dev/boundaryline/model/HeaderValueIsTokenPinLaw" = some m.cls := findClass_of_methodNamed Bd.named
  have hnm := (name_of_methodNamed Bd.named Bd.method).1
  have X0 : Stand p l e room_1 s m #[(.int p0), (.int p1), (.int p2), (.int p3), (.int p4)] below meth c s₁ [] 0 0 := Stand.of_body Bd
  have e0 : s₁.heap = h0 := by rw [← hh, Bd.state]; rfl
  have N0 := Fr.nil n0
  have hlk := Bd.notSynchronized
  show OwnGo p.tables e below _ (s₁.setTop (entryFrame m #[(.int p0), (.int p1), (.int p2), (.int p3), (.int p4)] maxLocals))
  rw [ef_rm0 m p0 p1 p2 p3 p4]
  have B0 := OwnB.start s h0
  have C0 := CHr.refl hC0
  have K0 : Keep h0 h0 [] := Keep.refl _ _
  have J205_g : ∀ (l0 l1 l2 l3 l4 l5 l6 l7 l8 l9 : Slot) (Tj : State) (Lo : List Loc) (hj : Heap) (bA : Addr) (ka : ClassId) (k0 k1 k2 k3 : Int32) (Xj : Stand p l e room_1 s m #[(.int p0), (.int p1), (.int p2), (.int p3), (.int p4)] below meth c Tj Lo 1 4) (ej : Tj.heap = hj) (Nj : Fr n0 Lo) (Zj : n0 ≤ hj.size) (Kj : Keep h0 hj []) (Bj : OwnB s s hj) (Cj : CHr Z consts_1 s.vm h0 s.vm hj) (hc0 : OwnC16 k0) (hc1 : OwnC16 k1) (hc2 : OwnC16 k2) (hc3 : OwnC16 k3) (cs : List Int32) (Vj : Arv Z hj bA ka .char (Int32.ofNat cs.length) (cs.map Value.int) (.int (0 : Int32))) (hc : ∀ c ∈ cs, OwnC16 c) (h1 : 1 ≤ cs.length) (h4 : cs.length ≤ 4) (ex : Int32) (hr : own_b (own_tokL cs) = ex), OwnGo p.tables e below (fun o U' => ∃ v L, o = .returned v ∧ Qrm0 Z p0 p1 p2 p3 p4 zc fm h0 n0 v U'.heap L ∧ CHr Z consts_1 s.vm s.heap U'.vm U'.heap ∧ ReturnedEndW s o U' L room_1.cells room_1.slots) (Tj.setTop (mkF m 205 #[l0, l1, l2, l3, l4, l5, l6, l7, l8, l9, .val (.ref bA), .val (.int ex)] [])) := by
    intro l0 l1 l2 l3 l4 l5 l6 l7 l8 l9 Tj Lo hj bA ka k0 k1 k2 k3 Xj ej Nj Zj Kj Bj Cj hc0 hc1 hc2 hc3 cs Vj hc h1 h4 ex hr
    have f1 : Sta Z hj "java/lang/String" "COMPACT_STRINGS" "Z" (.int zc) := own_sta_keep S_COMPACT_STRINGS Kj all0
    have f2 : Sta Z hj "jdk/internal/util/Preconditions" "SIOOBE_FORMATTER" "Ljava/util/function/BiFunction;" fm := own_sta_keep S_SIOOBE_FORMATTER Kj all0
    have f3 : Sta Z hj "java/lang/StringUTF16" "$assertionsDisabled" "Z" (.int (1 : Int32)) := own_sta_keep S__assertionsDisabled Kj all0
    have f4 : Sta Z hj "java/lang/StringUTF16" "HI_BYTE_SHIFT" "I" (.int (0 : Int32)) := own_sta_keep S_HI_BYTE_SHIFT Kj all0
    have f5 : Sta Z hj "java/lang/StringUTF16" "LO_BYTE_SHIFT" "I" (.int (8 : Int32)) := own_sta_keep S_LO_BYTE_SHIFT Kj all0
    show OwnGo p.tables e below _ (Tj.setTop (mkF m 205 #[l0, l1, l2, l3, l4, l5, l6, l7, l8, l9, .val (.ref bA), .val (.int ex)] []))
    obtain ⟨T6, h6, X6, e6, E6, A6, D6, -, st6⟩ := newO Xj hx hZ hown (w6 hw) (w7 hw) (w8 hw) ej (g := (mkF m 205 #[l0, l1, l2, l3, l4, l5, l6, l7, l8, l9, .val (.ref bA), .val (.int ex)] [])) rfl (hb hby at_205) (by decide) (by decide)
    obtain ⟨b6, g6⟩ : ∃ z, z = hj.size := ⟨_, rfl⟩
    rw [← g6] at A6 D6 st6
    refine OwnGo.of st6 ?_
    have ne_bA_b6 : bA ≠ b6 := Nat.ne_of_lt (Nat.lt_of_lt_of_le Vj.lt (Nat.le_of_eq g6.symm))
    have gn_b6 : Safe Z consts_1 s.vm h6 b6 := Safe.ext E6 Cj.1 (Safe.new (Nat.le_of_eq g6.symm))
    have g_b6 : n0 ≤ b6 := Nat.le_trans Zj (Nat.le_of_eq g6.symm)
    have sz_b6 : h0.size ≤ b6 := Nat.le_trans Kj.1 (Nat.le_of_eq g6.symm)
    have cs7 := CHr.ext E6 Cj.1
    have f8 := Nat.le_trans Zj E6.1
    have f9 := Kj.ext E6
    have f10 := Bj.ext E6
    have f11 := Cj.trans cs7
    have f12 := Vj.ext E6
    have f13 := f1.ext E6
    have f14 := f2.ext E6
    have f15 := f3.ext E6
    have f16 := f4.ext E6
    have f17 := f5.ext E6
    have f18 : Fld Z h6 b6 "java/lang/String" "value" "[B" .null := D6 (Or.inr (w21 hw)) (ty := (.array .byte)) (by decide)
    have f19 : Fld Z h6 b6 "java/lang/String" "coder" "B" (.int (0 : Int32)) := D6 (Or.inr (w22 hw)) (ty := .byte) (by decide)
    show OwnGo p.tables e below _ (T6.setTop (mkF m 208 #[l0, l1, l2, l3, l4, l5, l6, l7, l8, l9, .val (.ref bA), .val (.int ex)] [(.ref b6)]))
    refine OwnGo.of (B := T6.setTop (mkF m 211 #[l0, l1, l2, l3, l4, l5, l6, l7, l8, l9, .val (.ref bA), .val (.int ex)] [(.ref bA), (.ref b6), (.ref b6)])) (fun t k => ?_) ?_
    · show Steps p.tables e below (T6.setTop (mkF m 208 #[l0, l1, l2, l3, l4, l5, l6, l7, l8, l9, .val (.ref bA), .val (.int ex)] [(.ref b6)])) t
      refine XS.dup X6.here hx rfl (hb hby at_208) rfl rfl ?_
      refine XS.aload X6.here hx rfl (hb hby at_209) rfl rfl ?_
      exact k
    obtain ⟨T20, L20, v20, X20, hQ20, st20⟩ := own_callI X6 hx (y := (⟨"java/lang/String", "<init>", "([C)V"⟩ : MethodName)) rfl hown (mvT hZ (w9 hw)) (mvT hZ (w10 hw)) (mvT hZ (w11 hw)) (by decide) (backOf (W := 1) (rm2g l Z aw hw [] b6 bA cs ka zc h6 n0 f8 h1 h4 A6 f18 f19 g_b6 f12 ne_bA_b6 f13 hzc f15 f16 f17 hc) hZ (w11 hw) (w8 hw) (by decide) (by decide)) (g := (mkF m 211 #[l0, l1, l2, l3, l4, l5, l6, l7, l8, l9, .val (.ref bA), .val (.int ex)] [(.ref bA), (.ref b6), (.ref b6)])) rfl (by rw [hml]; rfl) (a := b6) (argsL := [(.ref bA)]) (rest := [(.ref b6)]) (lenOf pd_149 rfl) rfl (by show 2 * 0 + _ ≤ _; exact Nat.le_of_eq rfl) (hb hby at_211) rfl e6 (by decide) (by decide)
    obtain ⟨rfl, N20q, K20, SS20⟩ := hQ20
    have cs21 := CHr.keep K20 (allS gn_b6 all0) f11.1
    have f22 := Nat.le_trans f8 K20.1
    have f23 := f9.trans K20 (allS (Or.inr sz_b6) all0)
    have f24 := f10.keep K20
    have f25 := f11.trans cs21
    have f26 := f12.keep K20 (ninS ne_bA_b6 nin0)
    have f27 := own_sta_keep f13 K20 (allS (own_ns_exa A6) all0)
    have f28 := own_sta_keep f14 K20 (allS (own_ns_exa A6) all0)
    have f29 := own_sta_keep f15 K20 (allS (own_ns_exa A6) all0)
    have f30 := own_sta_keep f16 K20 (allS (own_ns_exa A6) all0)
    have f31 := own_sta_keep f17 K20 (allS (own_ns_exa A6) all0)
    have f32 := cs21.safe A6.lt gn_b6
    have f33 := A6.keep K20
    obtain ⟨t_m20, kb_m20, cd_m20, N_m20, vs_m20, E_m20, V_m20, C_m20, K_m20, cod_m20, up_m20, ln_m20⟩ := SS20
    have N20 := Fr.app Nj N20q
    refine OwnGo.of st20 ?_
    show OwnGo p.tables e below _ (T20.setTop (mkF m 214 #[l0, l1, l2, l3, l4, l5, l6, l7, l8, l9, .val (.ref bA), .val (.int ex)] [(.ref b6)]))
    obtain ⟨s34, T34, L34, v34, X34, hQ34, B34, hZ, hown, cs34, st34⟩ := own_callSW (s := s) X20 hx (y := (⟨"dev/boundaryline/model/HeaderValue", "isToken", "(Ljava/lang/String;)Z"⟩ : MethodName)) hown (mvT hZ (w27 hw)) (mvT hZ (w28 hw)) (mvT hZ (w29 hw)) (mvT hZ (w30 hw)) (by decide) hZ f24 (own_backW (W := 0) (ws := []) (rm5 l Z aw hw [] b6 cs zc fm T20.heap n0 f22 h4 ⟨_, _, _, _, _, E_m20, V_m20, C_m20, K_m20, cod_m20, up_m20, ln_m20⟩ f27 hzc f28 rf f29 f30 f31) hZ (w30 hw) (w29 hw) (by decide) (by decide) (own_EW hw) f25.1 all0) (g := (mkF m 214 #[l0, l1, l2, l3, l4, l5, l6, l7, l8, l9, .val (.ref bA), .val (.int ex)] [(.ref b6)])) rfl (by rw [hml]; rfl) (argsL := [(.ref b6)]) (rest := []) (lenOf pd_153 rfl) rfl (by show 2 * 0 + _ ≤ _; exact Nat.le_of_eq rfl) (hb hby at_214) rfl rfl (by decide) (by decide)
    obtain ⟨rfl, N34q, K34⟩ := hQ34
    have f35 := Nat.le_trans f22 K34.1
    have f36 := f23.trans K34 all0
    have f37 := f25.trans cs34
    have f38 := f26.keep K34 nin0
    have f39 := own_sta_keep f27 K34 all0
    have f40 := own_sta_keep f28 K34 all0
    have f41 := own_sta_keep f29 K34 all0
    have f42 := own_sta_keep f30 K34 all0
    have f43 := own_sta_keep f31 K34 all0
    have f44 := cs34.safe E_m20.lt f32
    have f45 := E_m20.keep K34
    have f46 := C_m20.keep K34 nin0
    have f47 := V_m20.keep K34 nin0
    have f48 := K_m20.keep K34 nin0
    have N34 := Fr.app N20 N34q
    refine OwnGo.of st34 ?_
    show OwnGo p.tables e below _ (T34.setTop (mkF m 217 #[l0, l1, l2, l3, l4, l5, l6, l7, l8, l9, .val (.ref bA), .val (.int ex)] [(.int (own_b (own_tokL cs)))]))
    refine OwnGo.of (B := T34.setTop (mkF m 219 #[l0, l1, l2, l3, l4, l5, l6, l7, l8, l9, .val (.ref bA), .val (.int ex)] [(.int ex), (.int (own_b (own_tokL cs)))])) (fun t k => ?_) ?_
    · show Steps p.tables e below (T34.setTop (mkF m 217 #[l0, l1, l2, l3, l4, l5, l6, l7, l8, l9, .val (.ref bA), .val (.int ex)] [(.int (own_b (own_tokL cs)))])) t
      refine XS.iload X34.here hx rfl (hb hby at_217) rfl ?_
      exact k
    have hc49 : (own_b (own_tokL cs)) = ex := hr
    refine OwnGo.of (B := T34.setTop (mkF m 227 #[l0, l1, l2, l3, l4, l5, l6, l7, l8, l9, .val (.ref bA), .val (.int ex)] [(.int (1 : Int32))])) (fun t k => ?_) ?_
    · show Steps p.tables e below (T34.setTop (mkF m 219 #[l0, l1, l2, l3, l4, l5, l6, l7, l8, l9, .val (.ref bA), .val (.int ex)] [(.int ex), (.int (own_b (own_tokL cs)))])) t
      refine XS.icmpNo X34.here hx rfl (hb hby at_219) rfl (teq hc49).2 ?_
      refine XS.iconst X34.here hx rfl (hb hby at_222) ?_
      refine XS.goto X34.here hx rfl (pc0 := 223) (pc' := 227) rfl (hb hby at_223) (by decide) (by decide) ?_
      exact k
    obtain ⟨fs, hr, hrun, hended, hRW⟩ := own_leaveW X34 B34 rfl (v := some (.int (nar .boolean (1 : Int32)))) (fun h => by rw [Bd.returns] at h; cases h) hlk
    refine ⟨_, _, ?_, hrun, hended, _, _, rfl, ?_, own_endW X34 hZ (own_EW hw) rfl hh f37 fs, own_monoW hRW (by decide) (by decide)⟩
    · show Steps p.tables e below (T34.setTop (mkF m 227 #[l0, l1, l2, l3, l4, l5, l6, l7, l8, l9, .val (.ref bA), .val (.int ex)] [(.int (1 : Int32))])) _
      exact retN X34 hx (t := .boolean) Bd.returns (by simp) (hb hby at_227) hr
    · show Qrm0 Z p0 p1 p2 p3 p4 zc fm h0 n0 _ (T34.setFrames fs).heap _
      rw [show (T34.setFrames fs).heap = T34.heap from rfl]
      exact ⟨rfl, N34⟩
  have J33_a : ∀ (l0 l1 l2 l3 l4 : Slot) (Tj : State) (Lo : List Loc) (hj : Heap) (k0 k1 k2 k3 nn : Int32) (Xj : Stand p l e room_1 s m #[(.int p0), (.int p1), (.int p2), (.int p3), (.int p4)] below meth c Tj Lo 0 0) (ej : Tj.heap = hj) (Nj : Fr n0 Lo) (Zj : n0 ≤ hj.size) (Kj : Keep h0 hj []) (Bj : OwnB s s hj) (Cj : CHr Z consts_1 s.vm h0 s.vm hj) (hc0 : OwnC16 k0) (hc1 : OwnC16 k1) (hc2 : OwnC16 k2) (hc3 : OwnC16 k3) (hnn : nn = 0 ∨ nn = 1 ∨ nn = 2 ∨ nn = 3 ∨ nn = 4), OwnGo p.tables e below (fun o U' => ∃ v L, o = .returned v ∧ Qrm0 Z p0 p1 p2 p3 p4 zc fm h0 n0 v U'.heap L ∧ CHr Z consts_1 s.vm s.heap U'.vm U'.heap ∧ ReturnedEndW s o U' L room_1.cells room_1.slots) (Tj.setTop (mkF m 33 #[l0, l1, l2, l3, l4, .val (.int nn), .val (.int k0), .val (.int k1), .val (.int k2), .val (.int k3), .unset, .unset] [])) := by
    intro l0 l1 l2 l3 l4 Tj Lo hj k0 k1 k2 k3 nn Xj ej Nj Zj Kj Bj Cj hc0 hc1 hc2 hc3 hnn
    have f50 : Sta Z hj "java/lang/String" "COMPACT_STRINGS" "Z" (.int zc) := own_sta_keep S_COMPACT_STRINGS Kj all0
    have f51 : Sta Z hj "jdk/internal/util/Preconditions" "SIOOBE_FORMATTER" "Ljava/util/function/BiFunction;" fm := own_sta_keep S_SIOOBE_FORMATTER Kj all0
    have f52 : Sta Z hj "java/lang/StringUTF16" "$assertionsDisabled" "Z" (.int (1 : Int32)) := own_sta_keep S__assertionsDisabled Kj all0
    have f53 : Sta Z hj "java/lang/StringUTF16" "HI_BYTE_SHIFT" "I" (.int (0 : Int32)) := own_sta_keep S_HI_BYTE_SHIFT Kj all0
    have f54 : Sta Z hj "java/lang/StringUTF16" "LO_BYTE_SHIFT" "I" (.int (8 : Int32)) := own_sta_keep S_LO_BYTE_SHIFT Kj all0
    show OwnGo p.tables e below _ (Tj.setTop (mkF m 33 #[l0, l1, l2, l3, l4, .val (.int nn), .val (.int k0), .val (.int k1), .val (.int k2), .val (.int k3), .unset, .unset] []))
    rcases hnn with rfl | rfl | rfl | rfl | rfl
    · show OwnGo p.tables e below _ (Tj.setTop (mkF m 33 #[l0, l1, l2, l3, l4, .val (.int (0 : Int32)), .val (.int k0), .val (.int k1), .val (.int k2), .val (.int k3), .unset, .unset] []))
      refine OwnGo.of (B := Tj.setTop (mkF m 35 #[l0, l1, l2, l3, l4, .val (.int (0 : Int32)), .val (.int k0), .val (.int k1), .val (.int k2), .val (.int k3), .unset, .unset] [(.int (0 : Int32))])) (fun t k => ?_) ?_
      · show Steps p.tables e below (Tj.setTop (mkF m 33 #[l0, l1, l2, l3, l4, .val (.int (0 : Int32)), .val (.int k0), .val (.int k1), .val (.int k2), .val (.int k3), .unset, .unset] [])) t
        refine XS.iload Xj.here hx rfl (hb hby at_33) rfl ?_
        exact k
      have hc55 : (0 : Int32) = (0 : Int32) := by decide
      refine OwnGo.of (B := Tj.setTop (mkF m 39 #[l0, l1, l2, l3, l4, .val (.int (0 : Int32)), .val (.int k0), .val (.int k1), .val (.int k2), .val (.int k3), .unset, .unset] [(.int (0 : Int32))])) (fun t k => ?_) ?_
      · show Steps p.tables e below (Tj.setTop (mkF m 35 #[l0, l1, l2, l3, l4, .val (.int (0 : Int32)), .val (.int k0), .val (.int k1), .val (.int k2), .val (.int k3), .unset, .unset] [(.int (0 : Int32))])) t
        refine XS.ifNo Xj.here hx rfl (hb hby at_35) rfl ((if0 _ _).trans (teq hc55).2) ?_
        refine XS.iconst Xj.here hx rfl (hb hby at_38) ?_
        exact k
      obtain ⟨T56, h56, kq56, X56, e56, E56, A56, st56⟩ := newP (aty := .char) Xj hx hZ (w5 hw) ej (g := (mkF m 39 #[l0, l1, l2, l3, l4, .val (.int (0 : Int32)), .val (.int k0), .val (.int k1), .val (.int k2), .val (.int k3), .unset, .unset] [(.int (0 : Int32))])) rfl (hb hby at_39) rfl (by decide) (cap := 0) (by decide) (by decide) (by decide) (by decide)
      obtain ⟨b56, g56⟩ : ∃ z, z = hj.size := ⟨_, rfl⟩
      rw [← g56] at A56 st56
      refine OwnGo.of st56 ?_
      have gn_b56 : Safe Z consts_1 s.vm h56 b56 := Safe.ext E56 Cj.1 (Safe.new (Nat.le_of_eq g56.symm))
      have g_b56 : n0 ≤ b56 := Nat.le_trans Zj (Nat.le_of_eq g56.symm)
      have sz_b56 : h0.size ≤ b56 := Nat.le_trans Kj.1 (Nat.le_of_eq g56.symm)
      have cs57 := CHr.ext E56 Cj.1
      have f58 := Nat.le_trans Zj E56.1
      have f59 := Kj.ext E56
      have f60 := Bj.ext E56
      have f61 := Cj.trans cs57
      have f62 := f50.ext E56
      have f63 := f51.ext E56
      have f64 := f52.ext E56
      have f65 := f53.ext E56
      have f66 := f54.ext E56
      have f67 : Arv Z h56 b56 kq56 .char (0 : Int32) [] (.int (0 : Int32)) := (Arv.new A56 (by decide)).pad (pad_rep [] (.int (0 : Int32)) 0)
      show OwnGo p.tables e below _ (T56.setTop (mkF m 41 #[l0, l1, l2, l3, l4, .val (.int (0 : Int32)), .val (.int k0), .val (.int k1), .val (.int k2), .val (.int k3), .unset, .unset] [(.ref b56)]))
      refine OwnGo.of (B := T56.setTop (mkF m 143 #[l0, l1, l2, l3, l4, .val (.int (0 : Int32)), .val (.int k0), .val (.int k1), .val (.int k2), .val (.int k3), .val (.ref b56), .unset] [])) (fun t k => ?_) ?_
      · show Steps p.tables e below (T56.setTop (mkF m 41 #[l0, l1, l2, l3, l4, .val (.int (0 : Int32)), .val (.int k0), .val (.int k1), .val (.int k2), .val (.int k3), .unset, .unset] [(.ref b56)])) t
        refine XS.astore X56.here hx rfl (hb hby at_41) rfl rfl (l' := #[l0, l1, l2, l3, l4, .val (.int (0 : Int32)), .val (.int k0), .val (.int k1), .val (.int k2), .val (.int k3), .val (.ref b56), .unset]) rfl ?_
        refine XS.goto X56.here hx rfl (pc0 := 43) (pc' := 143) rfl (hb hby at_43) (by decide) (by decide) ?_
        exact k
      refine OwnGo.of (B := T56.setTop (mkF m 145 #[l0, l1, l2, l3, l4, .val (.int (0 : Int32)), .val (.int k0), .val (.int k1), .val (.int k2), .val (.int k3), .val (.ref b56), .unset] [(.int (0 : Int32))])) (fun t k => ?_) ?_
      · show Steps p.tables e below (T56.setTop (mkF m 143 #[l0, l1, l2, l3, l4, .val (.int (0 : Int32)), .val (.int k0), .val (.int k1), .val (.int k2), .val (.int k3), .val (.ref b56), .unset] [])) t
        refine XS.iload X56.here hx rfl (hb hby at_143) rfl ?_
        exact k
      have hc68 : ¬ ((0 : Int32) < (0 : Int32)) := by decide
      refine OwnGo.of (B := T56.setTop (mkF m 205 #[l0, l1, l2, l3, l4, .val (.int (0 : Int32)), .val (.int k0), .val (.int k1), .val (.int k2), .val (.int k3), .val (.ref b56), .val (.int (0 : Int32))] [])) (fun t k => ?_) ?_
      · show Steps p.tables e below (T56.setTop (mkF m 145 #[l0, l1, l2, l3, l4, .val (.int (0 : Int32)), .val (.int k0), .val (.int k1), .val (.int k2), .val (.int k3), .val (.ref b56), .unset] [(.int (0 : Int32))])) t
        refine XS.ifYes X56.here hx rfl (pc0 := 145) (pc' := 202) rfl (hb hby at_145) rfl ((if0 _ _).trans (flt hc68).2.2.2) (by decide) (by decide) ?_
        refine XS.iconst X56.here hx rfl (hb hby at_202) ?_
        refine XS.istore X56.here hx rfl (hb hby at_203) rfl (l' := #[l0, l1, l2, l3, l4, .val (.int (0 : Int32)), .val (.int k0), .val (.int k1), .val (.int k2), .val (.int k3), .val (.ref b56), .val (.int (0 : Int32))]) rfl ?_
        exact k
      obtain ⟨T69, h69, X69, e69, E69, A69, D69, -, st69⟩ := newO X56 hx hZ hown (w6 hw) (w7 hw) (w8 hw) e56 (g := (mkF m 205 #[l0, l1, l2, l3, l4, .val (.int (0 : Int32)), .val (.int k0), .val (.int k1), .val (.int k2), .val (.int k3), .val (.ref b56), .val (.int (0 : Int32))] [])) rfl (hb hby at_205) (by decide) (by decide)
      obtain ⟨b69, g69⟩ : ∃ z, z = h56.size := ⟨_, rfl⟩
      rw [← g69] at A69 D69 st69
      refine OwnGo.of st69 ?_
      have ne_b56_b69 : b56 ≠ b69 := Nat.ne_of_lt (Nat.lt_of_lt_of_le f67.lt (Nat.le_of_eq g69.symm))
      have gn_b69 : Safe Z consts_1 s.vm h69 b69 := Safe.ext E69 f61.1 (Safe.new (Nat.le_of_eq g69.symm))
      have g_b69 : n0 ≤ b69 := Nat.le_trans f58 (Nat.le_of_eq g69.symm)
      have sz_b69 : h0.size ≤ b69 := Nat.le_trans f59.1 (Nat.le_of_eq g69.symm)
      have cs70 := CHr.ext E69 f61.1
      have f71 := Nat.le_trans f58 E69.1
      have f72 := f59.ext E69
      have f73 := f60.ext E69
      have f74 := f61.trans cs70
      have f75 := f62.ext E69
      have f76 := f63.ext E69
      have f77 := f64.ext E69
      have f78 := f65.ext E69
      have f79 := f66.ext E69
      have f80 := cs70.safe f67.lt gn_b56
      have f81 := f67.ext E69
      have f82 : Fld Z h69 b69 "java/lang/String" "value" "[B" .null := D69 (Or.inr (w21 hw)) (ty := (.array .byte)) (by decide)
      have f83 : Fld Z h69 b69 "java/lang/String" "coder" "B" (.int (0 : Int32)) := D69 (Or.inr (w22 hw)) (ty := .byte) (by decide)
      show OwnGo p.tables e below _ (T69.setTop (mkF m 208 #[l0, l1, l2, l3, l4, .val (.int (0 : Int32)), .val (.int k0), .val (.int k1), .val (.int k2), .val (.int k3), .val (.ref b56), .val (.int (0 : Int32))] [(.ref b69)]))
      refine OwnGo.of (B := T69.setTop (mkF m 211 #[l0, l1, l2, l3, l4, .val (.int (0 : Int32)), .val (.int k0), .val (.int k1), .val (.int k2), .val (.int k3), .val (.ref b56), .val (.int (0 : Int32))] [(.ref b56), (.ref b69), (.ref b69)])) (fun t k => ?_) ?_
      · show Steps p.tables e below (T69.setTop (mkF m 208 #[l0, l1, l2, l3, l4, .val (.int (0 : Int32)), .val (.int k0), .val (.int k1), .val (.int k2), .val (.int k3), .val (.ref b56), .val (.int (0 : Int32))] [(.ref b69)])) t
        refine XS.dup X69.here hx rfl (hb hby at_208) rfl rfl ?_
        refine XS.aload X69.here hx rfl (hb hby at_209) rfl rfl ?_
        exact k
      obtain ⟨s84, T84, L84, v84, X84, hQ84, B84, hZ, hown, cs84, st84⟩ := own_callIW (s := s) X69 hx (y := (⟨"java/lang/String", "<init>", "([C)V"⟩ : MethodName)) rfl hown (mvT hZ (w9 hw)) (mvT hZ (w10 hw)) (mvT hZ (w11 hw)) (by decide) hZ f73 (own_backW (W := 1) (ws := [b69]) (rm2 l Z aw hw [] b69 b56 kq56 h69 n0 f71 A69 f82 f83 g_b69 f81 ne_b56_b69) hZ (w11 hw) (w8 hw) (by decide) (by decide) (own_EW hw) f74.1 (allS ⟨A69.lt, gn_b69⟩ all0)) (g := (mkF m 211 #[l0, l1, l2, l3, l4, .val (.int (0 : Int32)), .val (.int k0), .val (.int k1), .val (.int k2), .val (.int k3), .val (.ref b56), .val (.int (0 : Int32))] [(.ref b56), (.ref b69), (.ref b69)])) rfl (by rw [hml]; rfl) (a := b69) (argsL := [(.ref b56)]) (rest := [(.ref b69)]) (lenOf pd_149 rfl) rfl (by show 2 * 0 + _ ≤ _; exact Nat.le_of_eq rfl) (hb hby at_211) rfl e69 (by decide) (by decide)
      obtain ⟨rfl, N84q, K84, y84E, y84C, t84, kb84, y84V, y84A⟩ := hQ84
      have f85 := Nat.le_trans f71 K84.1
      have f86 := f72.trans K84 (allS (Or.inr sz_b69) all0)
      have f87 := f74.trans cs84
      have f88 := own_sta_keep f75 K84 (allS (own_ns_exa A69) all0)
      have f89 := own_sta_keep f76 K84 (allS (own_ns_exa A69) all0)
      have f90 := own_sta_keep f77 K84 (allS (own_ns_exa A69) all0)
      have f91 := own_sta_keep f78 K84 (allS (own_ns_exa A69) all0)
      have f92 := own_sta_keep f79 K84 (allS (own_ns_exa A69) all0)
      have f93 := cs84.safe f81.lt f80
      have f94 := f81.keep K84 (ninS ne_b56_b69 nin0)
      have f95 := cs84.safe A69.lt gn_b69
      have f96 := A69.keep K84
      have N84 := Fr.app Nj N84q
      refine OwnGo.of st84 ?_
      show OwnGo p.tables e below _ (T84.setTop (mkF m 214 #[l0, l1, l2, l3, l4, .val (.int (0 : Int32)), .val (.int k0), .val (.int k1), .val (.int k2), .val (.int k3), .val (.ref b56), .val (.int (0 : Int32))] [(.ref b69)]))
      obtain ⟨s97, T97, L97, v97, X97, hQ97, B97, hZ, hown, cs97, st97⟩ := own_callSW (s := s) X84 hx (y := (⟨"dev/boundaryline/model/HeaderValue", "isToken", "(Ljava/lang/String;)Z"⟩ : MethodName)) hown (mvT hZ (w27 hw)) (mvT hZ (w28 hw)) (mvT hZ (w29 hw)) (mvT hZ (w30 hw)) (by decide) hZ B84 (own_backW (W := 0) (ws := []) (rm5 l Z aw hw [] b69 ([] : List Int32) zc fm T84.heap n0 f85 (Nat.zero_le _) ⟨_, _, _, _, _, y84E, y84V, y84C, y84A, (Or.inl ⟨rfl, rfl, rfl, own_h0⟩), own_h0, (Nat.zero_le _)⟩ f88 hzc f89 rf f90 f91 f92) hZ (w30 hw) (w29 hw) (by decide) (by decide) (own_EW hw) f87.1 all0) (g := (mkF m 214 #[l0, l1, l2, l3, l4, .val (.int (0 : Int32)), .val (.int k0), .val (.int k1), .val (.int k2), .val (.int k3), .val (.ref b56), .val (.int (0 : Int32))] [(.ref b69)])) rfl (by rw [hml]; rfl) (argsL := [(.ref b69)]) (rest := []) (lenOf pd_153 rfl) rfl (by show 2 * 0 + _ ≤ _; exact Nat.le_of_eq rfl) (hb hby at_214) rfl rfl (by decide) (by decide)
      obtain ⟨rfl, N97q, K97⟩ := hQ97
      have f98 := Nat.le_trans f85 K97.1
      have f99 := f86.trans K97 all0
      have f100 := f87.trans cs97
      have f101 := own_sta_keep f88 K97 all0
      have f102 := own_sta_keep f89 K97 all0
      have f103 := own_sta_keep f90 K97 all0
      have f104 := own_sta_keep f91 K97 all0
      have f105 := own_sta_keep f92 K97 all0
      have f106 := cs97.safe f94.lt f93
      have f107 := f94.keep K97 nin0
      have f108 := cs97.safe y84E.lt f95
      have f109 := y84E.keep K97
      have f110 := y84C.keep K97 nin0
      have f111 := y84V.keep K97 nin0
      have f112 := y84A.keep K97 nin0
      have N97 := Fr.app N84 N97q
      refine OwnGo.of st97 ?_
      show OwnGo p.tables e below _ (T97.setTop (mkF m 217 #[l0, l1, l2, l3, l4, .val (.int (0 : Int32)), .val (.int k0), .val (.int k1), .val (.int k2), .val (.int k3), .val (.ref b56), .val (.int (0 : Int32))] [(.int (own_b (own_tokL ([] : List Int32))))]))
      refine OwnGo.of (B := T97.setTop (mkF m 219 #[l0, l1, l2, l3, l4, .val (.int (0 : Int32)), .val (.int k0), .val (.int k1), .val (.int k2), .val (.int k3), .val (.ref b56), .val (.int (0 : Int32))] [(.int (0 : Int32)), (.int (own_b (own_tokL ([] : List Int32))))])) (fun t k => ?_) ?_
      · show Steps p.tables e below (T97.setTop (mkF m 217 #[l0, l1, l2, l3, l4, .val (.int (0 : Int32)), .val (.int k0), .val (.int k1), .val (.int k2), .val (.int k3), .val (.ref b56), .val (.int (0 : Int32))] [(.int (own_b (own_tokL ([] : List Int32))))])) t
        refine XS.iload X97.here hx rfl (hb hby at_217) rfl ?_
        exact k
      have hc113 : (own_b (own_tokL ([] : List Int32))) = (0 : Int32) := by decide
      refine OwnGo.of (B := T97.setTop (mkF m 227 #[l0, l1, l2, l3, l4, .val (.int (0 : Int32)), .val (.int k0), .val (.int k1), .val (.int k2), .val (.int k3), .val (.ref b56), .val (.int (0 : Int32))] [(.int (1 : Int32))])) (fun t k => ?_) ?_
      · show Steps p.tables e below (T97.setTop (mkF m 219 #[l0, l1, l2, l3, l4, .val (.int (0 : Int32)), .val (.int k0), .val (.int k1), .val (.int k2), .val (.int k3), .val (.ref b56), .val (.int (0 : Int32))] [(.int (0 : Int32)), (.int (own_b (own_tokL ([] : List Int32))))])) t
        refine XS.icmpNo X97.here hx rfl (hb hby at_219) rfl (teq hc113).2 ?_
        refine XS.iconst X97.here hx rfl (hb hby at_222) ?_
        refine XS.goto X97.here hx rfl (pc0 := 223) (pc' := 227) rfl (hb hby at_223) (by decide) (by decide) ?_
        exact k
      obtain ⟨fs, hr, hrun, hended, hRW⟩ := own_leaveW X97 B97 rfl (v := some (.int (nar .boolean (1 : Int32)))) (fun h => by rw [Bd.returns] at h; cases h) hlk
      refine ⟨_, _, ?_, hrun, hended, _, _, rfl, ?_, own_endW X97 hZ (own_EW hw) rfl hh f100 fs, own_monoW hRW (by decide) (by decide)⟩
      · show Steps p.tables e below (T97.setTop (mkF m 227 #[l0, l1, l2, l3, l4, .val (.int (0 : Int32)), .val (.int k0), .val (.int k1), .val (.int k2), .val (.int k3), .val (.ref b56), .val (.int (0 : Int32))] [(.int (1 : Int32))])) _
        exact retN X97 hx (t := .boolean) Bd.returns (by simp) (hb hby at_227) hr
      · show Qrm0 Z p0 p1 p2 p3 p4 zc fm h0 n0 _ (T97.setFrames fs).heap _
        rw [show (T97.setFrames fs).heap = T97.heap from rfl]
        exact ⟨rfl, N97⟩
    · show OwnGo p.tables e below _ (Tj.setTop (mkF m 33 #[l0, l1, l2, l3, l4, .val (.int (1 : Int32)), .val (.int k0), .val (.int k1), .val (.int k2), .val (.int k3), .unset, .unset] []))
      refine OwnGo.of (B := Tj.setTop (mkF m 35 #[l0, l1, l2, l3, l4, .val (.int (1 : Int32)), .val (.int k0), .val (.int k1), .val (.int k2), .val (.int k3), .unset, .unset] [(.int (1 : Int32))])) (fun t k => ?_) ?_
      · show Steps p.tables e below (Tj.setTop (mkF m 33 #[l0, l1, l2, l3, l4, .val (.int (1 : Int32)), .val (.int k0), .val (.int k1), .val (.int k2), .val (.int k3), .unset, .unset] [])) t
        refine XS.iload Xj.here hx rfl (hb hby at_33) rfl ?_
        exact k
      have hc114 : ¬ ((1 : Int32) = (0 : Int32)) := by decide
      refine OwnGo.of (B := Tj.setTop (mkF m 49 #[l0, l1, l2, l3, l4, .val (.int (1 : Int32)), .val (.int k0), .val (.int k1), .val (.int k2), .val (.int k3), .unset, .unset] [(.int (1 : Int32)), (.int (1 : Int32))])) (fun t k => ?_) ?_
      · show Steps p.tables e below (Tj.setTop (mkF m 35 #[l0, l1, l2, l3, l4, .val (.int (1 : Int32)), .val (.int k0), .val (.int k1), .val (.int k2), .val (.int k3), .unset, .unset] [(.int (1 : Int32))])) t
        refine XS.ifYes Xj.here hx rfl (pc0 := 35) (pc' := 46) rfl (hb hby at_35) rfl ((if0 _ _).trans (feq hc114).2) (by decide) (by decide) ?_
        refine XS.iload Xj.here hx rfl (hb hby at_46) rfl ?_
        refine XS.iconst Xj.here hx rfl (hb hby at_48) ?_
        exact k
      have hc115 : (1 : Int32) = (1 : Int32) := by decide
      refine OwnGo.of (B := Tj.setTop (mkF m 53 #[l0, l1, l2, l3, l4, .val (.int (1 : Int32)), .val (.int k0), .val (.int k1), .val (.int k2), .val (.int k3), .unset, .unset] [(.int (1 : Int32))])) (fun t k => ?_) ?_
      · show Steps p.tables e below (Tj.setTop (mkF m 49 #[l0, l1, l2, l3, l4, .val (.int (1 : Int32)), .val (.int k0), .val (.int k1), .val (.int k2), .val (.int k3), .unset, .unset] [(.int (1 : Int32)), (.int (1 : Int32))])) t
        refine XS.icmpNo Xj.here hx rfl (hb hby at_49) rfl (teq hc115).2 ?_
        refine XS.iconst Xj.here hx rfl (hb hby at_52) ?_
        exact k
      obtain ⟨T116, h116, kq116, X116, e116, E116, A116, st116⟩ := newP (aty := .char) Xj hx hZ (w5 hw) ej (g := (mkF m 53 #[l0, l1, l2, l3, l4, .val (.int (1 : Int32)), .val (.int k0), .val (.int k1), .val (.int k2), .val (.int k3), .unset, .unset] [(.int (1 : Int32))])) rfl (hb hby at_53) rfl (by decide) (cap := 1) (by decide) (by decide) (by decide) (by decide)
      obtain ⟨b116, g116⟩ : ∃ z, z = hj.size := ⟨_, rfl⟩
      rw [← g116] at A116 st116
      refine OwnGo.of st116 ?_
      have gn_b116 : Safe Z consts_1 s.vm h116 b116 := Safe.ext E116 Cj.1 (Safe.new (Nat.le_of_eq g116.symm))
      have g_b116 : n0 ≤ b116 := Nat.le_trans Zj (Nat.le_of_eq g116.symm)
      have sz_b116 : h0.size ≤ b116 := Nat.le_trans Kj.1 (Nat.le_of_eq g116.symm)
      have cs117 := CHr.ext E116 Cj.1
      have f118 := Nat.le_trans Zj E116.1
      have f119 := Kj.ext E116
      have f120 := Bj.ext E116
      have f121 := Cj.trans cs117
      have f122 := f50.ext E116
      have f123 := f51.ext E116
      have f124 := f52.ext E116
      have f125 := f53.ext E116
      have f126 := f54.ext E116
      have f127 : Arv Z h116 b116 kq116 .char (1 : Int32) [(.int (0 : Int32))] (.int (0 : Int32)) := (Arv.new A116 (by decide)).pad (pad_rep [] (.int (0 : Int32)) 1)
      show OwnGo p.tables e below _ (T116.setTop (mkF m 55 #[l0, l1, l2, l3, l4, .val (.int (1 : Int32)), .val (.int k0), .val (.int k1), .val (.int k2), .val (.int k3), .unset, .unset] [(.ref b116)]))
      refine OwnGo.of (B := T116.setTop (mkF m 59 #[l0, l1, l2, l3, l4, .val (.int (1 : Int32)), .val (.int k0), .val (.int k1), .val (.int k2), .val (.int k3), .unset, .unset] [(.int k0), (.int (0 : Int32)), (.ref b116), (.ref b116)])) (fun t k => ?_) ?_
      · show Steps p.tables e below (T116.setTop (mkF m 55 #[l0, l1, l2, l3, l4, .val (.int (1 : Int32)), .val (.int k0), .val (.int k1), .val (.int k2), .val (.int k3), .unset, .unset] [(.ref b116)])) t
        refine XS.dup X116.here hx rfl (hb hby at_55) rfl rfl ?_
        refine XS.iconst X116.here hx rfl (hb hby at_56) ?_
        refine XS.iload X116.here hx rfl (hb hby at_57) rfl ?_
        exact k
      have cq128 := f127
      obtain ⟨clq128, Arq128, qq128, Sq128, Nq128, Hq128, Gq128⟩ := cq128
      obtain ⟨T129, h129, X129, e129, W129, st129⟩ := stC X116 hx hZ e116 Arq128 (j := (0 : Int32)) (inb_of Sq128 ⟨by decide, by decide⟩) (g := (mkF m 59 #[l0, l1, l2, l3, l4, .val (.int (1 : Int32)), .val (.int k0), .val (.int k1), .val (.int k2), .val (.int k3), .unset, .unset] [(.int k0), (.int (0 : Int32)), (.ref b116), (.ref b116)])) rfl rfl (hb hby at_59)
      refine OwnGo.of st129 ?_
      have N129 := Fr.snoc X129 Nj g_b116
      have cs130 := CHr.wr W129 gn_b116 f121.1
      have f131 := Nat.le_trans f118 (Keep.of_wr W129).1
      have f132 := f119.wr W129 (Or.inr sz_b116)
      have f133 := f120.wr W129
      have f134 := f121.trans cs130
      have f135 := f122.wr W129
      have f136 := f123.wr W129
      have f137 := f124.wr W129
      have f138 := f125.wr W129
      have f139 := f126.wr W129
      have f140 := cs130.safe f127.lt gn_b116
      have f141 : Arv Z h129 b116 kq116 .char (1 : Int32) [(.int (k0).toUInt32.toUInt16.toUInt32.toInt32)] (.int (0 : Int32)) := Arv.set Arq128 qq128 Sq128 Nq128 Hq128 Gq128 (fits_nar_char _) W129 0 rfl (Nat.le_of_ble_eq_true rfl)
      show OwnGo p.tables e below _ (T129.setTop (mkF m 60 #[l0, l1, l2, l3, l4, .val (.int (1 : Int32)), .val (.int k0), .val (.int k1), .val (.int k2), .val (.int k3), .unset, .unset] [(.ref b116)]))
      refine OwnGo.of (B := T129.setTop (mkF m 143 #[l0, l1, l2, l3, l4, .val (.int (1 : Int32)), .val (.int k0), .val (.int k1), .val (.int k2), .val (.int k3), .val (.ref b116), .unset] [])) (fun t k => ?_) ?_
      · show Steps p.tables e below (T129.setTop (mkF m 60 #[l0, l1, l2, l3, l4, .val (.int (1 : Int32)), .val (.int k0), .val (.int k1), .val (.int k2), .val (.int k3), .unset, .unset] [(.ref b116)])) t
        refine XS.astore X129.here hx rfl (hb hby at_60) rfl rfl (l' := #[l0, l1, l2, l3, l4, .val (.int (1 : Int32)), .val (.int k0), .val (.int k1), .val (.int k2), .val (.int k3), .val (.ref b116), .unset]) rfl ?_
        refine XS.goto X129.here hx rfl (pc0 := 62) (pc' := 143) rfl (hb hby at_62) (by decide) (by decide) ?_
        exact k
      have f142 := f141
      rw [own_c16E hc0] at f142
      refine OwnGo.of (B := T129.setTop (mkF m 145 #[l0, l1, l2, l3, l4, .val (.int (1 : Int32)), .val (.int k0), .val (.int k1), .val (.int k2), .val (.int k3), .val (.ref b116), .unset] [(.int (1 : Int32))])) (fun t k => ?_) ?_
      · show Steps p.tables e below (T129.setTop (mkF m 143 #[l0, l1, l2, l3, l4, .val (.int (1 : Int32)), .val (.int k0), .val (.int k1), .val (.int k2), .val (.int k3), .val (.ref b116), .unset] [])) t
        refine XS.iload X129.here hx rfl (hb hby at_143) rfl ?_
        exact k
      have hc143 : (0 : Int32) < (1 : Int32) := by decide
      refine OwnGo.of (B := T129.setTop (mkF m 150 #[l0, l1, l2, l3, l4, .val (.int (1 : Int32)), .val (.int k0), .val (.int k1), .val (.int k2), .val (.int k3), .val (.ref b116), .unset] [(.int k0)])) (fun t k => ?_) ?_
      · show Steps p.tables e below (T129.setTop (mkF m 145 #[l0, l1, l2, l3, l4, .val (.int (1 : Int32)), .val (.int k0), .val (.int k1), .val (.int k2), .val (.int k3), .val (.ref b116), .unset] [(.int (1 : Int32))])) t
        refine XS.ifNo X129.here hx rfl (hb hby at_145) rfl ((if0 _ _).trans (tlt hc143).2.2.2) ?_
        refine XS.iload X129.here hx rfl (hb hby at_148) rfl ?_
        exact k
      obtain ⟨T144, L144, v144, X144, hQ144, st144⟩ := own_callS X129 hx (y := (⟨"dev/boundaryline/model/HeaderValueIsTokenPinLaw", "tokenChar", "(C)Z"⟩ : MethodName)) hown (mvT hZ (w36 hw)) (mvT hZ (w37 hw)) (mvT hZ (w3 hw)) (mvT hZ (w38 hw)) (by decide) (backOf (W := 0) (rm7 l Z aw hw [] k0  h129 n0 f131 ) hZ (w38 hw) (w3 hw) (by decide) (by decide)) (g := (mkF m 150 #[l0, l1, l2, l3, l4, .val (.int (1 : Int32)), .val (.int k0), .val (.int k1), .val (.int k2), .val (.int k3), .val (.ref b116), .unset] [(.int k0)])) rfl (by rw [hml]; rfl) (argsL := [(.int k0)]) (rest := []) (lenOf pd_138 rfl) rfl (by show 2 * 0 + _ ≤ _; exact Nat.le_of_eq rfl) (hb hby at_150) rfl e129 (by decide) (by decide)
      obtain ⟨rfl, N144q, eq144⟩ := hQ144
      have N144 := Fr.app N129 N144q
      refine OwnGo.of st144 ?_
      show OwnGo p.tables e below _ (T144.setTop (mkF m 153 #[l0, l1, l2, l3, l4, .val (.int (1 : Int32)), .val (.int k0), .val (.int k1), .val (.int k2), .val (.int k3), .val (.ref b116), .unset] [(.int (own_b (own_tok k0)))]))
      by_cases hc145 : (own_b (own_tok k0)) = (0 : Int32)
      · have tk146 := own_b0 hc145
        refine OwnGo.of (B := T144.setTop (mkF m 205 #[l0, l1, l2, l3, l4, .val (.int (1 : Int32)), .val (.int k0), .val (.int k1), .val (.int k2), .val (.int k3), .val (.ref b116), .val (.int (0 : Int32))] [])) (fun t k => ?_) ?_
        · show Steps p.tables e below (T144.setTop (mkF m 153 #[l0, l1, l2, l3, l4, .val (.int (1 : Int32)), .val (.int k0), .val (.int k1), .val (.int k2), .val (.int k3), .val (.ref b116), .unset] [(.int (own_b (own_tok k0)))])) t
          refine XS.ifYes X144.here hx rfl (pc0 := 153) (pc' := 202) rfl (hb hby at_153) rfl ((if0 _ _).trans (teq hc145).1) (by decide) (by decide) ?_
          refine XS.iconst X144.here hx rfl (hb hby at_202) ?_
          refine XS.istore X144.here hx rfl (hb hby at_203) rfl (l' := #[l0, l1, l2, l3, l4, .val (.int (1 : Int32)), .val (.int k0), .val (.int k1), .val (.int k2), .val (.int k3), .val (.ref b116), .val (.int (0 : Int32))]) rfl ?_
          exact k
        exact J205_g (l0) (l1) (l2) (l3) (l4) (.val (.int (1 : Int32))) (.val (.int k0)) (.val (.int k1)) (.val (.int k2)) (.val (.int k3)) T144 _ _ b116 kq116 k0 k1 k2 k3 (X144.more (by decide) (by decide)) eq144 N144 f131 f132 f133 f134 hc0 hc1 hc2 hc3 ([k0] : List Int32) f142 (own_hS hc0 own_h0) (Nat.le_of_ble_eq_true rfl) (Nat.le_of_ble_eq_true rfl) (0 : Int32) (own_eF (fun q => tk146 (q.2 _ (List.mem_of_getElem? (i := 0) rfl))))
      · have tk147 := own_b1 hc145
        refine OwnGo.of (B := T144.setTop (mkF m 159 #[l0, l1, l2, l3, l4, .val (.int (1 : Int32)), .val (.int k0), .val (.int k1), .val (.int k2), .val (.int k3), .val (.ref b116), .unset] [(.int (2 : Int32)), (.int (1 : Int32))])) (fun t k => ?_) ?_
        · show Steps p.tables e below (T144.setTop (mkF m 153 #[l0, l1, l2, l3, l4, .val (.int (1 : Int32)), .val (.int k0), .val (.int k1), .val (.int k2), .val (.int k3), .val (.ref b116), .unset] [(.int (own_b (own_tok k0)))])) t
          refine XS.ifNo X144.here hx rfl (hb hby at_153) rfl ((if0 _ _).trans (feq hc145).1) ?_
          refine XS.iload X144.here hx rfl (hb hby at_156) rfl ?_
          refine XS.iconst X144.here hx rfl (hb hby at_158) ?_
          exact k
        have hc148 : (1 : Int32) < (2 : Int32) := by decide
        refine OwnGo.of (B := T144.setTop (mkF m 173 #[l0, l1, l2, l3, l4, .val (.int (1 : Int32)), .val (.int k0), .val (.int k1), .val (.int k2), .val (.int k3), .val (.ref b116), .unset] [(.int (3 : Int32)), (.int (1 : Int32))])) (fun t k => ?_) ?_
        · show Steps p.tables e below (T144.setTop (mkF m 159 #[l0, l1, l2, l3, l4, .val (.int (1 : Int32)), .val (.int k0), .val (.int k1), .val (.int k2), .val (.int k3), .val (.ref b116), .unset] [(.int (2 : Int32)), (.int (1 : Int32))])) t
          refine XS.icmpYes X144.here hx rfl (pc0 := 159) (pc' := 170) rfl (hb hby at_159) rfl (tlt hc148).1 (by decide) (by decide) ?_
          refine XS.iload X144.here hx rfl (hb hby at_170) rfl ?_
          refine XS.iconst X144.here hx rfl (hb hby at_172) ?_
          exact k
        have hc149 : (1 : Int32) < (3 : Int32) := by decide
        refine OwnGo.of (B := T144.setTop (mkF m 187 #[l0, l1, l2, l3, l4, .val (.int (1 : Int32)), .val (.int k0), .val (.int k1), .val (.int k2), .val (.int k3), .val (.ref b116), .unset] [(.int (4 : Int32)), (.int (1 : Int32))])) (fun t k => ?_) ?_
        · show Steps p.tables e below (T144.setTop (mkF m 173 #[l0, l1, l2, l3, l4, .val (.int (1 : Int32)), .val (.int k0), .val (.int k1), .val (.int k2), .val (.int k3), .val (.ref b116), .unset] [(.int (3 : Int32)), (.int (1 : Int32))])) t
          refine XS.icmpYes X144.here hx rfl (pc0 := 173) (pc' := 184) rfl (hb hby at_173) rfl (tlt hc149).1 (by decide) (by decide) ?_
          refine XS.iload X144.here hx rfl (hb hby at_184) rfl ?_
          refine XS.iconst X144.here hx rfl (hb hby at_186) ?_
          exact k
        have hc150 : (1 : Int32) < (4 : Int32) := by decide
        refine OwnGo.of (B := T144.setTop (mkF m 205 #[l0, l1, l2, l3, l4, .val (.int (1 : Int32)), .val (.int k0), .val (.int k1), .val (.int k2), .val (.int k3), .val (.ref b116), .val (.int (1 : Int32))] [])) (fun t k => ?_) ?_
        · show Steps p.tables e below (T144.setTop (mkF m 187 #[l0, l1, l2, l3, l4, .val (.int (1 : Int32)), .val (.int k0), .val (.int k1), .val (.int k2), .val (.int k3), .val (.ref b116), .unset] [(.int (4 : Int32)), (.int (1 : Int32))])) t
          refine XS.icmpYes X144.here hx rfl (pc0 := 187) (pc' := 198) rfl (hb hby at_187) rfl (tlt hc150).1 (by decide) (by decide) ?_
          refine XS.iconst X144.here hx rfl (hb hby at_198) ?_
          refine XS.goto X144.here hx rfl (pc0 := 199) (pc' := 203) rfl (hb hby at_199) (by decide) (by decide) ?_
          refine XS.istore X144.here hx rfl (hb hby at_203) rfl (l' := #[l0, l1, l2, l3, l4, .val (.int (1 : Int32)), .val (.int k0), .val (.int k1), .val (.int k2), .val (.int k3), .val (.ref b116), .val (.int (1 : Int32))]) rfl ?_
          exact k
        exact J205_g (l0) (l1) (l2) (l3) (l4) (.val (.int (1 : Int32))) (.val (.int k0)) (.val (.int k1)) (.val (.int k2)) (.val (.int k3)) T144 _ _ b116 kq116 k0 k1 k2 k3 (X144.more (by decide) (by decide)) eq144 N144 f131 f132 f133 f134 hc0 hc1 hc2 hc3 ([k0] : List Int32) f142 (own_hS hc0 own_h0) (Nat.le_of_ble_eq_true rfl) (Nat.le_of_ble_eq_true rfl) (1 : Int32) (own_eT ⟨(fun q => nomatch q), (own_hS tk147 own_h0)⟩)
    · show OwnGo p.tables e below _ (Tj.setTop (mkF m 33 #[l0, l1, l2, l3, l4, .val (.int (2 : Int32)), .val (.int k0), .val (.int k1), .val (.int k2), .val (.int k3), .unset, .unset] []))
      refine OwnGo.of (B := Tj.setTop (mkF m 35 #[l0, l1, l2, l3, l4, .val (.int (2 : Int32)), .val (.int k0), .val (.int k1), .val (.int k2), .val (.int k3), .unset, .unset] [(.int (2 : Int32))])) (fun t k => ?_) ?_
      · show Steps p.tables e below (Tj.setTop (mkF m 33 #[l0, l1, l2, l3, l4, .val (.int (2 : Int32)), .val (.int k0), .val (.int k1), .val (.int k2), .val (.int k3), .unset, .unset] [])) t
        refine XS.iload Xj.here hx rfl (hb hby at_33) rfl ?_
        exact k
      have hc151 : ¬ ((2 : Int32) = (0 : Int32)) := by decide
      refine OwnGo.of (B := Tj.setTop (mkF m 49 #[l0, l1, l2, l3, l4, .val (.int (2 : Int32)), .val (.int k0), .val (.int k1), .val (.int k2), .val (.int k3), .unset, .unset] [(.int (1 : Int32)), (.int (2 : Int32))])) (fun t k => ?_) ?_
      · show Steps p.tables e below (Tj.setTop (mkF m 35 #[l0, l1, l2, l3, l4, .val (.int (2 : Int32)), .val (.int k0), .val (.int k1), .val (.int k2), .val (.int k3), .unset, .unset] [(.int (2 : Int32))])) t
        refine XS.ifYes Xj.here hx rfl (pc0 := 35) (pc' := 46) rfl (hb hby at_35) rfl ((if0 _ _).trans (feq hc151).2) (by decide) (by decide) ?_
        refine XS.iload Xj.here hx rfl (hb hby at_46) rfl ?_
        refine XS.iconst Xj.here hx rfl (hb hby at_48) ?_
        exact k
      have hc152 : ¬ ((2 : Int32) = (1 : Int32)) := by decide
      refine OwnGo.of (B := Tj.setTop (mkF m 68 #[l0, l1, l2, l3, l4, .val (.int (2 : Int32)), .val (.int k0), .val (.int k1), .val (.int k2), .val (.int k3), .unset, .unset] [(.int (2 : Int32)), (.int (2 : Int32))])) (fun t k => ?_) ?_
      · show Steps p.tables e below (Tj.setTop (mkF m 49 #[l0, l1, l2, l3, l4, .val (.int (2 : Int32)), .val (.int k0), .val (.int k1), .val (.int k2), .val (.int k3), .unset, .unset] [(.int (1 : Int32)), (.int (2 : Int32))])) t
        refine XS.icmpYes Xj.here hx rfl (pc0 := 49) (pc' := 65) rfl (hb hby at_49) rfl (feq hc152).2 (by decide) (by decide) ?_
        refine XS.iload Xj.here hx rfl (hb hby at_65) rfl ?_
        refine XS.iconst Xj.here hx rfl (hb hby at_67) ?_
        exact k
      have hc153 : (2 : Int32) = (2 : Int32) := by decide
      refine OwnGo.of (B := Tj.setTop (mkF m 72 #[l0, l1, l2, l3, l4, .val (.int (2 : Int32)), .val (.int k0), .val (.int k1), .val (.int k2), .val (.int k3), .unset, .unset] [(.int (2 : Int32))])) (fun t k => ?_) ?_
      · show Steps p.tables e below (Tj.setTop (mkF m 68 #[l0, l1, l2, l3, l4, .val (.int (2 : Int32)), .val (.int k0), .val (.int k1), .val (.int k2), .val (.int k3), .unset, .unset] [(.int (2 : Int32)), (.int (2 : Int32))])) t
        refine XS.icmpNo Xj.here hx rfl (hb hby at_68) rfl (teq hc153).2 ?_
        refine XS.iconst Xj.here hx rfl (hb hby at_71) ?_
        exact k
      obtain ⟨T154, h154, kq154, X154, e154, E154, A154, st154⟩ := newP (aty := .char) Xj hx hZ (w5 hw) ej (g := (mkF m 72 #[l0, l1, l2, l3, l4, .val (.int (2 : Int32)), .val (.int k0), .val (.int k1), .val (.int k2), .val (.int k3), .unset, .unset] [(.int (2 : Int32))])) rfl (hb hby at_72) rfl (by decide) (cap := 2) (by decide) (by decide) (by decide) (by decide)
      obtain ⟨b154, g154⟩ : ∃ z, z = hj.size := ⟨_, rfl⟩
      rw [← g154] at A154 st154
      refine OwnGo.of st154 ?_
      have gn_b154 : Safe Z consts_1 s.vm h154 b154 := Safe.ext E154 Cj.1 (Safe.new (Nat.le_of_eq g154.symm))
      have g_b154 : n0 ≤ b154 := Nat.le_trans Zj (Nat.le_of_eq g154.symm)
      have sz_b154 : h0.size ≤ b154 := Nat.le_trans Kj.1 (Nat.le_of_eq g154.symm)
      have cs155 := CHr.ext E154 Cj.1
      have f156 := Nat.le_trans Zj E154.1
      have f157 := Kj.ext E154
      have f158 := Bj.ext E154
      have f159 := Cj.trans cs155
      have f160 := f50.ext E154
      have f161 := f51.ext E154
      have f162 := f52.ext E154
      have f163 := f53.ext E154
      have f164 := f54.ext E154
      have f165 : Arv Z h154 b154 kq154 .char (2 : Int32) [(.int (0 : Int32)), (.int (0 : Int32))] (.int (0 : Int32)) := (Arv.new A154 (by decide)).pad (pad_rep [] (.int (0 : Int32)) 2)
      show OwnGo p.tables e below _ (T154.setTop (mkF m 74 #[l0, l1, l2, l3, l4, .val (.int (2 : Int32)), .val (.int k0), .val (.int k1), .val (.int k2), .val (.int k3), .unset, .unset] [(.ref b154)]))
      refine OwnGo.of (B := T154.setTop (mkF m 78 #[l0, l1, l2, l3, l4, .val (.int (2 : Int32)), .val (.int k0), .val (.int k1), .val (.int k2), .val (.int k3), .unset, .unset] [(.int k0), (.int (0 : Int32)), (.ref b154), (.ref b154)])) (fun t k => ?_) ?_
      · show Steps p.tables e below (T154.setTop (mkF m 74 #[l0, l1, l2, l3, l4, .val (.int (2 : Int32)), .val (.int k0), .val (.int k1), .val (.int k2), .val (.int k3), .unset, .unset] [(.ref b154)])) t
        refine XS.dup X154.here hx rfl (hb hby at_74) rfl rfl ?_
        refine XS.iconst X154.here hx rfl (hb hby at_75) ?_
        refine XS.iload X154.here hx rfl (hb hby at_76) rfl ?_
        exact k
      have cq166 := f165
      obtain ⟨clq166, Arq166, qq166, Sq166, Nq166, Hq166, Gq166⟩ := cq166
      obtain ⟨T167, h167, X167, e167, W167, st167⟩ := stC X154 hx hZ e154 Arq166 (j := (0 : Int32)) (inb_of Sq166 ⟨by decide, by decide⟩) (g := (mkF m 78 #[l0, l1, l2, l3, l4, .val (.int (2 : Int32)), .val (.int k0), .val (.int k1), .val (.int k2), .val (.int k3), .unset, .unset] [(.int k0), (.int (0 : Int32)), (.ref b154), (.ref b154)])) rfl rfl (hb hby at_78)
      refine OwnGo.of st167 ?_
      have N167 := Fr.snoc X167 Nj g_b154
      have cs168 := CHr.wr W167 gn_b154 f159.1
      have f169 := Nat.le_trans f156 (Keep.of_wr W167).1
      have f170 := f157.wr W167 (Or.inr sz_b154)
      have f171 := f158.wr W167
      have f172 := f159.trans cs168
      have f173 := f160.wr W167
      have f174 := f161.wr W167
      have f175 := f162.wr W167
      have f176 := f163.wr W167
      have f177 := f164.wr W167
      have f178 := cs168.safe f165.lt gn_b154
      have f179 : Arv Z h167 b154 kq154 .char (2 : Int32) [(.int (k0).toUInt32.toUInt16.toUInt32.toInt32), (.int (0 : Int32))] (.int (0 : Int32)) := Arv.set Arq166 qq166 Sq166 Nq166 Hq166 Gq166 (fits_nar_char _) W167 0 rfl (Nat.le_of_ble_eq_true rfl)
      show OwnGo p.tables e below _ (T167.setTop (mkF m 79 #[l0, l1, l2, l3, l4, .val (.int (2 : Int32)), .val (.int k0), .val (.int k1), .val (.int k2), .val (.int k3), .unset, .unset] [(.ref b154)]))
      refine OwnGo.of (B := T167.setTop (mkF m 83 #[l0, l1, l2, l3, l4, .val (.int (2 : Int32)), .val (.int k0), .val (.int k1), .val (.int k2), .val (.int k3), .unset, .unset] [(.int k1), (.int (1 : Int32)), (.ref b154), (.ref b154)])) (fun t k => ?_) ?_
      · show Steps p.tables e below (T167.setTop (mkF m 79 #[l0, l1, l2, l3, l4, .val (.int (2 : Int32)), .val (.int k0), .val (.int k1), .val (.int k2), .val (.int k3), .unset, .unset] [(.ref b154)])) t
        refine XS.dup X167.here hx rfl (hb hby at_79) rfl rfl ?_
        refine XS.iconst X167.here hx rfl (hb hby at_80) ?_
        refine XS.iload X167.here hx rfl (hb hby at_81) rfl ?_
        exact k
      have cq180 := f179
      obtain ⟨clq180, Arq180, qq180, Sq180, Nq180, Hq180, Gq180⟩ := cq180
      obtain ⟨T181, h181, X181, e181, W181, st181⟩ := stC X167 hx hZ e167 Arq180 (j := (1 : Int32)) (inb_of Sq180 ⟨by decide, by decide⟩) (g := (mkF m 83 #[l0, l1, l2, l3, l4, .val (.int (2 : Int32)), .val (.int k0), .val (.int k1), .val (.int k2), .val (.int k3), .unset, .unset] [(.int k1), (.int (1 : Int32)), (.ref b154), (.ref b154)])) rfl rfl (hb hby at_83)
      refine OwnGo.of st181 ?_
      have N181 := Fr.snoc X181 N167 g_b154
      have cs182 := CHr.wr W181 f178 f172.1
      have f183 := Nat.le_trans f169 (Keep.of_wr W181).1
      have f184 := f170.wr W181 (Or.inr sz_b154)
      have f185 := f171.wr W181
      have f186 := f172.trans cs182
      have f187 := f173.wr W181
      have f188 := f174.wr W181
      have f189 := f175.wr W181
      have f190 := f176.wr W181
      have f191 := f177.wr W181
      have f192 := cs182.safe f179.lt f178
      have f193 : Arv Z h181 b154 kq154 .char (2 : Int32) [(.int (k0).toUInt32.toUInt16.toUInt32.toInt32), (.int (k1).toUInt32.toUInt16.toUInt32.toInt32)] (.int (0 : Int32)) := Arv.set Arq180 qq180 Sq180 Nq180 Hq180 Gq180 (fits_nar_char _) W181 1 rfl (Nat.le_of_ble_eq_true rfl)
      show OwnGo p.tables e below _ (T181.setTop (mkF m 84 #[l0, l1, l2, l3, l4, .val (.int (2 : Int32)), .val (.int k0), .val (.int k1), .val (.int k2), .val (.int k3), .unset, .unset] [(.ref b154)]))
      refine OwnGo.of (B := T181.setTop (mkF m 143 #[l0, l1, l2, l3, l4, .val (.int (2 : Int32)), .val (.int k0), .val (.int k1), .val (.int k2), .val (.int k3), .val (.ref b154), .unset] [])) (fun t k => ?_) ?_
      · show Steps p.tables e below (T181.setTop (mkF m 84 #[l0, l1, l2, l3, l4, .val (.int (2 : Int32)), .val (.int k0), .val (.int k1), .val (.int k2), .val (.int k3), .unset, .unset] [(.ref b154)])) t
        refine XS.astore X181.here hx rfl (hb hby at_84) rfl rfl (l' := #[l0, l1, l2, l3, l4, .val (.int (2 : Int32)), .val (.int k0), .val (.int k1), .val (.int k2), .val (.int k3), .val (.ref b154), .unset]) rfl ?_
        refine XS.goto X181.here hx rfl (pc0 := 86) (pc' := 143) rfl (hb hby at_86) (by decide) (by decide) ?_
        exact k
      have f194 := f193
      rw [own_c16E hc0, own_c16E hc1] at f194
      refine OwnGo.of (B := T181.setTop (mkF m 145 #[l0, l1, l2, l3, l4, .val (.int (2 : Int32)), .val (.int k0), .val (.int k1), .val (.int k2), .val (.int k3), .val (.ref b154), .unset] [(.int (2 : Int32))])) (fun t k => ?_) ?_
      · show Steps p.tables e below (T181.setTop (mkF m 143 #[l0, l1, l2, l3, l4, .val (.int (2 : Int32)), .val (.int k0), .val (.int k1), .val (.int k2), .val (.int k3), .val (.ref b154), .unset] [])) t
        refine XS.iload X181.here hx rfl (hb hby at_143) rfl ?_
        exact k
      have hc195 : (0 : Int32) < (2 : Int32) := by decide
      refine OwnGo.of (B := T181.setTop (mkF m 150 #[l0, l1, l2, l3, l4, .val (.int (2 : Int32)), .val (.int k0), .val (.int k1), .val (.int k2), .val (.int k3), .val (.ref b154), .unset] [(.int k0)])) (fun t k => ?_) ?_
      · show Steps p.tables e below (T181.setTop (mkF m 145 #[l0, l1, l2, l3, l4, .val (.int (2 : Int32)), .val (.int k0), .val (.int k1), .val (.int k2), .val (.int k3), .val (.ref b154), .unset] [(.int (2 : Int32))])) t
        refine XS.ifNo X181.here hx rfl (hb hby at_145) rfl ((if0 _ _).trans (tlt hc195).2.2.2) ?_
        refine XS.iload X181.here hx rfl (hb hby at_148) rfl ?_
        exact k
      obtain ⟨T196, L196, v196, X196, hQ196, st196⟩ := own_callS X181 hx (y := (⟨"dev/boundaryline/model/HeaderValueIsTokenPinLaw", "tokenChar", "(C)Z"⟩ : MethodName)) hown (mvT hZ (w36 hw)) (mvT hZ (w37 hw)) (mvT hZ (w3 hw)) (mvT hZ (w38 hw)) (by decide) (backOf (W := 0) (rm7 l Z aw hw [] k0  h181 n0 f183 ) hZ (w38 hw) (w3 hw) (by decide) (by decide)) (g := (mkF m 150 #[l0, l1, l2, l3, l4, .val (.int (2 : Int32)), .val (.int k0), .val (.int k1), .val (.int k2), .val (.int k3), .val (.ref b154), .unset] [(.int k0)])) rfl (by rw [hml]; rfl) (argsL := [(.int k0)]) (rest := []) (lenOf pd_138 rfl) rfl (by show 2 * 0 + _ ≤ _; exact Nat.le_of_eq rfl) (hb hby at_150) rfl e181 (by decide) (by decide)
      obtain ⟨rfl, N196q, eq196⟩ := hQ196
      have N196 := Fr.app N181 N196q
      refine OwnGo.of st196 ?_
      show OwnGo p.tables e below _ (T196.setTop (mkF m 153 #[l0, l1, l2, l3, l4, .val (.int (2 : Int32)), .val (.int k0), .val (.int k1), .val (.int k2), .val (.int k3), .val (.ref b154), .unset] [(.int (own_b (own_tok k0)))]))
      by_cases hc197 : (own_b (own_tok k0)) = (0 : Int32)
      · have tk198 := own_b0 hc197
        refine OwnGo.of (B := T196.setTop (mkF m 205 #[l0, l1, l2, l3, l4, .val (.int (2 : Int32)), .val (.int k0), .val (.int k1), .val (.int k2), .val (.int k3), .val (.ref b154), .val (.int (0 : Int32))] [])) (fun t k => ?_) ?_
        · show Steps p.tables e below (T196.setTop (mkF m 153 #[l0, l1, l2, l3, l4, .val (.int (2 : Int32)), .val (.int k0), .val (.int k1), .val (.int k2), .val (.int k3), .val (.ref b154), .unset] [(.int (own_b (own_tok k0)))])) t
          refine XS.ifYes X196.here hx rfl (pc0 := 153) (pc' := 202) rfl (hb hby at_153) rfl ((if0 _ _).trans (teq hc197).1) (by decide) (by decide) ?_
          refine XS.iconst X196.here hx rfl (hb hby at_202) ?_
          refine XS.istore X196.here hx rfl (hb hby at_203) rfl (l' := #[l0, l1, l2, l3, l4, .val (.int (2 : Int32)), .val (.int k0), .val (.int k1), .val (.int k2), .val (.int k3), .val (.ref b154), .val (.int (0 : Int32))]) rfl ?_
          exact k
        exact J205_g (l0) (l1) (l2) (l3) (l4) (.val (.int (2 : Int32))) (.val (.int k0)) (.val (.int k1)) (.val (.int k2)) (.val (.int k3)) T196 _ _ b154 kq154 k0 k1 k2 k3 (X196.more (by decide) (by decide)) eq196 N196 f183 f184 f185 f186 hc0 hc1 hc2 hc3 ([k0, k1] : List Int32) f194 (own_hS hc0 (own_hS hc1 own_h0)) (Nat.le_of_ble_eq_true rfl) (Nat.le_of_ble_eq_true rfl) (0 : Int32) (own_eF (fun q => tk198 (q.2 _ (List.mem_of_getElem? (i := 0) rfl))))
      · have tk199 := own_b1 hc197
        refine OwnGo.of (B := T196.setTop (mkF m 159 #[l0, l1, l2, l3, l4, .val (.int (2 : Int32)), .val (.int k0), .val (.int k1), .val (.int k2), .val (.int k3), .val (.ref b154), .unset] [(.int (2 : Int32)), (.int (2 : Int32))])) (fun t k => ?_) ?_
        · show Steps p.tables e below (T196.setTop (mkF m 153 #[l0, l1, l2, l3, l4, .val (.int (2 : Int32)), .val (.int k0), .val (.int k1), .val (.int k2), .val (.int k3), .val (.ref b154), .unset] [(.int (own_b (own_tok k0)))])) t
          refine XS.ifNo X196.here hx rfl (hb hby at_153) rfl ((if0 _ _).trans (feq hc197).1) ?_
          refine XS.iload X196.here hx rfl (hb hby at_156) rfl ?_
          refine XS.iconst X196.here hx rfl (hb hby at_158) ?_
          exact k
        have hc200 : ¬ ((2 : Int32) < (2 : Int32)) := by decide
        refine OwnGo.of (B := T196.setTop (mkF m 164 #[l0, l1, l2, l3, l4, .val (.int (2 : Int32)), .val (.int k0), .val (.int k1), .val (.int k2), .val (.int k3), .val (.ref b154), .unset] [(.int k1)])) (fun t k => ?_) ?_
        · show Steps p.tables e below (T196.setTop (mkF m 159 #[l0, l1, l2, l3, l4, .val (.int (2 : Int32)), .val (.int k0), .val (.int k1), .val (.int k2), .val (.int k3), .val (.ref b154), .unset] [(.int (2 : Int32)), (.int (2 : Int32))])) t
          refine XS.icmpNo X196.here hx rfl (hb hby at_159) rfl (flt hc200).1 ?_
          refine XS.iload X196.here hx rfl (hb hby at_162) rfl ?_
          exact k
        obtain ⟨T201, L201, v201, X201, hQ201, st201⟩ := own_callS X196 hx (y := (⟨"dev/boundaryline/model/HeaderValueIsTokenPinLaw", "tokenChar", "(C)Z"⟩ : MethodName)) hown (mvT hZ (w36 hw)) (mvT hZ (w37 hw)) (mvT hZ (w3 hw)) (mvT hZ (w38 hw)) (by decide) (backOf (W := 0) (rm7 l Z aw hw [] k1  h181 n0 f183 ) hZ (w38 hw) (w3 hw) (by decide) (by decide)) (g := (mkF m 164 #[l0, l1, l2, l3, l4, .val (.int (2 : Int32)), .val (.int k0), .val (.int k1), .val (.int k2), .val (.int k3), .val (.ref b154), .unset] [(.int k1)])) rfl (by rw [hml]; rfl) (argsL := [(.int k1)]) (rest := []) (lenOf pd_138 rfl) rfl (by show 2 * 0 + _ ≤ _; exact Nat.le_of_eq rfl) (hb hby at_164) rfl eq196 (by decide) (by decide)
        obtain ⟨rfl, N201q, eq201⟩ := hQ201
        have N201 := Fr.app N196 N201q
        refine OwnGo.of st201 ?_
        show OwnGo p.tables e below _ (T201.setTop (mkF m 167 #[l0, l1, l2, l3, l4, .val (.int (2 : Int32)), .val (.int k0), .val (.int k1), .val (.int k2), .val (.int k3), .val (.ref b154), .unset] [(.int (own_b (own_tok k1)))]))
        by_cases hc202 : (own_b (own_tok k1)) = (0 : Int32)
        · have tk203 := own_b0 hc202
          refine OwnGo.of (B := T201.setTop (mkF m 205 #[l0, l1, l2, l3, l4, .val (.int (2 : Int32)), .val (.int k0), .val (.int k1), .val (.int k2), .val (.int k3), .val (.ref b154), .val (.int (0 : Int32))] [])) (fun t k => ?_) ?_
          · show Steps p.tables e below (T201.setTop (mkF m 167 #[l0, l1, l2, l3, l4, .val (.int (2 : Int32)), .val (.int k0), .val (.int k1), .val (.int k2), .val (.int k3), .val (.ref b154), .unset] [(.int (own_b (own_tok k1)))])) t
            refine XS.ifYes X201.here hx rfl (pc0 := 167) (pc' := 202) rfl (hb hby at_167) rfl ((if0 _ _).trans (teq hc202).1) (by decide) (by decide) ?_
            refine XS.iconst X201.here hx rfl (hb hby at_202) ?_
            refine XS.istore X201.here hx rfl (hb hby at_203) rfl (l' := #[l0, l1, l2, l3, l4, .val (.int (2 : Int32)), .val (.int k0), .val (.int k1), .val (.int k2), .val (.int k3), .val (.ref b154), .val (.int (0 : Int32))]) rfl ?_
            exact k
          exact J205_g (l0) (l1) (l2) (l3) (l4) (.val (.int (2 : Int32))) (.val (.int k0)) (.val (.int k1)) (.val (.int k2)) (.val (.int k3)) T201 _ _ b154 kq154 k0 k1 k2 k3 (X201.more (by decide) (by decide)) eq201 N201 f183 f184 f185 f186 hc0 hc1 hc2 hc3 ([k0, k1] : List Int32) f194 (own_hS hc0 (own_hS hc1 own_h0)) (Nat.le_of_ble_eq_true rfl) (Nat.le_of_ble_eq_true rfl) (0 : Int32) (own_eF (fun q => tk203 (q.2 _ (List.mem_of_getElem? (i := 1) rfl))))
        · have tk204 := own_b1 hc202
          refine OwnGo.of (B := T201.setTop (mkF m 173 #[l0, l1, l2, l3, l4, .val (.int (2 : Int32)), .val (.int k0), .val (.int k1), .val (.int k2), .val (.int k3), .val (.ref b154), .unset] [(.int (3 : Int32)), (.int (2 : Int32))])) (fun t k => ?_) ?_
          · show Steps p.tables e below (T201.setTop (mkF m 167 #[l0, l1, l2, l3, l4, .val (.int (2 : Int32)), .val (.int k0), .val (.int k1), .val (.int k2), .val (.int k3), .val (.ref b154), .unset] [(.int (own_b (own_tok k1)))])) t
            refine XS.ifNo X201.here hx rfl (hb hby at_167) rfl ((if0 _ _).trans (feq hc202).1) ?_
            refine XS.iload X201.here hx rfl (hb hby at_170) rfl ?_
            refine XS.iconst X201.here hx rfl (hb hby at_172) ?_
            exact k
          have hc205 : (2 : Int32) < (3 : Int32) := by decide
          refine OwnGo.of (B := T201.setTop (mkF m 187 #[l0, l1, l2, l3, l4, .val (.int (2 : Int32)), .val (.int k0), .val (.int k1), .val (.int k2), .val (.int k3), .val (.ref b154), .unset] [(.int (4 : Int32)), (.int (2 : Int32))])) (fun t k => ?_) ?_
          · show Steps p.tables e below (T201.setTop (mkF m 173 #[l0, l1, l2, l3, l4, .val (.int (2 : Int32)), .val (.int k0), .val (.int k1), .val (.int k2), .val (.int k3), .val (.ref b154), .unset] [(.int (3 : Int32)), (.int (2 : Int32))])) t
            refine XS.icmpYes X201.here hx rfl (pc0 := 173) (pc' := 184) rfl (hb hby at_173) rfl (tlt hc205).1 (by decide) (by decide) ?_
            refine XS.iload X201.here hx rfl (hb hby at_184) rfl ?_
            refine XS.iconst X201.here hx rfl (hb hby at_186) ?_
            exact k
          have hc206 : (2 : Int32) < (4 : Int32) := by decide
          refine OwnGo.of (B := T201.setTop (mkF m 205 #[l0, l1, l2, l3, l4, .val (.int (2 : Int32)), .val (.int k0), .val (.int k1), .val (.int k2), .val (.int k3), .val (.ref b154), .val (.int (1 : Int32))] [])) (fun t k => ?_) ?_
          · show Steps p.tables e below (T201.setTop (mkF m 187 #[l0, l1, l2, l3, l4, .val (.int (2 : Int32)), .val (.int k0), .val (.int k1), .val (.int k2), .val (.int k3), .val (.ref b154), .unset] [(.int (4 : Int32)), (.int (2 : Int32))])) t
            refine XS.icmpYes X201.here hx rfl (pc0 := 187) (pc' := 198) rfl (hb hby at_187) rfl (tlt hc206).1 (by decide) (by decide) ?_
            refine XS.iconst X201.here hx rfl (hb hby at_198) ?_
            refine XS.goto X201.here hx rfl (pc0 := 199) (pc' := 203) rfl (hb hby at_199) (by decide) (by decide) ?_
            refine XS.istore X201.here hx rfl (hb hby at_203) rfl (l' := #[l0, l1, l2, l3, l4, .val (.int (2 : Int32)), .val (.int k0), .val (.int k1), .val (.int k2), .val (.int k3), .val (.ref b154), .val (.int (1 : Int32))]) rfl ?_
            exact k
          exact J205_g (l0) (l1) (l2) (l3) (l4) (.val (.int (2 : Int32))) (.val (.int k0)) (.val (.int k1)) (.val (.int k2)) (.val (.int k3)) T201 _ _ b154 kq154 k0 k1 k2 k3 (X201.more (by decide) (by decide)) eq201 N201 f183 f184 f185 f186 hc0 hc1 hc2 hc3 ([k0, k1] : List Int32) f194 (own_hS hc0 (own_hS hc1 own_h0)) (Nat.le_of_ble_eq_true rfl) (Nat.le_of_ble_eq_true rfl) (1 : Int32) (own_eT ⟨(fun q => nomatch q), (own_hS tk199 (own_hS tk204 own_h0))⟩)
    · show OwnGo p.tables e below _ (Tj.setTop (mkF m 33 #[l0, l1, l2, l3, l4, .val (.int (3 : Int32)), .val (.int k0), .val (.int k1), .val (.int k2), .val (.int k3), .unset, .unset] []))
      refine OwnGo.of (B := Tj.setTop (mkF m 35 #[l0, l1, l2, l3, l4, .val (.int (3 : Int32)), .val (.int k0), .val (.int k1), .val (.int k2), .val (.int k3), .unset, .unset] [(.int (3 : Int32))])) (fun t k => ?_) ?_
      · show Steps p.tables e below (Tj.setTop (mkF m 33 #[l0, l1, l2, l3, l4, .val (.int (3 : Int32)), .val (.int k0), .val (.int k1), .val (.int k2), .val (.int k3), .unset, .unset] [])) t
        refine XS.iload Xj.here hx rfl (hb hby at_33) rfl ?_
        exact k
      have hc207 : ¬ ((3 : Int32) = (0 : Int32)) := by decide
      refine OwnGo.of (B := Tj.setTop (mkF m 49 #[l0, l1, l2, l3, l4, .val (.int (3 : Int32)), .val (.int k0), .val (.int k1), .val (.int k2), .val (.int k3), .unset, .unset] [(.int (1 : Int32)), (.int (3 : Int32))])) (fun t k => ?_) ?_
      · show Steps p.tables e below (Tj.setTop (mkF m 35 #[l0, l1, l2, l3, l4, .val (.int (3 : Int32)), .val (.int k0), .val (.int k1), .val (.int k2), .val (.int k3), .unset, .unset] [(.int (3 : Int32))])) t
        refine XS.ifYes Xj.here hx rfl (pc0 := 35) (pc' := 46) rfl (hb hby at_35) rfl ((if0 _ _).trans (feq hc207).2) (by decide) (by decide) ?_
        refine XS.iload Xj.here hx rfl (hb hby at_46) rfl ?_
        refine XS.iconst Xj.here hx rfl (hb hby at_48) ?_
        exact k
      have hc208 : ¬ ((3 : Int32) = (1 : Int32)) := by decide
      refine OwnGo.of (B := Tj.setTop (mkF m 68 #[l0, l1, l2, l3, l4, .val (.int (3 : Int32)), .val (.int k0), .val (.int k1), .val (.int k2), .val (.int k3), .unset, .unset] [(.int (2 : Int32)), (.int (3 : Int32))])) (fun t k => ?_) ?_
      · show Steps p.tables e below (Tj.setTop (mkF m 49 #[l0, l1, l2, l3, l4, .val (.int (3 : Int32)), .val (.int k0), .val (.int k1), .val (.int k2), .val (.int k3), .unset, .unset] [(.int (1 : Int32)), (.int (3 : Int32))])) t
        refine XS.icmpYes Xj.here hx rfl (pc0 := 49) (pc' := 65) rfl (hb hby at_49) rfl (feq hc208).2 (by decide) (by decide) ?_
        refine XS.iload Xj.here hx rfl (hb hby at_65) rfl ?_
        refine XS.iconst Xj.here hx rfl (hb hby at_67) ?_
        exact k
      have hc209 : ¬ ((3 : Int32) = (2 : Int32)) := by decide
      refine OwnGo.of (B := Tj.setTop (mkF m 92 #[l0, l1, l2, l3, l4, .val (.int (3 : Int32)), .val (.int k0), .val (.int k1), .val (.int k2), .val (.int k3), .unset, .unset] [(.int (3 : Int32)), (.int (3 : Int32))])) (fun t k => ?_) ?_
      · show Steps p.tables e below (Tj.setTop (mkF m 68 #[l0, l1, l2, l3, l4, .val (.int (3 : Int32)), .val (.int k0), .val (.int k1), .val (.int k2), .val (.int k3), .unset, .unset] [(.int (2 : Int32)), (.int (3 : Int32))])) t
        refine XS.icmpYes Xj.here hx rfl (pc0 := 68) (pc' := 89) rfl (hb hby at_68) rfl (feq hc209).2 (by decide) (by decide) ?_
        refine XS.iload Xj.here hx rfl (hb hby at_89) rfl ?_
        refine XS.iconst Xj.here hx rfl (hb hby at_91) ?_
        exact k
      have hc210 : (3 : Int32) = (3 : Int32) := by decide
      refine OwnGo.of (B := Tj.setTop (mkF m 96 #[l0, l1, l2, l3, l4, .val (.int (3 : Int32)), .val (.int k0), .val (.int k1), .val (.int k2), .val (.int k3), .unset, .unset] [(.int (3 : Int32))])) (fun t k => ?_) ?_
      · show Steps p.tables e below (Tj.setTop (mkF m 92 #[l0, l1, l2, l3, l4, .val (.int (3 : Int32)), .val (.int k0), .val (.int k1), .val (.int k2), .val (.int k3), .unset, .unset] [(.int (3 : Int32)), (.int (3 : Int32))])) t
        refine XS.icmpNo Xj.here hx rfl (hb hby at_92) rfl (teq hc210).2 ?_
        refine XS.iconst Xj.here hx rfl (hb hby at_95) ?_
        exact k
      obtain ⟨T211, h211, kq211, X211, e211, E211, A211, st211⟩ := newP (aty := .char) Xj hx hZ (w5 hw) ej (g := (mkF m 96 #[l0, l1, l2, l3, l4, .val (.int (3 : Int32)), .val (.int k0), .val (.int k1), .val (.int k2), .val (.int k3), .unset, .unset] [(.int (3 : Int32))])) rfl (hb hby at_96) rfl (by decide) (cap := 3) (by decide) (by decide) (by decide) (by decide)
      obtain ⟨b211, g211⟩ : ∃ z, z = hj.size := ⟨_, rfl⟩
      rw [← g211] at A211 st211
      refine OwnGo.of st211 ?_
      have gn_b211 : Safe Z consts_1 s.vm h211 b211 := Safe.ext E211 Cj.1 (Safe.new (Nat.le_of_eq g211.symm))
      have g_b211 : n0 ≤ b211 := Nat.le_trans Zj (Nat.le_of_eq g211.symm)
      have sz_b211 : h0.size ≤ b211 := Nat.le_trans Kj.1 (Nat.le_of_eq g211.symm)
      have cs212 := CHr.ext E211 Cj.1
      have f213 := Nat.le_trans Zj E211.1
      have f214 := Kj.ext E211
      have f215 := Bj.ext E211
      have f216 := Cj.trans cs212
      have f217 := f50.ext E211
      have f218 := f51.ext E211
      have f219 := f52.ext E211
      have f220 := f53.ext E211
      have f221 := f54.ext E211
      have f222 : Arv Z h211 b211 kq211 .char (3 : Int32) [(.int (0 : Int32)), (.int (0 : Int32)), (.int (0 : Int32))] (.int (0 : Int32)) := (Arv.new A211 (by decide)).pad (pad_rep [] (.int (0 : Int32)) 3)
      show OwnGo p.tables e below _ (T211.setTop (mkF m 98 #[l0, l1, l2, l3, l4, .val (.int (3 : Int32)), .val (.int k0), .val (.int k1), .val (.int k2), .val (.int k3), .unset, .unset] [(.ref b211)]))
      refine OwnGo.of (B := T211.setTop (mkF m 102 #[l0, l1, l2, l3, l4, .val (.int (3 : Int32)), .val (.int k0), .val (.int k1), .val (.int k2), .val (.int k3), .unset, .unset] [(.int k0), (.int (0 : Int32)), (.ref b211), (.ref b211)])) (fun t k => ?_) ?_
      · show Steps p.tables e below (T211.setTop (mkF m 98 #[l0, l1, l2, l3, l4, .val (.int (3 : Int32)), .val (.int k0), .val (.int k1), .val (.int k2), .val (.int k3), .unset, .unset] [(.ref b211)])) t
        refine XS.dup X211.here hx rfl (hb hby at_98) rfl rfl ?_
        refine XS.iconst X211.here hx rfl (hb hby at_99) ?_
        refine XS.iload X211.here hx rfl (hb hby at_100) rfl ?_
        exact k
      have cq223 := f222
      obtain ⟨clq223, Arq223, qq223, Sq223, Nq223, Hq223, Gq223⟩ := cq223
      obtain ⟨T224, h224, X224, e224, W224, st224⟩ := stC X211 hx hZ e211 Arq223 (j := (0 : Int32)) (inb_of Sq223 ⟨by decide, by decide⟩) (g := (mkF m 102 #[l0, l1, l2, l3, l4, .val (.int (3 : Int32)), .val (.int k0), .val (.int k1), .val (.int k2), .val (.int k3), .unset, .unset] [(.int k0), (.int (0 : Int32)), (.ref b211), (.ref b211)])) rfl rfl (hb hby at_102)
      refine OwnGo.of st224 ?_
      have N224 := Fr.snoc X224 Nj g_b211
      have cs225 := CHr.wr W224 gn_b211 f216.1
      have f226 := Nat.le_trans f213 (Keep.of_wr W224).1
      have f227 := f214.wr W224 (Or.inr sz_b211)
      have f228 := f215.wr W224
      have f229 := f216.trans cs225
      have f230 := f217.wr W224
      have f231 := f218.wr W224
      have f232 := f219.wr W224
      have f233 := f220.wr W224
      have f234 := f221.wr W224
      have f235 := cs225.safe f222.lt gn_b211
      have f236 : Arv Z h224 b211 kq211 .char (3 : Int32) [(.int (k0).toUInt32.toUInt16.toUInt32.toInt32), (.int (0 : Int32)), (.int (0 : Int32))] (.int (0 : Int32)) := Arv.set Arq223 qq223 Sq223 Nq223 Hq223 Gq223 (fits_nar_char _) W224 0 rfl (Nat.le_of_ble_eq_true rfl)
      show OwnGo p.tables e below _ (T224.setTop (mkF m 103 #[l0, l1, l2, l3, l4, .val (.int (3 : Int32)), .val (.int k0), .val (.int k1), .val (.int k2), .val (.int k3), .unset, .unset] [(.ref b211)]))
      refine OwnGo.of (B := T224.setTop (mkF m 107 #[l0, l1, l2, l3, l4, .val (.int (3 : Int32)), .val (.int k0), .val (.int k1), .val (.int k2), .val (.int k3), .unset, .unset] [(.int k1), (.int (1 : Int32)), (.ref b211), (.ref b211)])) (fun t k => ?_) ?_
      · show Steps p.tables e below (T224.setTop (mkF m 103 #[l0, l1, l2, l3, l4, .val (.int (3 : Int32)), .val (.int k0), .val (.int k1), .val (.int k2), .val (.int k3), .unset, .unset] [(.ref b211)])) t
        refine XS.dup X224.here hx rfl (hb hby at_103) rfl rfl ?_
        refine XS.iconst X224.here hx rfl (hb hby at_104) ?_
        refine XS.iload X224.here hx rfl (hb hby at_105) rfl ?_
        exact k
      have cq237 := f236
      obtain ⟨clq237, Arq237, qq237, Sq237, Nq237, Hq237, Gq237⟩ := cq237
      obtain ⟨T238, h238, X238, e238, W238, st238⟩ := stC X224 hx hZ e224 Arq237 (j := (1 : Int32)) (inb_of Sq237 ⟨by decide, by decide⟩) (g := (mkF m 107 #[l0, l1, l2, l3, l4, .val (.int (3 : Int32)), .val (.int k0), .val (.int k1), .val (.int k2), .val (.int k3), .unset, .unset] [(.int k1), (.int (1 : Int32)), (.ref b211), (.ref b211)])) rfl rfl (hb hby at_107)
      refine OwnGo.of st238 ?_
      have N238 := Fr.snoc X238 N224 g_b211
      have cs239 := CHr.wr W238 f235 f229.1
      have f240 := Nat.le_trans f226 (Keep.of_wr W238).1
      have f241 := f227.wr W238 (Or.inr sz_b211)
      have f242 := f228.wr W238
      have f243 := f229.trans cs239
      have f244 := f230.wr W238
      have f245 := f231.wr W238
      have f246 := f232.wr W238
      have f247 := f233.wr W238
      have f248 := f234.wr W238
      have f249 := cs239.safe f236.lt f235
      have f250 : Arv Z h238 b211 kq211 .char (3 : Int32) [(.int (k0).toUInt32.toUInt16.toUInt32.toInt32), (.int (k1).toUInt32.toUInt16.toUInt32.toInt32), (.int (0 : Int32))] (.int (0 : Int32)) := Arv.set Arq237 qq237 Sq237 Nq237 Hq237 Gq237 (fits_nar_char _) W238 1 rfl (Nat.le_of_ble_eq_true rfl)
      show OwnGo p.tables e below _ (T238.setTop (mkF m 108 #[l0, l1, l2, l3, l4, .val (.int (3 : Int32)), .val (.int k0), .val (.int k1), .val (.int k2), .val (.int k3), .unset, .unset] [(.ref b211)]))
      refine OwnGo.of (B := T238.setTop (mkF m 112 #[l0, l1, l2, l3, l4, .val (.int (3 : Int32)), .val (.int k0), .val (.int k1), .val (.int k2), .val (.int k3), .unset, .unset] [(.int k2), (.int (2 : Int32)), (.ref b211), (.ref b211)])) (fun t k => ?_) ?_
      · show Steps p.tables e below (T238.setTop (mkF m 108 #[l0, l1, l2, l3, l4, .val (.int (3 : Int32)), .val (.int k0), .val (.int k1), .val (.int k2), .val (.int k3), .unset, .unset] [(.ref b211)])) t
        refine XS.dup X238.here hx rfl (hb hby at_108) rfl rfl ?_
        refine XS.iconst X238.here hx rfl (hb hby at_109) ?_
        refine XS.iload X238.here hx rfl (hb hby at_110) rfl ?_
        exact k
      have cq251 := f250
      obtain ⟨clq251, Arq251, qq251, Sq251, Nq251, Hq251, Gq251⟩ := cq251
      obtain ⟨T252, h252, X252, e252, W252, st252⟩ := stC X238 hx hZ e238 Arq251 (j := (2 : Int32)) (inb_of Sq251 ⟨by decide, by decide⟩) (g := (mkF m 112 #[l0, l1, l2, l3, l4, .val (.int (3 : Int32)), .val (.int k0), .val (.int k1), .val (.int k2), .val (.int k3), .unset, .unset] [(.int k2), (.int (2 : Int32)), (.ref b211), (.ref b211)])) rfl rfl (hb hby at_112)
      refine OwnGo.of st252 ?_
      have N252 := Fr.snoc X252 N238 g_b211
      have cs253 := CHr.wr W252 f249 f243.1
      have f254 := Nat.le_trans f240 (Keep.of_wr W252).1
      have f255 := f241.wr W252 (Or.inr sz_b211)
      have f256 := f242.wr W252
      have f257 := f243.trans cs253
      have f258 := f244.wr W252
      have f259 := f245.wr W252
      have f260 := f246.wr W252
      have f261 := f247.wr W252
      have f262 := f248.wr W252
      have f263 := cs253.safe f250.lt f249
      have f264 : Arv Z h252 b211 kq211 .char (3 : Int32) [(.int (k0).toUInt32.toUInt16.toUInt32.toInt32), (.int (k1).toUInt32.toUInt16.toUInt32.toInt32), (.int (k2).toUInt32.toUInt16.toUInt32.toInt32)] (.int (0 : Int32)) := Arv.set Arq251 qq251 Sq251 Nq251 Hq251 Gq251 (fits_nar_char _) W252 2 rfl (Nat.le_of_ble_eq_true rfl)
      show OwnGo p.tables e below _ (T252.setTop (mkF m 113 #[l0, l1, l2, l3, l4, .val (.int (3 : Int32)), .val (.int k0), .val (.int k1), .val (.int k2), .val (.int k3), .unset, .unset] [(.ref b211)]))
      refine OwnGo.of (B := T252.setTop (mkF m 143 #[l0, l1, l2, l3, l4, .val (.int (3 : Int32)), .val (.int k0), .val (.int k1), .val (.int k2), .val (.int k3), .val (.ref b211), .unset] [])) (fun t k => ?_) ?_
      · show Steps p.tables e below (T252.setTop (mkF m 113 #[l0, l1, l2, l3, l4, .val (.int (3 : Int32)), .val (.int k0), .val (.int k1), .val (.int k2), .val (.int k3), .unset, .unset] [(.ref b211)])) t
        refine XS.astore X252.here hx rfl (hb hby at_113) rfl rfl (l' := #[l0, l1, l2, l3, l4, .val (.int (3 : Int32)), .val (.int k0), .val (.int k1), .val (.int k2), .val (.int k3), .val (.ref b211), .unset]) rfl ?_
        refine XS.goto X252.here hx rfl (pc0 := 115) (pc' := 143) rfl (hb hby at_115) (by decide) (by decide) ?_
        exact k
      have f265 := f264
      rw [own_c16E hc0, own_c16E hc1, own_c16E hc2] at f265
      refine OwnGo.of (B := T252.setTop (mkF m 145 #[l0, l1, l2, l3, l4, .val (.int (3 : Int32)), .val (.int k0), .val (.int k1), .val (.int k2), .val (.int k3), .val (.ref b211), .unset] [(.int (3 : Int32))])) (fun t k => ?_) ?_
      · show Steps p.tables e below (T252.setTop (mkF m 143 #[l0, l1, l2, l3, l4, .val (.int (3 : Int32)), .val (.int k0), .val (.int k1), .val (.int k2), .val (.int k3), .val (.ref b211), .unset] [])) t
        refine XS.iload X252.here hx rfl (hb hby at_143) rfl ?_
        exact k
      have hc266 : (0 : Int32) < (3 : Int32) := by decide
      refine OwnGo.of (B := T252.setTop (mkF m 150 #[l0, l1, l2, l3, l4, .val (.int (3 : Int32)), .val (.int k0), .val (.int k1), .val (.int k2), .val (.int k3), .val (.ref b211), .unset] [(.int k0)])) (fun t k => ?_) ?_
      · show Steps p.tables e below (T252.setTop (mkF m 145 #[l0, l1, l2, l3, l4, .val (.int (3 : Int32)), .val (.int k0), .val (.int k1), .val (.int k2), .val (.int k3), .val (.ref b211), .unset] [(.int (3 : Int32))])) t
        refine XS.ifNo X252.here hx rfl (hb hby at_145) rfl ((if0 _ _).trans (tlt hc266).2.2.2) ?_
        refine XS.iload X252.here hx rfl (hb hby at_148) rfl ?_
        exact k
      obtain ⟨T267, L267, v267, X267, hQ267, st267⟩ := own_callS X252 hx (y := (⟨"dev/boundaryline/model/HeaderValueIsTokenPinLaw", "tokenChar", "(C)Z"⟩ : MethodName)) hown (mvT hZ (w36 hw)) (mvT hZ (w37 hw)) (mvT hZ (w3 hw)) (mvT hZ (w38 hw)) (by decide) (backOf (W := 0) (rm7 l Z aw hw [] k0  h252 n0 f254 ) hZ (w38 hw) (w3 hw) (by decide) (by decide)) (g := (mkF m 150 #[l0, l1, l2, l3, l4, .val (.int (3 : Int32)), .val (.int k0), .val (.int k1), .val (.int k2), .val (.int k3), .val (.ref b211), .unset] [(.int k0)])) rfl (by rw [hml]; rfl) (argsL := [(.int k0)]) (rest := []) (lenOf pd_138 rfl) rfl (by show 2 * 0 + _ ≤ _; exact Nat.le_of_eq rfl) (hb hby at_150) rfl e252 (by decide) (by decide)
      obtain ⟨rfl, N267q, eq267⟩ := hQ267
      have N267 := Fr.app N252 N267q
      refine OwnGo.of st267 ?_
      show OwnGo p.tables e below _ (T267.setTop (mkF m 153 #[l0, l1, l2, l3, l4, .val (.int (3 : Int32)), .val (.int k0), .val (.int k1), .val (.int k2), .val (.int k3), .val (.ref b211), .unset] [(.int (own_b (own_tok k0)))]))
      by_cases hc268 : (own_b (own_tok k0)) = (0 : Int32)
      · have tk269 := own_b0 hc268
        refine OwnGo.of (B := T267.setTop (mkF m 205 #[l0, l1, l2, l3, l4, .val (.int (3 : Int32)), .val (.int k0), .val (.int k1), .val (.int k2), .val (.int k3), .val (.ref b211), .val (.int (0 : Int32))] [])) (fun t k => ?_) ?_
        · show Steps p.tables e below (T267.setTop (mkF m 153 #[l0, l1, l2, l3, l4, .val (.int (3 : Int32)), .val (.int k0), .val (.int k1), .val (.int k2), .val (.int k3), .val (.ref b211), .unset] [(.int (own_b (own_tok k0)))])) t
          refine XS.ifYes X267.here hx rfl (pc0 := 153) (pc' := 202) rfl (hb hby at_153) rfl ((if0 _ _).trans (teq hc268).1) (by decide) (by decide) ?_
          refine XS.iconst X267.here hx rfl (hb hby at_202) ?_
          refine XS.istore X267.here hx rfl (hb hby at_203) rfl (l' := #[l0, l1, l2, l3, l4, .val (.int (3 : Int32)), .val (.int k0), .val (.int k1), .val (.int k2), .val (.int k3), .val (.ref b211), .val (.int (0 : Int32))]) rfl ?_
          exact k
        exact J205_g (l0) (l1) (l2) (l3) (l4) (.val (.int (3 : Int32))) (.val (.int k0)) (.val (.int k1)) (.val (.int k2)) (.val (.int k3)) T267 _ _ b211 kq211 k0 k1 k2 k3 (X267.more (by decide) (by decide)) eq267 N267 f254 f255 f256 f257 hc0 hc1 hc2 hc3 ([k0, k1, k2] : List Int32) f265 (own_hS hc0 (own_hS hc1 (own_hS hc2 own_h0))) (Nat.le_of_ble_eq_true rfl) (Nat.le_of_ble_eq_true rfl) (0 : Int32) (own_eF (fun q => tk269 (q.2 _ (List.mem_of_getElem? (i := 0) rfl))))
      · have tk270 := own_b1 hc268
        refine OwnGo.of (B := T267.setTop (mkF m 159 #[l0, l1, l2, l3, l4, .val (.int (3 : Int32)), .val (.int k0), .val (.int k1), .val (.int k2), .val (.int k3), .val (.ref b211), .unset] [(.int (2 : Int32)), (.int (3 : Int32))])) (fun t k => ?_) ?_
        · show Steps p.tables e below (T267.setTop (mkF m 153 #[l0, l1, l2, l3, l4, .val (.int (3 : Int32)), .val (.int k0), .val (.int k1), .val (.int k2), .val (.int k3), .val (.ref b211), .unset] [(.int (own_b (own_tok k0)))])) t
          refine XS.ifNo X267.here hx rfl (hb hby at_153) rfl ((if0 _ _).trans (feq hc268).1) ?_
          refine XS.iload X267.here hx rfl (hb hby at_156) rfl ?_
          refine XS.iconst X267.here hx rfl (hb hby at_158) ?_
          exact k
        have hc271 : ¬ ((3 : Int32) < (2 : Int32)) := by decide
        refine OwnGo.of (B := T267.setTop (mkF m 164 #[l0, l1, l2, l3, l4, .val (.int (3 : Int32)), .val (.int k0), .val (.int k1), .val (.int k2), .val (.int k3), .val (.ref b211), .unset] [(.int k1)])) (fun t k => ?_) ?_
        · show Steps p.tables e below (T267.setTop (mkF m 159 #[l0, l1, l2, l3, l4, .val (.int (3 : Int32)), .val (.int k0), .val (.int k1), .val (.int k2), .val (.int k3), .val (.ref b211), .unset] [(.int (2 : Int32)), (.int (3 : Int32))])) t
          refine XS.icmpNo X267.here hx rfl (hb hby at_159) rfl (flt hc271).1 ?_
          refine XS.iload X267.here hx rfl (hb hby at_162) rfl ?_
          exact k
        obtain ⟨T272, L272, v272, X272, hQ272, st272⟩ := own_callS X267 hx (y := (⟨"dev/boundaryline/model/HeaderValueIsTokenPinLaw", "tokenChar", "(C)Z"⟩ : MethodName)) hown (mvT hZ (w36 hw)) (mvT hZ (w37 hw)) (mvT hZ (w3 hw)) (mvT hZ (w38 hw)) (by decide) (backOf (W := 0) (rm7 l Z aw hw [] k1  h252 n0 f254 ) hZ (w38 hw) (w3 hw) (by decide) (by decide)) (g := (mkF m 164 #[l0, l1, l2, l3, l4, .val (.int (3 : Int32)), .val (.int k0), .val (.int k1), .val (.int k2), .val (.int k3), .val (.ref b211), .unset] [(.int k1)])) rfl (by rw [hml]; rfl) (argsL := [(.int k1)]) (rest := []) (lenOf pd_138 rfl) rfl (by show 2 * 0 + _ ≤ _; exact Nat.le_of_eq rfl) (hb hby at_164) rfl eq267 (by decide) (by decide)
        obtain ⟨rfl, N272q, eq272⟩ := hQ272
        have N272 := Fr.app N267 N272q
        refine OwnGo.of st272 ?_
        show OwnGo p.tables e below _ (T272.setTop (mkF m 167 #[l0, l1, l2, l3, l4, .val (.int (3 : Int32)), .val (.int k0), .val (.int k1), .val (.int k2), .val (.int k3), .val (.ref b211), .unset] [(.int (own_b (own_tok k1)))]))
        by_cases hc273 : (own_b (own_tok k1)) = (0 : Int32)
        · have tk274 := own_b0 hc273
          refine OwnGo.of (B := T272.setTop (mkF m 205 #[l0, l1, l2, l3, l4, .val (.int (3 : Int32)), .val (.int k0), .val (.int k1), .val (.int k2), .val (.int k3), .val (.ref b211), .val (.int (0 : Int32))] [])) (fun t k => ?_) ?_
          · show Steps p.tables e below (T272.setTop (mkF m 167 #[l0, l1, l2, l3, l4, .val (.int (3 : Int32)), .val (.int k0), .val (.int k1), .val (.int k2), .val (.int k3), .val (.ref b211), .unset] [(.int (own_b (own_tok k1)))])) t
            refine XS.ifYes X272.here hx rfl (pc0 := 167) (pc' := 202) rfl (hb hby at_167) rfl ((if0 _ _).trans (teq hc273).1) (by decide) (by decide) ?_
            refine XS.iconst X272.here hx rfl (hb hby at_202) ?_
            refine XS.istore X272.here hx rfl (hb hby at_203) rfl (l' := #[l0, l1, l2, l3, l4, .val (.int (3 : Int32)), .val (.int k0), .val (.int k1), .val (.int k2), .val (.int k3), .val (.ref b211), .val (.int (0 : Int32))]) rfl ?_
            exact k
          exact J205_g (l0) (l1) (l2) (l3) (l4) (.val (.int (3 : Int32))) (.val (.int k0)) (.val (.int k1)) (.val (.int k2)) (.val (.int k3)) T272 _ _ b211 kq211 k0 k1 k2 k3 (X272.more (by decide) (by decide)) eq272 N272 f254 f255 f256 f257 hc0 hc1 hc2 hc3 ([k0, k1, k2] : List Int32) f265 (own_hS hc0 (own_hS hc1 (own_hS hc2 own_h0))) (Nat.le_of_ble_eq_true rfl) (Nat.le_of_ble_eq_true rfl) (0 : Int32) (own_eF (fun q => tk274 (q.2 _ (List.mem_of_getElem? (i := 1) rfl))))
        · have tk275 := own_b1 hc273
          refine OwnGo.of (B := T272.setTop (mkF m 173 #[l0, l1, l2, l3, l4, .val (.int (3 : Int32)), .val (.int k0), .val (.int k1), .val (.int k2), .val (.int k3), .val (.ref b211), .unset] [(.int (3 : Int32)), (.int (3 : Int32))])) (fun t k => ?_) ?_
          · show Steps p.tables e below (T272.setTop (mkF m 167 #[l0, l1, l2, l3, l4, .val (.int (3 : Int32)), .val (.int k0), .val (.int k1), .val (.int k2), .val (.int k3), .val (.ref b211), .unset] [(.int (own_b (own_tok k1)))])) t
            refine XS.ifNo X272.here hx rfl (hb hby at_167) rfl ((if0 _ _).trans (feq hc273).1) ?_
            refine XS.iload X272.here hx rfl (hb hby at_170) rfl ?_
            refine XS.iconst X272.here hx rfl (hb hby at_172) ?_
            exact k
          have hc276 : ¬ ((3 : Int32) < (3 : Int32)) := by decide
          refine OwnGo.of (B := T272.setTop (mkF m 178 #[l0, l1, l2, l3, l4, .val (.int (3 : Int32)), .val (.int k0), .val (.int k1), .val (.int k2), .val (.int k3), .val (.ref b211), .unset] [(.int k2)])) (fun t k => ?_) ?_
          · show Steps p.tables e below (T272.setTop (mkF m 173 #[l0, l1, l2, l3, l4, .val (.int (3 : Int32)), .val (.int k0), .val (.int k1), .val (.int k2), .val (.int k3), .val (.ref b211), .unset] [(.int (3 : Int32)), (.int (3 : Int32))])) t
            refine XS.icmpNo X272.here hx rfl (hb hby at_173) rfl (flt hc276).1 ?_
            refine XS.iload X272.here hx rfl (hb hby at_176) rfl ?_
            exact k
          obtain ⟨T277, L277, v277, X277, hQ277, st277⟩ := own_callS X272 hx (y := (⟨"dev/boundaryline/model/HeaderValueIsTokenPinLaw", "tokenChar", "(C)Z"⟩ : MethodName)) hown (mvT hZ (w36 hw)) (mvT hZ (w37 hw)) (mvT hZ (w3 hw)) (mvT hZ (w38 hw)) (by decide) (backOf (W := 0) (rm7 l Z aw hw [] k2  h252 n0 f254 ) hZ (w38 hw) (w3 hw) (by decide) (by decide)) (g := (mkF m 178 #[l0, l1, l2, l3, l4, .val (.int (3 : Int32)), .val (.int k0), .val (.int k1), .val (.int k2), .val (.int k3), .val (.ref b211), .unset] [(.int k2)])) rfl (by rw [hml]; rfl) (argsL := [(.int k2)]) (rest := []) (lenOf pd_138 rfl) rfl (by show 2 * 0 + _ ≤ _; exact Nat.le_of_eq rfl) (hb hby at_178) rfl eq272 (by decide) (by decide)
          obtain ⟨rfl, N277q, eq277⟩ := hQ277
          have N277 := Fr.app N272 N277q
          refine OwnGo.of st277 ?_
          show OwnGo p.tables e below _ (T277.setTop (mkF m 181 #[l0, l1, l2, l3, l4, .val (.int (3 : Int32)), .val (.int k0), .val (.int k1), .val (.int k2), .val (.int k3), .val (.ref b211), .unset] [(.int (own_b (own_tok k2)))]))
          by_cases hc278 : (own_b (own_tok k2)) = (0 : Int32)
          · have tk279 := own_b0 hc278
            refine OwnGo.of (B := T277.setTop (mkF m 205 #[l0, l1, l2, l3, l4, .val (.int (3 : Int32)), .val (.int k0), .val (.int k1), .val (.int k2), .val (.int k3), .val (.ref b211), .val (.int (0 : Int32))] [])) (fun t k => ?_) ?_
            · show Steps p.tables e below (T277.setTop (mkF m 181 #[l0, l1, l2, l3, l4, .val (.int (3 : Int32)), .val (.int k0), .val (.int k1), .val (.int k2), .val (.int k3), .val (.ref b211), .unset] [(.int (own_b (own_tok k2)))])) t
              refine XS.ifYes X277.here hx rfl (pc0 := 181) (pc' := 202) rfl (hb hby at_181) rfl ((if0 _ _).trans (teq hc278).1) (by decide) (by decide) ?_
              refine XS.iconst X277.here hx rfl (hb hby at_202) ?_
              refine XS.istore X277.here hx rfl (hb hby at_203) rfl (l' := #[l0, l1, l2, l3, l4, .val (.int (3 : Int32)), .val (.int k0), .val (.int k1), .val (.int k2), .val (.int k3), .val (.ref b211), .val (.int (0 : Int32))]) rfl ?_
              exact k
            exact J205_g (l0) (l1) (l2) (l3) (l4) (.val (.int (3 : Int32))) (.val (.int k0)) (.val (.int k1)) (.val (.int k2)) (.val (.int k3)) T277 _ _ b211 kq211 k0 k1 k2 k3 (X277.more (by decide) (by decide)) eq277 N277 f254 f255 f256 f257 hc0 hc1 hc2 hc3 ([k0, k1, k2] : List Int32) f265 (own_hS hc0 (own_hS hc1 (own_hS hc2 own_h0))) (Nat.le_of_ble_eq_true rfl) (Nat.le_of_ble_eq_true rfl) (0 : Int32) (own_eF (fun q => tk279 (q.2 _ (List.mem_of_getElem? (i := 2) rfl))))
          · have tk280 := own_b1 hc278
            refine OwnGo.of (B := T277.setTop (mkF m 187 #[l0, l1, l2, l3, l4, .val (.int (3 : Int32)), .val (.int k0), .val (.int k1), .val (.int k2), .val (.int k3), .val (.ref b211), .unset] [(.int (4 : Int32)), (.int (3 : Int32))])) (fun t k => ?_) ?_
            · show Steps p.tables e below (T277.setTop (mkF m 181 #[l0, l1, l2, l3, l4, .val (.int (3 : Int32)), .val (.int k0), .val (.int k1), .val (.int k2), .val (.int k3), .val (.ref b211), .unset] [(.int (own_b (own_tok k2)))])) t
              refine XS.ifNo X277.here hx rfl (hb hby at_181) rfl ((if0 _ _).trans (feq hc278).1) ?_
              refine XS.iload X277.here hx rfl (hb hby at_184) rfl ?_
              refine XS.iconst X277.here hx rfl (hb hby at_186) ?_
              exact k
            have hc281 : (3 : Int32) < (4 : Int32) := by decide
            refine OwnGo.of (B := T277.setTop (mkF m 205 #[l0, l1, l2, l3, l4, .val (.int (3 : Int32)), .val (.int k0), .val (.int k1), .val (.int k2), .val (.int k3), .val (.ref b211), .val (.int (1 : Int32))] [])) (fun t k => ?_) ?_
            · show Steps p.tables e below (T277.setTop (mkF m 187 #[l0, l1, l2, l3, l4, .val (.int (3 : Int32)), .val (.int k0), .val (.int k1), .val (.int k2), .val (.int k3), .val (.ref b211), .unset] [(.int (4 : Int32)), (.int (3 : Int32))])) t
              refine XS.icmpYes X277.here hx rfl (pc0 := 187) (pc' := 198) rfl (hb hby at_187) rfl (tlt hc281).1 (by decide) (by decide) ?_
              refine XS.iconst X277.here hx rfl (hb hby at_198) ?_
              refine XS.goto X277.here hx rfl (pc0 := 199) (pc' := 203) rfl (hb hby at_199) (by decide) (by decide) ?_
              refine XS.istore X277.here hx rfl (hb hby at_203) rfl (l' := #[l0, l1, l2, l3, l4, .val (.int (3 : Int32)), .val (.int k0), .val (.int k1), .val (.int k2), .val (.int k3), .val (.ref b211), .val (.int (1 : Int32))]) rfl ?_
              exact k
            exact J205_g (l0) (l1) (l2) (l3) (l4) (.val (.int (3 : Int32))) (.val (.int k0)) (.val (.int k1)) (.val (.int k2)) (.val (.int k3)) T277 _ _ b211 kq211 k0 k1 k2 k3 (X277.more (by decide) (by decide)) eq277 N277 f254 f255 f256 f257 hc0 hc1 hc2 hc3 ([k0, k1, k2] : List Int32) f265 (own_hS hc0 (own_hS hc1 (own_hS hc2 own_h0))) (Nat.le_of_ble_eq_true rfl) (Nat.le_of_ble_eq_true rfl) (1 : Int32) (own_eT ⟨(fun q => nomatch q), (own_hS tk270 (own_hS tk275 (own_hS tk280 own_h0)))⟩)
    · show OwnGo p.tables e below _ (Tj.setTop (mkF m 33 #[l0, l1, l2, l3, l4, .val (.int (4 : Int32)), .val (.int k0), .val (.int k1), .val (.int k2), .val (.int k3), .unset, .unset] []))
      refine OwnGo.of (B := Tj.setTop (mkF m 35 #[l0, l1, l2, l3, l4, .val (.int (4 : Int32)), .val (.int k0), .val (.int k1), .val (.int k2), .val (.int k3), .unset, .unset] [(.int (4 : Int32))])) (fun t k => ?_) ?_
      · show Steps p.tables e below (Tj.setTop (mkF m 33 #[l0, l1, l2, l3, l4, .val (.int (4 : Int32)), .val (.int k0), .val (.int k1), .val (.int k2), .val (.int k3), .unset, .unset] [])) t
        refine XS.iload Xj.here hx rfl (hb hby at_33) rfl ?_
        exact k
      have hc282 : ¬ ((4 : Int32) = (0 : Int32)) := by decide
      refine OwnGo.of (B := Tj.setTop (mkF m 49 #[l0, l1, l2, l3, l4, .val (.int (4 : Int32)), .val (.int k0), .val (.int k1), .val (.int k2), .val (.int k3), .unset, .unset] [(.int (1 : Int32)), (.int (4 : Int32))])) (fun t k => ?_) ?_
      · show Steps p.tables e below (Tj.setTop (mkF m 35 #[l0, l1, l2, l3, l4, .val (.int (4 : Int32)), .val (.int k0), .val (.int k1), .val (.int k2), .val (.int k3), .unset, .unset] [(.int (4 : Int32))])) t
        refine XS.ifYes Xj.here hx rfl (pc0 := 35) (pc' := 46) rfl (hb hby at_35) rfl ((if0 _ _).trans (feq hc282).2) (by decide) (by decide) ?_
        refine XS.iload Xj.here hx rfl (hb hby at_46) rfl ?_
        refine XS.iconst Xj.here hx rfl (hb hby at_48) ?_
        exact k
      have hc283 : ¬ ((4 : Int32) = (1 : Int32)) := by decide
      refine OwnGo.of (B := Tj.setTop (mkF m 68 #[l0, l1, l2, l3, l4, .val (.int (4 : Int32)), .val (.int k0), .val (.int k1), .val (.int k2), .val (.int k3), .unset, .unset] [(.int (2 : Int32)), (.int (4 : Int32))])) (fun t k => ?_) ?_
      · show Steps p.tables e below (Tj.setTop (mkF m 49 #[l0, l1, l2, l3, l4, .val (.int (4 : Int32)), .val (.int k0), .val (.int k1), .val (.int k2), .val (.int k3), .unset, .unset] [(.int (1 : Int32)), (.int (4 : Int32))])) t
        refine XS.icmpYes Xj.here hx rfl (pc0 := 49) (pc' := 65) rfl (hb hby at_49) rfl (feq hc283).2 (by decide) (by decide) ?_
        refine XS.iload Xj.here hx rfl (hb hby at_65) rfl ?_
        refine XS.iconst Xj.here hx rfl (hb hby at_67) ?_
        exact k
      have hc284 : ¬ ((4 : Int32) = (2 : Int32)) := by decide
      refine OwnGo.of (B := Tj.setTop (mkF m 92 #[l0, l1, l2, l3, l4, .val (.int (4 : Int32)), .val (.int k0), .val (.int k1), .val (.int k2), .val (.int k3), .unset, .unset] [(.int (3 : Int32)), (.int (4 : Int32))])) (fun t k => ?_) ?_
      · show Steps p.tables e below (Tj.setTop (mkF m 68 #[l0, l1, l2, l3, l4, .val (.int (4 : Int32)), .val (.int k0), .val (.int k1), .val (.int k2), .val (.int k3), .unset, .unset] [(.int (2 : Int32)), (.int (4 : Int32))])) t
        refine XS.icmpYes Xj.here hx rfl (pc0 := 68) (pc' := 89) rfl (hb hby at_68) rfl (feq hc284).2 (by decide) (by decide) ?_
        refine XS.iload Xj.here hx rfl (hb hby at_89) rfl ?_
        refine XS.iconst Xj.here hx rfl (hb hby at_91) ?_
        exact k
      have hc285 : ¬ ((4 : Int32) = (3 : Int32)) := by decide
      refine OwnGo.of (B := Tj.setTop (mkF m 119 #[l0, l1, l2, l3, l4, .val (.int (4 : Int32)), .val (.int k0), .val (.int k1), .val (.int k2), .val (.int k3), .unset, .unset] [(.int (4 : Int32))])) (fun t k => ?_) ?_
      · show Steps p.tables e below (Tj.setTop (mkF m 92 #[l0, l1, l2, l3, l4, .val (.int (4 : Int32)), .val (.int k0), .val (.int k1), .val (.int k2), .val (.int k3), .unset, .unset] [(.int (3 : Int32)), (.int (4 : Int32))])) t
        refine XS.icmpYes Xj.here hx rfl (pc0 := 92) (pc' := 118) rfl (hb hby at_92) rfl (feq hc285).2 (by decide) (by decide) ?_
        refine XS.iconst Xj.here hx rfl (hb hby at_118) ?_
        exact k
      obtain ⟨T286, h286, kq286, X286, e286, E286, A286, st286⟩ := newP (aty := .char) Xj hx hZ (w5 hw) ej (g := (mkF m 119 #[l0, l1, l2, l3, l4, .val (.int (4 : Int32)), .val (.int k0), .val (.int k1), .val (.int k2), .val (.int k3), .unset, .unset] [(.int (4 : Int32))])) rfl (hb hby at_119) rfl (by decide) (cap := 4) (by decide) (by decide) (by decide) (by decide)
      obtain ⟨b286, g286⟩ : ∃ z, z = hj.size := ⟨_, rfl⟩
      rw [← g286] at A286 st286
      refine OwnGo.of st286 ?_
      have gn_b286 : Safe Z consts_1 s.vm h286 b286 := Safe.ext E286 Cj.1 (Safe.new (Nat.le_of_eq g286.symm))
      have g_b286 : n0 ≤ b286 := Nat.le_trans Zj (Nat.le_of_eq g286.symm)
      have sz_b286 : h0.size ≤ b286 := Nat.le_trans Kj.1 (Nat.le_of_eq g286.symm)
      have cs287 := CHr.ext E286 Cj.1
      have f288 := Nat.le_trans Zj E286.1
      have f289 := Kj.ext E286
      have f290 := Bj.ext E286
      have f291 := Cj.trans cs287
      have f292 := f50.ext E286
      have f293 := f51.ext E286
      have f294 := f52.ext E286
      have f295 := f53.ext E286
      have f296 := f54.ext E286
      have f297 : Arv Z h286 b286 kq286 .char (4 : Int32) [(.int (0 : Int32)), (.int (0 : Int32)), (.int (0 : Int32)), (.int (0 : Int32))] (.int (0 : Int32)) := (Arv.new A286 (by decide)).pad (pad_rep [] (.int (0 : Int32)) 4)
      show OwnGo p.tables e below _ (T286.setTop (mkF m 121 #[l0, l1, l2, l3, l4, .val (.int (4 : Int32)), .val (.int k0), .val (.int k1), .val (.int k2), .val (.int k3), .unset, .unset] [(.ref b286)]))
      refine OwnGo.of (B := T286.setTop (mkF m 125 #[l0, l1, l2, l3, l4, .val (.int (4 : Int32)), .val (.int k0), .val (.int k1), .val (.int k2), .val (.int k3), .unset, .unset] [(.int k0), (.int (0 : Int32)), (.ref b286), (.ref b286)])) (fun t k => ?_) ?_
      · show Steps p.tables e below (T286.setTop (mkF m 121 #[l0, l1, l2, l3, l4, .val (.int (4 : Int32)), .val (.int k0), .val (.int k1), .val (.int k2), .val (.int k3), .unset, .unset] [(.ref b286)])) t
        refine XS.dup X286.here hx rfl (hb hby at_121) rfl rfl ?_
        refine XS.iconst X286.here hx rfl (hb hby at_122) ?_
        refine XS.iload X286.here hx rfl (hb hby at_123) rfl ?_
        exact k
      have cq298 := f297
      obtain ⟨clq298, Arq298, qq298, Sq298, Nq298, Hq298, Gq298⟩ := cq298
      obtain ⟨T299, h299, X299, e299, W299, st299⟩ := stC X286 hx hZ e286 Arq298 (j := (0 : Int32)) (inb_of Sq298 ⟨by decide, by decide⟩) (g := (mkF m 125 #[l0, l1, l2, l3, l4, .val (.int (4 : Int32)), .val (.int k0), .val (.int k1), .val (.int k2), .val (.int k3), .unset, .unset] [(.int k0), (.int (0 : Int32)), (.ref b286), (.ref b286)])) rfl rfl (hb hby at_125)
      refine OwnGo.of st299 ?_
      have N299 := Fr.snoc X299 Nj g_b286
      have cs300 := CHr.wr W299 gn_b286 f291.1
      have f301 := Nat.le_trans f288 (Keep.of_wr W299).1
      have f302 := f289.wr W299 (Or.inr sz_b286)
      have f303 := f290.wr W299
      have f304 := f291.trans cs300
      have f305 := f292.wr W299
      have f306 := f293.wr W299
      have f307 := f294.wr W299
      have f308 := f295.wr W299
      have f309 := f296.wr W299
      have f310 := cs300.safe f297.lt gn_b286
      have f311 : Arv Z h299 b286 kq286 .char (4 : Int32) [(.int (k0).toUInt32.toUInt16.toUInt32.toInt32), (.int (0 : Int32)), (.int (0 : Int32)), (.int (0 : Int32))] (.int (0 : Int32)) := Arv.set Arq298 qq298 Sq298 Nq298 Hq298 Gq298 (fits_nar_char _) W299 0 rfl (Nat.le_of_ble_eq_true rfl)
      show OwnGo p.tables e below _ (T299.setTop (mkF m 126 #[l0, l1, l2, l3, l4, .val (.int (4 : Int32)), .val (.int k0), .val (.int k1), .val (.int k2), .val (.int k3), .unset, .unset] [(.ref b286)]))
      refine OwnGo.of (B := T299.setTop (mkF m 130 #[l0, l1, l2, l3, l4, .val (.int (4 : Int32)), .val (.int k0), .val (.int k1), .val (.int k2), .val (.int k3), .unset, .unset] [(.int k1), (.int (1 : Int32)), (.ref b286), (.ref b286)])) (fun t k => ?_) ?_
      · show Steps p.tables e below (T299.setTop (mkF m 126 #[l0, l1, l2, l3, l4, .val (.int (4 : Int32)), .val (.int k0), .val (.int k1), .val (.int k2), .val (.int k3), .unset, .unset] [(.ref b286)])) t
        refine XS.dup X299.here hx rfl (hb hby at_126) rfl rfl ?_
        refine XS.iconst X299.here hx rfl (hb hby at_127) ?_
        refine XS.iload X299.here hx rfl (hb hby at_128) rfl ?_
        exact k
      have cq312 := f311
      obtain ⟨clq312, Arq312, qq312, Sq312, Nq312, Hq312, Gq312⟩ := cq312
      obtain ⟨T313, h313, X313, e313, W313, st313⟩ := stC X299 hx hZ e299 Arq312 (j := (1 : Int32)) (inb_of Sq312 ⟨by decide, by decide⟩) (g := (mkF m 130 #[l0, l1, l2, l3, l4, .val (.int (4 : Int32)), .val (.int k0), .val (.int k1), .val (.int k2), .val (.int k3), .unset, .unset] [(.int k1), (.int (1 : Int32)), (.ref b286), (.ref b286)])) rfl rfl (hb hby at_130)
      refine OwnGo.of st313 ?_
      have N313 := Fr.snoc X313 N299 g_b286
      have cs314 := CHr.wr W313 f310 f304.1
      have f315 := Nat.le_trans f301 (Keep.of_wr W313).1
      have f316 := f302.wr W313 (Or.inr sz_b286)
      have f317 := f303.wr W313
      have f318 := f304.trans cs314
      have f319 := f305.wr W313
      have f320 := f306.wr W313
      have f321 := f307.wr W313
      have f322 := f308.wr W313
      have f323 := f309.wr W313
      have f324 := cs314.safe f311.lt f310
      have f325 : Arv Z h313 b286 kq286 .char (4 : Int32) [(.int (k0).toUInt32.toUInt16.toUInt32.toInt32), (.int (k1).toUInt32.toUInt16.toUInt32.toInt32), (.int (0 : Int32)), (.int (0 : Int32))] (.int (0 : Int32)) := Arv.set Arq312 qq312 Sq312 Nq312 Hq312 Gq312 (fits_nar_char _) W313 1 rfl (Nat.le_of_ble_eq_true rfl)
      show OwnGo p.tables e below _ (T313.setTop (mkF m 131 #[l0, l1, l2, l3, l4, .val (.int (4 : Int32)), .val (.int k0), .val (.int k1), .val (.int k2), .val (.int k3), .unset, .unset] [(.ref b286)]))
      refine OwnGo.of (B := T313.setTop (mkF m 135 #[l0, l1, l2, l3, l4, .val (.int (4 : Int32)), .val (.int k0), .val (.int k1), .val (.int k2), .val (.int k3), .unset, .unset] [(.int k2), (.int (2 : Int32)), (.ref b286), (.ref b286)])) (fun t k => ?_) ?_
      · show Steps p.tables e below (T313.setTop (mkF m 131 #[l0, l1, l2, l3, l4, .val (.int (4 : Int32)), .val (.int k0), .val (.int k1), .val (.int k2), .val (.int k3), .unset, .unset] [(.ref b286)])) t
        refine XS.dup X313.here hx rfl (hb hby at_131) rfl rfl ?_
        refine XS.iconst X313.here hx rfl (hb hby at_132) ?_
        refine XS.iload X313.here hx rfl (hb hby at_133) rfl ?_
        exact k
      have cq326 := f325
      obtain ⟨clq326, Arq326, qq326, Sq326, Nq326, Hq326, Gq326⟩ := cq326
      obtain ⟨T327, h327, X327, e327, W327, st327⟩ := stC X313 hx hZ e313 Arq326 (j := (2 : Int32)) (inb_of Sq326 ⟨by decide, by decide⟩) (g := (mkF m 135 #[l0, l1, l2, l3, l4, .val (.int (4 : Int32)), .val (.int k0), .val (.int k1), .val (.int k2), .val (.int k3), .unset, .unset] [(.int k2), (.int (2 : Int32)), (.ref b286), (.ref b286)])) rfl rfl (hb hby at_135)
      refine OwnGo.of st327 ?_
      have N327 := Fr.snoc X327 N313 g_b286
      have cs328 := CHr.wr W327 f324 f318.1
      have f329 := Nat.le_trans f315 (Keep.of_wr W327).1
      have f330 := f316.wr W327 (Or.inr sz_b286)
      have f331 := f317.wr W327
      have f332 := f318.trans cs328
      have f333 := f319.wr W327
      have f334 := f320.wr W327
      have f335 := f321.wr W327
      have f336 := f322.wr W327
      have f337 := f323.wr W327
      have f338 := cs328.safe f325.lt f324
      have f339 : Arv Z h327 b286 kq286 .char (4 : Int32) [(.int (k0).toUInt32.toUInt16.toUInt32.toInt32), (.int (k1).toUInt32.toUInt16.toUInt32.toInt32), (.int (k2).toUInt32.toUInt16.toUInt32.toInt32), (.int (0 : Int32))] (.int (0 : Int32)) := Arv.set Arq326 qq326 Sq326 Nq326 Hq326 Gq326 (fits_nar_char _) W327 2 rfl (Nat.le_of_ble_eq_true rfl)
      show OwnGo p.tables e below _ (T327.setTop (mkF m 136 #[l0, l1, l2, l3, l4, .val (.int (4 : Int32)), .val (.int k0), .val (.int k1), .val (.int k2), .val (.int k3), .unset, .unset] [(.ref b286)]))
      refine OwnGo.of (B := T327.setTop (mkF m 140 #[l0, l1, l2, l3, l4, .val (.int (4 : Int32)), .val (.int k0), .val (.int k1), .val (.int k2), .val (.int k3), .unset, .unset] [(.int k3), (.int (3 : Int32)), (.ref b286), (.ref b286)])) (fun t k => ?_) ?_
      · show Steps p.tables e below (T327.setTop (mkF m 136 #[l0, l1, l2, l3, l4, .val (.int (4 : Int32)), .val (.int k0), .val (.int k1), .val (.int k2), .val (.int k3), .unset, .unset] [(.ref b286)])) t
        refine XS.dup X327.here hx rfl (hb hby at_136) rfl rfl ?_
        refine XS.iconst X327.here hx rfl (hb hby at_137) ?_
        refine XS.iload X327.here hx rfl (hb hby at_138) rfl ?_
        exact k
      have cq340 := f339
      obtain ⟨clq340, Arq340, qq340, Sq340, Nq340, Hq340, Gq340⟩ := cq340
      obtain ⟨T341, h341, X341, e341, W341, st341⟩ := stC X327 hx hZ e327 Arq340 (j := (3 : Int32)) (inb_of Sq340 ⟨by decide, by decide⟩) (g := (mkF m 140 #[l0, l1, l2, l3, l4, .val (.int (4 : Int32)), .val (.int k0), .val (.int k1), .val (.int k2), .val (.int k3), .unset, .unset] [(.int k3), (.int (3 : Int32)), (.ref b286), (.ref b286)])) rfl rfl (hb hby at_140)
      refine OwnGo.of st341 ?_
      have N341 := Fr.snoc X341 N327 g_b286
      have cs342 := CHr.wr W341 f338 f332.1
      have f343 := Nat.le_trans f329 (Keep.of_wr W341).1
      have f344 := f330.wr W341 (Or.inr sz_b286)
      have f345 := f331.wr W341
      have f346 := f332.trans cs342
      have f347 := f333.wr W341
      have f348 := f334.wr W341
      have f349 := f335.wr W341
      have f350 := f336.wr W341
      have f351 := f337.wr W341
      have f352 := cs342.safe f339.lt f338
      have f353 : Arv Z h341 b286 kq286 .char (4 : Int32) [(.int (k0).toUInt32.toUInt16.toUInt32.toInt32), (.int (k1).toUInt32.toUInt16.toUInt32.toInt32), (.int (k2).toUInt32.toUInt16.toUInt32.toInt32), (.int (k3).toUInt32.toUInt16.toUInt32.toInt32)] (.int (0 : Int32)) := Arv.set Arq340 qq340 Sq340 Nq340 Hq340 Gq340 (fits_nar_char _) W341 3 rfl (Nat.le_of_ble_eq_true rfl)
      show OwnGo p.tables e below _ (T341.setTop (mkF m 141 #[l0, l1, l2, l3, l4, .val (.int (4 : Int32)), .val (.int k0), .val (.int k1), .val (.int k2), .val (.int k3), .unset, .unset] [(.ref b286)]))
      refine OwnGo.of (B := T341.setTop (mkF m 143 #[l0, l1, l2, l3, l4, .val (.int (4 : Int32)), .val (.int k0), .val (.int k1), .val (.int k2), .val (.int k3), .val (.ref b286), .unset] [])) (fun t k => ?_) ?_
      · show Steps p.tables e below (T341.setTop (mkF m 141 #[l0, l1, l2, l3, l4, .val (.int (4 : Int32)), .val (.int k0), .val (.int k1), .val (.int k2), .val (.int k3), .unset, .unset] [(.ref b286)])) t
        refine XS.astore X341.here hx rfl (hb hby at_141) rfl rfl (l' := #[l0, l1, l2, l3, l4, .val (.int (4 : Int32)), .val (.int k0), .val (.int k1), .val (.int k2), .val (.int k3), .val (.ref b286), .unset]) rfl ?_
        exact k
      have f354 := f353
      rw [own_c16E hc0, own_c16E hc1, own_c16E hc2, own_c16E hc3] at f354
      refine OwnGo.of (B := T341.setTop (mkF m 145 #[l0, l1, l2, l3, l4, .val (.int (4 : Int32)), .val (.int k0), .val (.int k1), .val (.int k2), .val (.int k3), .val (.ref b286), .unset] [(.int (4 : Int32))])) (fun t k => ?_) ?_
      · show Steps p.tables e below (T341.setTop (mkF m 143 #[l0, l1, l2, l3, l4, .val (.int (4 : Int32)), .val (.int k0), .val (.int k1), .val (.int k2), .val (.int k3), .val (.ref b286), .unset] [])) t
        refine XS.iload X341.here hx rfl (hb hby at_143) rfl ?_
        exact k
      have hc355 : (0 : Int32) < (4 : Int32) := by decide
      refine OwnGo.of (B := T341.setTop (mkF m 150 #[l0, l1, l2, l3, l4, .val (.int (4 : Int32)), .val (.int k0), .val (.int k1), .val (.int k2), .val (.int k3), .val (.ref b286), .unset] [(.int k0)])) (fun t k => ?_) ?_
      · show Steps p.tables e below (T341.setTop (mkF m 145 #[l0, l1, l2, l3, l4, .val (.int (4 : Int32)), .val (.int k0), .val (.int k1), .val (.int k2), .val (.int k3), .val (.ref b286), .unset] [(.int (4 : Int32))])) t
        refine XS.ifNo X341.here hx rfl (hb hby at_145) rfl ((if0 _ _).trans (tlt hc355).2.2.2) ?_
        refine XS.iload X341.here hx rfl (hb hby at_148) rfl ?_
        exact k
      obtain ⟨T356, L356, v356, X356, hQ356, st356⟩ := own_callS X341 hx (y := (⟨"dev/boundaryline/model/HeaderValueIsTokenPinLaw", "tokenChar", "(C)Z"⟩ : MethodName)) hown (mvT hZ (w36 hw)) (mvT hZ (w37 hw)) (mvT hZ (w3 hw)) (mvT hZ (w38 hw)) (by decide) (backOf (W := 0) (rm7 l Z aw hw [] k0  h341 n0 f343 ) hZ (w38 hw) (w3 hw) (by decide) (by decide)) (g := (mkF m 150 #[l0, l1, l2, l3, l4, .val (.int (4 : Int32)), .val (.int k0), .val (.int k1), .val (.int k2), .val (.int k3), .val (.ref b286), .unset] [(.int k0)])) rfl (by rw [hml]; rfl) (argsL := [(.int k0)]) (rest := []) (lenOf pd_138 rfl) rfl (by show 2 * 0 + _ ≤ _; exact Nat.le_of_eq rfl) (hb hby at_150) rfl e341 (by decide) (by decide)
      obtain ⟨rfl, N356q, eq356⟩ := hQ356
      have N356 := Fr.app N341 N356q
      refine OwnGo.of st356 ?_
      show OwnGo p.tables e below _ (T356.setTop (mkF m 153 #[l0, l1, l2, l3, l4, .val (.int (4 : Int32)), .val (.int k0), .val (.int k1), .val (.int k2), .val (.int k3), .val (.ref b286), .unset] [(.int (own_b (own_tok k0)))]))
      by_cases hc357 : (own_b (own_tok k0)) = (0 : Int32)
      · have tk358 := own_b0 hc357
        refine OwnGo.of (B := T356.setTop (mkF m 205 #[l0, l1, l2, l3, l4, .val (.int (4 : Int32)), .val (.int k0), .val (.int k1), .val (.int k2), .val (.int k3), .val (.ref b286), .val (.int (0 : Int32))] [])) (fun t k => ?_) ?_
        · show Steps p.tables e below (T356.setTop (mkF m 153 #[l0, l1, l2, l3, l4, .val (.int (4 : Int32)), .val (.int k0), .val (.int k1), .val (.int k2), .val (.int k3), .val (.ref b286), .unset] [(.int (own_b (own_tok k0)))])) t
          refine XS.ifYes X356.here hx rfl (pc0 := 153) (pc' := 202) rfl (hb hby at_153) rfl ((if0 _ _).trans (teq hc357).1) (by decide) (by decide) ?_
          refine XS.iconst X356.here hx rfl (hb hby at_202) ?_
          refine XS.istore X356.here hx rfl (hb hby at_203) rfl (l' := #[l0, l1, l2, l3, l4, .val (.int (4 : Int32)), .val (.int k0), .val (.int k1), .val (.int k2), .val (.int k3), .val (.ref b286), .val (.int (0 : Int32))]) rfl ?_
          exact k
        exact J205_g (l0) (l1) (l2) (l3) (l4) (.val (.int (4 : Int32))) (.val (.int k0)) (.val (.int k1)) (.val (.int k2)) (.val (.int k3)) T356 _ _ b286 kq286 k0 k1 k2 k3 (X356.more (by decide) (by decide)) eq356 N356 f343 f344 f345 f346 hc0 hc1 hc2 hc3 ([k0, k1, k2, k3] : List Int32) f354 (own_hS hc0 (own_hS hc1 (own_hS hc2 (own_hS hc3 own_h0)))) (Nat.le_of_ble_eq_true rfl) (Nat.le_of_ble_eq_true rfl) (0 : Int32) (own_eF (fun q => tk358 (q.2 _ (List.mem_of_getElem? (i := 0) rfl))))
      · have tk359 := own_b1 hc357
        refine OwnGo.of (B := T356.setTop (mkF m 159 #[l0, l1, l2, l3, l4, .val (.int (4 : Int32)), .val (.int k0), .val (.int k1), .val (.int k2), .val (.int k3), .val (.ref b286), .unset] [(.int (2 : Int32)), (.int (4 : Int32))])) (fun t k => ?_) ?_
        · show Steps p.tables e below (T356.setTop (mkF m 153 #[l0, l1, l2, l3, l4, .val (.int (4 : Int32)), .val (.int k0), .val (.int k1), .val (.int k2), .val (.int k3), .val (.ref b286), .unset] [(.int (own_b (own_tok k0)))])) t
          refine XS.ifNo X356.here hx rfl (hb hby at_153) rfl ((if0 _ _).trans (feq hc357).1) ?_
          refine XS.iload X356.here hx rfl (hb hby at_156) rfl ?_
          refine XS.iconst X356.here hx rfl (hb hby at_158) ?_
          exact k
        have hc360 : ¬ ((4 : Int32) < (2 : Int32)) := by decide
        refine OwnGo.of (B := T356.setTop (mkF m 164 #[l0, l1, l2, l3, l4, .val (.int (4 : Int32)), .val (.int k0), .val (.int k1), .val (.int k2), .val (.int k3), .val (.ref b286), .unset] [(.int k1)])) (fun t k => ?_) ?_
        · show Steps p.tables e below (T356.setTop (mkF m 159 #[l0, l1, l2, l3, l4, .val (.int (4 : Int32)), .val (.int k0), .val (.int k1), .val (.int k2), .val (.int k3), .val (.ref b286), .unset] [(.int (2 : Int32)), (.int (4 : Int32))])) t
          refine XS.icmpNo X356.here hx rfl (hb hby at_159) rfl (flt hc360).1 ?_
          refine XS.iload X356.here hx rfl (hb hby at_162) rfl ?_
          exact k
        obtain ⟨T361, L361, v361, X361, hQ361, st361⟩ := own_callS X356 hx (y := (⟨"dev/boundaryline/model/HeaderValueIsTokenPinLaw", "tokenChar", "(C)Z"⟩ : MethodName)) hown (mvT hZ (w36 hw)) (mvT hZ (w37 hw)) (mvT hZ (w3 hw)) (mvT hZ (w38 hw)) (by decide) (backOf (W := 0) (rm7 l Z aw hw [] k1  h341 n0 f343 ) hZ (w38 hw) (w3 hw) (by decide) (by decide)) (g := (mkF m 164 #[l0, l1, l2, l3, l4, .val (.int (4 : Int32)), .val (.int k0), .val (.int k1), .val (.int k2), .val (.int k3), .val (.ref b286), .unset] [(.int k1)])) rfl (by rw [hml]; rfl) (argsL := [(.int k1)]) (rest := []) (lenOf pd_138 rfl) rfl (by show 2 * 0 + _ ≤ _; exact Nat.le_of_eq rfl) (hb hby at_164) rfl eq356 (by decide) (by decide)
        obtain ⟨rfl, N361q, eq361⟩ := hQ361
        have N361 := Fr.app N356 N361q
        refine OwnGo.of st361 ?_
        show OwnGo p.tables e below _ (T361.setTop (mkF m 167 #[l0, l1, l2, l3, l4, .val (.int (4 : Int32)), .val (.int k0), .val (.int k1), .val (.int k2), .val (.int k3), .val (.ref b286), .unset] [(.int (own_b (own_tok k1)))]))
        by_cases hc362 : (own_b (own_tok k1)) = (0 : Int32)
        · have tk363 := own_b0 hc362
          refine OwnGo.of (B := T361.setTop (mkF m 205 #[l0, l1, l2, l3, l4, .val (.int (4 : Int32)), .val (.int k0), .val (.int k1), .val (.int k2), .val (.int k3), .val (.ref b286), .val (.int (0 : Int32))] [])) (fun t k => ?_) ?_
          · show Steps p.tables e below (T361.setTop (mkF m 167 #[l0, l1, l2, l3, l4, .val (.int (4 : Int32)), .val (.int k0), .val (.int k1), .val (.int k2), .val (.int k3), .val (.ref b286), .unset] [(.int (own_b (own_tok k1)))])) t
            refine XS.ifYes X361.here hx rfl (pc0 := 167) (pc' := 202) rfl (hb hby at_167) rfl ((if0 _ _).trans (teq hc362).1) (by decide) (by decide) ?_
            refine XS.iconst X361.here hx rfl (hb hby at_202) ?_
            refine XS.istore X361.here hx rfl (hb hby at_203) rfl (l' := #[l0, l1, l2, l3, l4, .val (.int (4 : Int32)), .val (.int k0), .val (.int k1), .val (.int k2), .val (.int k3), .val (.ref b286), .val (.int (0 : Int32))]) rfl ?_
            exact k
          exact J205_g (l0) (l1) (l2) (l3) (l4) (.val (.int (4 : Int32))) (.val (.int k0)) (.val (.int k1)) (.val (.int k2)) (.val (.int k3)) T361 _ _ b286 kq286 k0 k1 k2 k3 (X361.more (by decide) (by decide)) eq361 N361 f343 f344 f345 f346 hc0 hc1 hc2 hc3 ([k0, k1, k2, k3] : List Int32) f354 (own_hS hc0 (own_hS hc1 (own_hS hc2 (own_hS hc3 own_h0)))) (Nat.le_of_ble_eq_true rfl) (Nat.le_of_ble_eq_true rfl) (0 : Int32) (own_eF (fun q => tk363 (q.2 _ (List.mem_of_getElem? (i := 1) rfl))))
        · have tk364 := own_b1 hc362
          refine OwnGo.of (B := T361.setTop (mkF m 173 #[l0, l1, l2, l3, l4, .val (.int (4 : Int32)), .val (.int k0), .val (.int k1), .val (.int k2), .val (.int k3), .val (.ref b286), .unset] [(.int (3 : Int32)), (.int (4 : Int32))])) (fun t k => ?_) ?_
          · show Steps p.tables e below (T361.setTop (mkF m 167 #[l0, l1, l2, l3, l4, .val (.int (4 : Int32)), .val (.int k0), .val (.int k1), .val (.int k2), .val (.int k3), .val (.ref b286), .unset] [(.int (own_b (own_tok k1)))])) t
            refine XS.ifNo X361.here hx rfl (hb hby at_167) rfl ((if0 _ _).trans (feq hc362).1) ?_
            refine XS.iload X361.here hx rfl (hb hby at_170) rfl ?_
            refine XS.iconst X361.here hx rfl (hb hby at_172) ?_
            exact k
          have hc365 : ¬ ((4 : Int32) < (3 : Int32)) := by decide
          refine OwnGo.of (B := T361.setTop (mkF m 178 #[l0, l1, l2, l3, l4, .val (.int (4 : Int32)), .val (.int k0), .val (.int k1), .val (.int k2), .val (.int k3), .val (.ref b286), .unset] [(.int k2)])) (fun t k => ?_) ?_
          · show Steps p.tables e below (T361.setTop (mkF m 173 #[l0, l1, l2, l3, l4, .val (.int (4 : Int32)), .val (.int k0), .val (.int k1), .val (.int k2), .val (.int k3), .val (.ref b286), .unset] [(.int (3 : Int32)), (.int (4 : Int32))])) t
            refine XS.icmpNo X361.here hx rfl (hb hby at_173) rfl (flt hc365).1 ?_
            refine XS.iload X361.here hx rfl (hb hby at_176) rfl ?_
            exact k
          obtain ⟨T366, L366, v366, X366, hQ366, st366⟩ := own_callS X361 hx (y := (⟨"dev/boundaryline/model/HeaderValueIsTokenPinLaw", "tokenChar", "(C)Z"⟩ : MethodName)) hown (mvT hZ (w36 hw)) (mvT hZ (w37 hw)) (mvT hZ (w3 hw)) (mvT hZ (w38 hw)) (by decide) (backOf (W := 0) (rm7 l Z aw hw [] k2  h341 n0 f343 ) hZ (w38 hw) (w3 hw) (by decide) (by decide)) (g := (mkF m 178 #[l0, l1, l2, l3, l4, .val (.int (4 : Int32)), .val (.int k0), .val (.int k1), .val (.int k2), .val (.int k3), .val (.ref b286), .unset] [(.int k2)])) rfl (by rw [hml]; rfl) (argsL := [(.int k2)]) (rest := []) (lenOf pd_138 rfl) rfl (by show 2 * 0 + _ ≤ _; exact Nat.le_of_eq rfl) (hb hby at_178) rfl eq361 (by decide) (by decide)
          obtain ⟨rfl, N366q, eq366⟩ := hQ366
          have N366 := Fr.app N361 N366q
          refine OwnGo.of st366 ?_
          show OwnGo p.tables e below _ (T366.setTop (mkF m 181 #[l0, l1, l2, l3, l4, .val (.int (4 : Int32)), .val (.int k0), .val (.int k1), .val (.int k2), .val (.int k3), .val (.ref b286), .unset] [(.int (own_b (own_tok k2)))]))
          by_cases hc367 : (own_b (own_tok k2)) = (0 : Int32)
          · have tk368 := own_b0 hc367
            refine OwnGo.of (B := T366.setTop (mkF m 205 #[l0, l1, l2, l3, l4, .val (.int (4 : Int32)), .val (.int k0), .val (.int k1), .val (.int k2), .val (.int k3), .val (.ref b286), .val (.int (0 : Int32))] [])) (fun t k => ?_) ?_
            · show Steps p.tables e below (T366.setTop (mkF m 181 #[l0, l1, l2, l3, l4, .val (.int (4 : Int32)), .val (.int k0), .val (.int k1), .val (.int k2), .val (.int k3), .val (.ref b286), .unset] [(.int (own_b (own_tok k2)))])) t
              refine XS.ifYes X366.here hx rfl (pc0 := 181) (pc' := 202) rfl (hb hby at_181) rfl ((if0 _ _).trans (teq hc367).1) (by decide) (by decide) ?_
              refine XS.iconst X366.here hx rfl (hb hby at_202) ?_
              refine XS.istore X366.here hx rfl (hb hby at_203) rfl (l' := #[l0, l1, l2, l3, l4, .val (.int (4 : Int32)), .val (.int k0), .val (.int k1), .val (.int k2), .val (.int k3), .val (.ref b286), .val (.int (0 : Int32))]) rfl ?_
              exact k
            exact J205_g (l0) (l1) (l2) (l3) (l4) (.val (.int (4 : Int32))) (.val (.int k0)) (.val (.int k1)) (.val (.int k2)) (.val (.int k3)) T366 _ _ b286 kq286 k0 k1 k2 k3 (X366.more (by decide) (by decide)) eq366 N366 f343 f344 f345 f346 hc0 hc1 hc2 hc3 ([k0, k1, k2, k3] : List Int32) f354 (own_hS hc0 (own_hS hc1 (own_hS hc2 (own_hS hc3 own_h0)))) (Nat.le_of_ble_eq_true rfl) (Nat.le_of_ble_eq_true rfl) (0 : Int32) (own_eF (fun q => tk368 (q.2 _ (List.mem_of_getElem? (i := 2) rfl))))
          · have tk369 := own_b1 hc367
            refine OwnGo.of (B := T366.setTop (mkF m 187 #[l0, l1, l2, l3, l4, .val (.int (4 : Int32)), .val (.int k0), .val (.int k1), .val (.int k2), .val (.int k3), .val (.ref b286), .unset] [(.int (4 : Int32)), (.int (4 : Int32))])) (fun t k => ?_) ?_
            · show Steps p.tables e below (T366.setTop (mkF m 181 #[l0, l1, l2, l3, l4, .val (.int (4 : Int32)), .val (.int k0), .val (.int k1), .val (.int k2), .val (.int k3), .val (.ref b286), .unset] [(.int (own_b (own_tok k2)))])) t
              refine XS.ifNo X366.here hx rfl (hb hby at_181) rfl ((if0 _ _).trans (feq hc367).1) ?_
              refine XS.iload X366.here hx rfl (hb hby at_184) rfl ?_
              refine XS.iconst X366.here hx rfl (hb hby at_186) ?_
              exact k
            have hc370 : ¬ ((4 : Int32) < (4 : Int32)) := by decide
            refine OwnGo.of (B := T366.setTop (mkF m 192 #[l0, l1, l2, l3, l4, .val (.int (4 : Int32)), .val (.int k0), .val (.int k1), .val (.int k2), .val (.int k3), .val (.ref b286), .unset] [(.int k3)])) (fun t k => ?_) ?_
            · show Steps p.tables e below (T366.setTop (mkF m 187 #[l0, l1, l2, l3, l4, .val (.int (4 : Int32)), .val (.int k0), .val (.int k1), .val (.int k2), .val (.int k3), .val (.ref b286), .unset] [(.int (4 : Int32)), (.int (4 : Int32))])) t
              refine XS.icmpNo X366.here hx rfl (hb hby at_187) rfl (flt hc370).1 ?_
              refine XS.iload X366.here hx rfl (hb hby at_190) rfl ?_
              exact k
            obtain ⟨T371, L371, v371, X371, hQ371, st371⟩ := own_callS X366 hx (y := (⟨"dev/boundaryline/model/HeaderValueIsTokenPinLaw", "tokenChar", "(C)Z"⟩ : MethodName)) hown (mvT hZ (w36 hw)) (mvT hZ (w37 hw)) (mvT hZ (w3 hw)) (mvT hZ (w38 hw)) (by decide) (backOf (W := 0) (rm7 l Z aw hw [] k3  h341 n0 f343 ) hZ (w38 hw) (w3 hw) (by decide) (by decide)) (g := (mkF m 192 #[l0, l1, l2, l3, l4, .val (.int (4 : Int32)), .val (.int k0), .val (.int k1), .val (.int k2), .val (.int k3), .val (.ref b286), .unset] [(.int k3)])) rfl (by rw [hml]; rfl) (argsL := [(.int k3)]) (rest := []) (lenOf pd_138 rfl) rfl (by show 2 * 0 + _ ≤ _; exact Nat.le_of_eq rfl) (hb hby at_192) rfl eq366 (by decide) (by decide)
            obtain ⟨rfl, N371q, eq371⟩ := hQ371
            have N371 := Fr.app N366 N371q
            refine OwnGo.of st371 ?_
            show OwnGo p.tables e below _ (T371.setTop (mkF m 195 #[l0, l1, l2, l3, l4, .val (.int (4 : Int32)), .val (.int k0), .val (.int k1), .val (.int k2), .val (.int k3), .val (.ref b286), .unset] [(.int (own_b (own_tok k3)))]))
            by_cases hc372 : (own_b (own_tok k3)) = (0 : Int32)
            · have tk373 := own_b0 hc372
              refine OwnGo.of (B := T371.setTop (mkF m 205 #[l0, l1, l2, l3, l4, .val (.int (4 : Int32)), .val (.int k0), .val (.int k1), .val (.int k2), .val (.int k3), .val (.ref b286), .val (.int (0 : Int32))] [])) (fun t k => ?_) ?_
              · show Steps p.tables e below (T371.setTop (mkF m 195 #[l0, l1, l2, l3, l4, .val (.int (4 : Int32)), .val (.int k0), .val (.int k1), .val (.int k2), .val (.int k3), .val (.ref b286), .unset] [(.int (own_b (own_tok k3)))])) t
                refine XS.ifYes X371.here hx rfl (pc0 := 195) (pc' := 202) rfl (hb hby at_195) rfl ((if0 _ _).trans (teq hc372).1) (by decide) (by decide) ?_
                refine XS.iconst X371.here hx rfl (hb hby at_202) ?_
                refine XS.istore X371.here hx rfl (hb hby at_203) rfl (l' := #[l0, l1, l2, l3, l4, .val (.int (4 : Int32)), .val (.int k0), .val (.int k1), .val (.int k2), .val (.int k3), .val (.ref b286), .val (.int (0 : Int32))]) rfl ?_
                exact k
              exact J205_g (l0) (l1) (l2) (l3) (l4) (.val (.int (4 : Int32))) (.val (.int k0)) (.val (.int k1)) (.val (.int k2)) (.val (.int k3)) T371 _ _ b286 kq286 k0 k1 k2 k3 (X371.more (by decide) (by decide)) eq371 N371 f343 f344 f345 f346 hc0 hc1 hc2 hc3 ([k0, k1, k2, k3] : List Int32) f354 (own_hS hc0 (own_hS hc1 (own_hS hc2 (own_hS hc3 own_h0)))) (Nat.le_of_ble_eq_true rfl) (Nat.le_of_ble_eq_true rfl) (0 : Int32) (own_eF (fun q => tk373 (q.2 _ (List.mem_of_getElem? (i := 3) rfl))))
            · have tk374 := own_b1 hc372
              refine OwnGo.of (B := T371.setTop (mkF m 205 #[l0, l1, l2, l3, l4, .val (.int (4 : Int32)), .val (.int k0), .val (.int k1), .val (.int k2), .val (.int k3), .val (.ref b286), .val (.int (1 : Int32))] [])) (fun t k => ?_) ?_
              · show Steps p.tables e below (T371.setTop (mkF m 195 #[l0, l1, l2, l3, l4, .val (.int (4 : Int32)), .val (.int k0), .val (.int k1), .val (.int k2), .val (.int k3), .val (.ref b286), .unset] [(.int (own_b (own_tok k3)))])) t
                refine XS.ifNo X371.here hx rfl (hb hby at_195) rfl ((if0 _ _).trans (feq hc372).1) ?_
                refine XS.iconst X371.here hx rfl (hb hby at_198) ?_
                refine XS.goto X371.here hx rfl (pc0 := 199) (pc' := 203) rfl (hb hby at_199) (by decide) (by decide) ?_
                refine XS.istore X371.here hx rfl (hb hby at_203) rfl (l' := #[l0, l1, l2, l3, l4, .val (.int (4 : Int32)), .val (.int k0), .val (.int k1), .val (.int k2), .val (.int k3), .val (.ref b286), .val (.int (1 : Int32))]) rfl ?_
                exact k
              exact J205_g (l0) (l1) (l2) (l3) (l4) (.val (.int (4 : Int32))) (.val (.int k0)) (.val (.int k1)) (.val (.int k2)) (.val (.int k3)) T371 _ _ b286 kq286 k0 k1 k2 k3 (X371.more (by decide) (by decide)) eq371 N371 f343 f344 f345 f346 hc0 hc1 hc2 hc3 ([k0, k1, k2, k3] : List Int32) f354 (own_hS hc0 (own_hS hc1 (own_hS hc2 (own_hS hc3 own_h0)))) (Nat.le_of_ble_eq_true rfl) (Nat.le_of_ble_eq_true rfl) (1 : Int32) (own_eT ⟨(fun q => nomatch q), (own_hS tk359 (own_hS tk364 (own_hS tk369 (own_hS tk374 own_h0))))⟩)
  show OwnGo p.tables e below _ (s₁.setTop (mkF m 0 #[.val (.int p0), .val (.int p1), .val (.int p2), .val (.int p3), .val (.int p4), .unset, .unset, .unset, .unset, .unset, .unset, .unset] []))
  refine OwnGo.of (B := s₁.setTop (mkF m 9 #[.val (.int p0), .val (.int p1), .val (.int p2), .val (.int p3), .val (.int p4), .val (.int ((p0 &&& (2147483647 : Int32)) % (5 : Int32))), .unset, .unset, .unset, .unset, .unset, .unset] [(.int p1)])) (fun t k => ?_) ?_
  · show Steps p.tables e below (s₁.setTop (mkF m 0 #[.val (.int p0), .val (.int p1), .val (.int p2), .val (.int p3), .val (.int p4), .unset, .unset, .unset, .unset, .unset, .unset, .unset] [])) t
    refine XS.iloadN X0.here hx rfl (hb hby at_0) rfl ?_
    refine X0.ldcInt hx hown (mvT hZ (w0 hw)) (g := (mkF m 1 #[.val (.int p0), .val (.int p1), .val (.int p2), .val (.int p3), .val (.int p4), .unset, .unset, .unset, .unset, .unset, .unset, .unset] [(.int p0)])) rfl (hb hby at_1) _ ?_
    refine XS.iand X0.here hx rfl (hb hby at_3) rfl ?_
    refine XS.iconst X0.here hx rfl (hb hby at_4) ?_
    refine iremM X0 hx rfl (hb hby at_5) rfl (by decide) ?_
    refine XS.istore X0.here hx rfl (hb hby at_6) rfl (l' := #[.val (.int p0), .val (.int p1), .val (.int p2), .val (.int p3), .val (.int p4), .val (.int ((p0 &&& (2147483647 : Int32)) % (5 : Int32))), .unset, .unset, .unset, .unset, .unset, .unset]) rfl ?_
    refine XS.iloadN X0.here hx rfl (hb hby at_8) rfl ?_
    exact k
  obtain ⟨T375, L375, v375, X375, hQ375, st375⟩ := own_callS X0 hx (y := (⟨"dev/boundaryline/model/HeaderValueIsTokenPinLaw", "draw", "(I)C"⟩ : MethodName)) hown (mvT hZ (w1 hw)) (mvT hZ (w2 hw)) (mvT hZ (w3 hw)) (mvT hZ (w4 hw)) (by decide) (backOf (W := 0) (rm1 l Z aw hw [] p1  h0 n0 Z0 ) hZ (w4 hw) (w3 hw) (by decide) (by decide)) (g := (mkF m 9 #[.val (.int p0), .val (.int p1), .val (.int p2), .val (.int p3), .val (.int p4), .val (.int ((p0 &&& (2147483647 : Int32)) % (5 : Int32))), .unset, .unset, .unset, .unset, .unset, .unset] [(.int p1)])) rfl (by rw [hml]; rfl) (argsL := [(.int p1)]) (rest := []) (lenOf pd_131 rfl) rfl (by show 2 * 0 + _ ≤ _; exact Nat.le_of_eq rfl) (hb hby at_9) rfl e0 (by decide) (by decide)
  obtain ⟨rfl, N375q, eq375⟩ := hQ375
  have N375 := Fr.app N0 N375q
  refine OwnGo.of st375 ?_
  show OwnGo p.tables e below _ (T375.setTop (mkF m 12 #[.val (.int p0), .val (.int p1), .val (.int p2), .val (.int p3), .val (.int p4), .val (.int ((p0 &&& (2147483647 : Int32)) % (5 : Int32))), .unset, .unset, .unset, .unset, .unset, .unset] [(.int (own_draw p1))]))
  refine OwnGo.of (B := T375.setTop (mkF m 15 #[.val (.int p0), .val (.int p1), .val (.int p2), .val (.int p3), .val (.int p4), .val (.int ((p0 &&& (2147483647 : Int32)) % (5 : Int32))), .val (.int (own_draw p1)), .unset, .unset, .unset, .unset, .unset] [(.int p2)])) (fun t k => ?_) ?_
  · show Steps p.tables e below (T375.setTop (mkF m 12 #[.val (.int p0), .val (.int p1), .val (.int p2), .val (.int p3), .val (.int p4), .val (.int ((p0 &&& (2147483647 : Int32)) % (5 : Int32))), .unset, .unset, .unset, .unset, .unset, .unset] [(.int (own_draw p1))])) t
    refine XS.istore X375.here hx rfl (hb hby at_12) rfl (l' := #[.val (.int p0), .val (.int p1), .val (.int p2), .val (.int p3), .val (.int p4), .val (.int ((p0 &&& (2147483647 : Int32)) % (5 : Int32))), .val (.int (own_draw p1)), .unset, .unset, .unset, .unset, .unset]) rfl ?_
    refine XS.iloadN X375.here hx rfl (hb hby at_14) rfl ?_
    exact k
  obtain ⟨T376, L376, v376, X376, hQ376, st376⟩ := own_callS X375 hx (y := (⟨"dev/boundaryline/model/HeaderValueIsTokenPinLaw", "draw", "(I)C"⟩ : MethodName)) hown (mvT hZ (w1 hw)) (mvT hZ (w2 hw)) (mvT hZ (w3 hw)) (mvT hZ (w4 hw)) (by decide) (backOf (W := 0) (rm1 l Z aw hw [] p2  h0 n0 Z0 ) hZ (w4 hw) (w3 hw) (by decide) (by decide)) (g := (mkF m 15 #[.val (.int p0), .val (.int p1), .val (.int p2), .val (.int p3), .val (.int p4), .val (.int ((p0 &&& (2147483647 : Int32)) % (5 : Int32))), .val (.int (own_draw p1)), .unset, .unset, .unset, .unset, .unset] [(.int p2)])) rfl (by rw [hml]; rfl) (argsL := [(.int p2)]) (rest := []) (lenOf pd_131 rfl) rfl (by show 2 * 0 + _ ≤ _; exact Nat.le_of_eq rfl) (hb hby at_15) rfl eq375 (by decide) (by decide)
  obtain ⟨rfl, N376q, eq376⟩ := hQ376
  have N376 := Fr.app N375 N376q
  refine OwnGo.of st376 ?_
  show OwnGo p.tables e below _ (T376.setTop (mkF m 18 #[.val (.int p0), .val (.int p1), .val (.int p2), .val (.int p3), .val (.int p4), .val (.int ((p0 &&& (2147483647 : Int32)) % (5 : Int32))), .val (.int (own_draw p1)), .unset, .unset, .unset, .unset, .unset] [(.int (own_draw p2))]))
  refine OwnGo.of (B := T376.setTop (mkF m 21 #[.val (.int p0), .val (.int p1), .val (.int p2), .val (.int p3), .val (.int p4), .val (.int ((p0 &&& (2147483647 : Int32)) % (5 : Int32))), .val (.int (own_draw p1)), .val (.int (own_draw p2)), .unset, .unset, .unset, .unset] [(.int p3)])) (fun t k => ?_) ?_
  · show Steps p.tables e below (T376.setTop (mkF m 18 #[.val (.int p0), .val (.int p1), .val (.int p2), .val (.int p3), .val (.int p4), .val (.int ((p0 &&& (2147483647 : Int32)) % (5 : Int32))), .val (.int (own_draw p1)), .unset, .unset, .unset, .unset, .unset] [(.int (own_draw p2))])) t
    refine XS.istore X376.here hx rfl (hb hby at_18) rfl (l' := #[.val (.int p0), .val (.int p1), .val (.int p2), .val (.int p3), .val (.int p4), .val (.int ((p0 &&& (2147483647 : Int32)) % (5 : Int32))), .val (.int (own_draw p1)), .val (.int (own_draw p2)), .unset, .unset, .unset, .unset]) rfl ?_
    refine XS.iloadN X376.here hx rfl (hb hby at_20) rfl ?_
    exact k
  obtain ⟨T377, L377, v377, X377, hQ377, st377⟩ := own_callS X376 hx (y := (⟨"dev/boundaryline/model/HeaderValueIsTokenPinLaw", "draw", "(I)C"⟩ : MethodName)) hown (mvT hZ (w1 hw)) (mvT hZ (w2 hw)) (mvT hZ (w3 hw)) (mvT hZ (w4 hw)) (by decide) (backOf (W := 0) (rm1 l Z aw hw [] p3  h0 n0 Z0 ) hZ (w4 hw) (w3 hw) (by decide) (by decide)) (g := (mkF m 21 #[.val (.int p0), .val (.int p1), .val (.int p2), .val (.int p3), .val (.int p4), .val (.int ((p0 &&& (2147483647 : Int32)) % (5 : Int32))), .val (.int (own_draw p1)), .val (.int (own_draw p2)), .unset, .unset, .unset, .unset] [(.int p3)])) rfl (by rw [hml]; rfl) (argsL := [(.int p3)]) (rest := []) (lenOf pd_131 rfl) rfl (by show 2 * 0 + _ ≤ _; exact Nat.le_of_eq rfl) (hb hby at_21) rfl eq376 (by decide) (by decide)
  obtain ⟨rfl, N377q, eq377⟩ := hQ377
  have N377 := Fr.app N376 N377q
  refine OwnGo.of st377 ?_
  show OwnGo p.tables e below _ (T377.setTop (mkF m 24 #[.val (.int p0), .val (.int p1), .val (.int p2), .val (.int p3), .val (.int p4), .val (.int ((p0 &&& (2147483647 : Int32)) % (5 : Int32))), .val (.int (own_draw p1)), .val (.int (own_draw p2)), .unset, .unset, .unset, .unset] [(.int (own_draw p3))]))
  refine OwnGo.of (B := T377.setTop (mkF m 28 #[.val (.int p0), .val (.int p1), .val (.int p2), .val (.int p3), .val (.int p4), .val (.int ((p0 &&& (2147483647 : Int32)) % (5 : Int32))), .val (.int (own_draw p1)), .val (.int (own_draw p2)), .val (.int (own_draw p3)), .unset, .unset, .unset] [(.int p4)])) (fun t k => ?_) ?_
  · show Steps p.tables e below (T377.setTop (mkF m 24 #[.val (.int p0), .val (.int p1), .val (.int p2), .val (.int p3), .val (.int p4), .val (.int ((p0 &&& (2147483647 : Int32)) % (5 : Int32))), .val (.int (own_draw p1)), .val (.int (own_draw p2)), .unset, .unset, .unset, .unset] [(.int (own_draw p3))])) t
    refine XS.istore X377.here hx rfl (hb hby at_24) rfl (l' := #[.val (.int p0), .val (.int p1), .val (.int p2), .val (.int p3), .val (.int p4), .val (.int ((p0 &&& (2147483647 : Int32)) % (5 : Int32))), .val (.int (own_draw p1)), .val (.int (own_draw p2)), .val (.int (own_draw p3)), .unset, .unset, .unset]) rfl ?_
    refine XS.iload X377.here hx rfl (hb hby at_26) rfl ?_
    exact k
  obtain ⟨T378, L378, v378, X378, hQ378, st378⟩ := own_callS X377 hx (y := (⟨"dev/boundaryline/model/HeaderValueIsTokenPinLaw", "draw", "(I)C"⟩ : MethodName)) hown (mvT hZ (w1 hw)) (mvT hZ (w2 hw)) (mvT hZ (w3 hw)) (mvT hZ (w4 hw)) (by decide) (backOf (W := 0) (rm1 l Z aw hw [] p4  h0 n0 Z0 ) hZ (w4 hw) (w3 hw) (by decide) (by decide)) (g := (mkF m 28 #[.val (.int p0), .val (.int p1), .val (.int p2), .val (.int p3), .val (.int p4), .val (.int ((p0 &&& (2147483647 : Int32)) % (5 : Int32))), .val (.int (own_draw p1)), .val (.int (own_draw p2)), .val (.int (own_draw p3)), .unset, .unset, .unset] [(.int p4)])) rfl (by rw [hml]; rfl) (argsL := [(.int p4)]) (rest := []) (lenOf pd_131 rfl) rfl (by show 2 * 0 + _ ≤ _; exact Nat.le_of_eq rfl) (hb hby at_28) rfl eq377 (by decide) (by decide)
  obtain ⟨rfl, N378q, eq378⟩ := hQ378
  have N378 := Fr.app N377 N378q
  refine OwnGo.of st378 ?_
  show OwnGo p.tables e below _ (T378.setTop (mkF m 31 #[.val (.int p0), .val (.int p1), .val (.int p2), .val (.int p3), .val (.int p4), .val (.int ((p0 &&& (2147483647 : Int32)) % (5 : Int32))), .val (.int (own_draw p1)), .val (.int (own_draw p2)), .val (.int (own_draw p3)), .unset, .unset, .unset] [(.int (own_draw p4))]))
  refine OwnGo.of (B := T378.setTop (mkF m 33 #[.val (.int p0), .val (.int p1), .val (.int p2), .val (.int p3), .val (.int p4), .val (.int ((p0 &&& (2147483647 : Int32)) % (5 : Int32))), .val (.int (own_draw p1)), .val (.int (own_draw p2)), .val (.int (own_draw p3)), .val (.int (own_draw p4)), .unset, .unset] [])) (fun t k => ?_) ?_
  · show Steps p.tables e below (T378.setTop (mkF m 31 #[.val (.int p0), .val (.int p1), .val (.int p2), .val (.int p3), .val (.int p4), .val (.int ((p0 &&& (2147483647 : Int32)) % (5 : Int32))), .val (.int (own_draw p1)), .val (.int (own_draw p2)), .val (.int (own_draw p3)), .unset, .unset, .unset] [(.int (own_draw p4))])) t
    refine XS.istore X378.here hx rfl (hb hby at_31) rfl (l' := #[.val (.int p0), .val (.int p1), .val (.int p2), .val (.int p3), .val (.int p4), .val (.int ((p0 &&& (2147483647 : Int32)) % (5 : Int32))), .val (.int (own_draw p1)), .val (.int (own_draw p2)), .val (.int (own_draw p3)), .val (.int (own_draw p4)), .unset, .unset]) rfl ?_
    exact k
  exact J33_a (.val (.int p0)) (.val (.int p1)) (.val (.int p2)) (.val (.int p3)) (.val (.int p4)) T378 _ _ (own_draw p1) (own_draw p2) (own_draw p3) (own_draw p4) ((p0 &&& (2147483647 : Int32)) % (5 : Int32)) X378 eq378 N378 Z0 K0 B0 C0 (own_drawC _) (own_drawC _) (own_drawC _) (own_drawC _) (own_ix5 _)

theorem own_evI {s : State} {args : Array Value} {t : Term} {k : Int32} (h : (Jvm.Cond.eq t (.int k)).value args s none s [] = some true) : t.eval args s none [] s = some (.int k) := by
  have hb : (Term.int k).eval args s none [] s = some (.int k) := rfl
  cases ha : t.eval args s none [] s with
  | none => simp [Cond.value, ha] at h
  | some x => cases x <;> simp [Cond.value, ha, hb] at h; rw [h]

set_option maxRecDepth 65536 in
set_option maxHeartbeats 40000000 in
theorem comes_1 {Post : Tables → Env → Array Value → State → Outcome → State → Prop} (hpost : ∀ tb e args s v u, (limb_1_1.after args s (.returned v) u = true ∧ limb_1_2.after args s (.returned v) u = true ∧ True) → Jvm.D.FramedW s (.returned v) u (Jvm.fieldLocs frame_1_writes args s ++ Jvm.arrayLocs frame_1_arrays args s ++ Jvm.staticLocs frame_1_statics s) 24 2176 → Post tb e args s (.returned v) u) :
    ArmFor flags0 classFile x code maxLocals ret World_1 tables_1 room_1 Calls_1 rest_1 Pre_1 Post := by
  intro l hfl _ _ p e ha hc hk s m args below hf hA hF happ hP
  obtain ⟨hcalls, hrest, hpre⟩ := hP
  obtain ⟨-, -, -, hnamed, -, -, -, hat⟩ := (Spec.applies_iff hf).mp happ
  obtain ⟨hg, hn⟩ := and_e (Cond.before_iff.mp (show (Jvm.Cond.and given_1 narrow_1).before args s = true from hpre))
  obtain ⟨gg1, gg2⟩ := and_e hg
  obtain ⟨gg3, gg4⟩ := and_e gg2
  obtain ⟨gg5, gg6⟩ := and_e gg4
  obtain ⟨gg7, gg8⟩ := and_e gg6
  obtain ⟨gg9, gg10⟩ := and_e gg8
  obtain ⟨w0, w1, w2, w3, w4, rfl⟩ : ∃ w0 w1 w2 w3 w4 : Value, args = #[w0, w1, w2, w3, w4] := by
    have hs : args.size = 5 := by simpa [Cond.value, given_1] using gg1
    obtain ⟨L⟩ := args
    match L, hs with
    | [w0, w1, w2, w3, w4], _ => exact ⟨w0, w1, w2, w3, w4, rfl⟩
  have hw := fun d (hd : d ∈ tables_1) => atoms_spec (ws := Jvm.Cond.code x code maxLocals ret :: tables_1) hat d (List.mem_cons_of_mem _ hd)
  have hfit : Fit s := fun {y c} hc i hi => by
    obtain ⟨ha, rfl⟩ := Array.getElem?_eq_some_iff.mp hc
    have q := List.all_eq_true.mp ((Array.all_eq_true_iff_forall_mem.mp hF) _ (Array.getElem_mem ha)) i (List.mem_range.mpr hi)
    simpa [Array.getElem?_eq_getElem hi] using q
  obtain ⟨hsets, hown0⟩ := atoms_of _ (rest_1_c_eq ▸ (show rest_1_c.before _ s = true from hrest))
  have hr0 := Cond.before_iff.mp hown0
  obtain ⟨i0, ei0⟩ := is_v gg3
  obtain rfl : w0 = (.int i0) := Option.some.inj ei0
  obtain ⟨i1, ei1⟩ := is_v gg5
  obtain rfl : w1 = (.int i1) := Option.some.inj ei1
  obtain ⟨i2, ei2⟩ := is_v gg7
  obtain rfl : w2 = (.int i2) := Option.some.inj ei2
  obtain ⟨i3, ei3⟩ := is_v gg9
  obtain rfl : w3 = (.int i3) := Option.some.inj ei3
  obtain ⟨i4, ei4⟩ := is_v gg10
  obtain rfl : w4 = (.int i4) := Option.some.inj ei4
  obtain ⟨zc, evz⟩ := is_v (Cond.before_iff.mp (hsets _ (List.mem_of_getElem? (i := 1) rfl)))
  have S_C : Sta s s.heap "java/lang/String" "COMPACT_STRINGS" "Z" (.int zc) := Sta.start evz (Or.inl (hsets _ (List.mem_of_getElem? (i := 0) rfl)))
  have hzc : ¬ (zc = (0 : Int32)) := gotF (Cond.eq_ints evz (Term.int_eval (0))) (not_v (Cond.before_iff.mp (hsets _ (List.mem_of_getElem? (i := 2) rfl))))
  obtain ⟨fm, evf, rf⟩ := isR_v (Cond.before_iff.mp (hsets _ (List.mem_of_getElem? (i := 8) rfl)))
  have S_F : Sta s s.heap "jdk/internal/util/Preconditions" "SIOOBE_FORMATTER" "Ljava/util/function/BiFunction;" fm := Sta.start evf (Or.inl (hsets _ (List.mem_of_getElem? (i := 7) rfl)))
  have S__assertionsDisabled : Sta s s.heap "java/lang/StringUTF16" "$assertionsDisabled" "Z" (.int (1 : Int32)) := Sta.start (own_evI (Cond.before_iff.mp (hsets _ (List.mem_of_getElem? (i := 12) rfl)))) (Or.inl (hsets _ (List.mem_of_getElem? (i := 11) rfl)))
  have S_HI_BYTE_SHIFT : Sta s s.heap "java/lang/StringUTF16" "HI_BYTE_SHIFT" "I" (.int (0 : Int32)) := Sta.start (own_evI (Cond.before_iff.mp (hsets _ (List.mem_of_getElem? (i := 15) rfl)))) (Or.inl (hsets _ (List.mem_of_getElem? (i := 14) rfl)))
  have S_LO_BYTE_SHIFT : Sta s s.heap "java/lang/StringUTF16" "LO_BYTE_SHIFT" "I" (.int (8 : Int32)) := Sta.start (own_evI (Cond.before_iff.mp (hsets _ (List.mem_of_getElem? (i := 18) rfl)))) (Or.inl (hsets _ (List.mem_of_getElem? (i := 17) rfl)))
  have hC0 : CHv s consts_1 s.vm s.heap := CHv.start (own_EW hw) (fun p hp => hcalls.1 p hp) (hsets _ (List.mem_of_getElem? (i := 2) rfl)) (w20 hw) (w7 hw)
  obtain ⟨n, o, h1, h2, h3, _, L, rfl, ⟨rfl, N⟩, -, hq⟩ := rm0 l s _ hw tables_1 i0 i1 i2 i3 i4 zc fm s.heap s.heap.size (Nat.le_refl _) S_C hzc S_F rf S__assertionsDisabled S_HI_BYTE_SHIFT S_LO_BYTE_SHIFT p e ha hc hk s m _ below hf ((Spec.applies_iff_loose hf).mp happ).1 ⟨rfl, State.Warmed39.refl s, rfl, hC0, fun x hx => nomatch hx⟩ trivial
  refine ⟨n, _, h1, h2, h3, hpost _ _ _ _ _ _ ⟨Cond.after_iff.mpr rfl, Cond.after_iff.mpr (eq_i res_at (Term.int_eval (1)) rfl), trivial⟩ ⟨hq.1, hq.2.1, hq.2.2.1, (hq.2.2.2.sift fun y hy => Or.inr (N y hy)).mono (by decide) (by decide)⟩⟩
theorem main_1_1 : Claimed_1_1 := comes_1 fun _ _ _ _ _ _ h hF => ⟨h.1, hF⟩
theorem main_1_2 : Claimed_1_2 := comes_1 fun _ _ _ _ _ _ h hF => ⟨h.2.1, hF⟩
end Jvm.Pilot.@@N@@
namespace Jvm.Pilot.@@N@@
open Jvm Jvm.ClassFile Sem Op Lib Jvm.Free Jvm.Stand Jvm.Pilot.@@N@@.Jvm.D
/-! MADE BY PROGRAM (witnessworld.py) out of the Statement's table words and the real class files: 21 classes; the members and pool entries that the words name. The judged class is class 1, her method 1. -/
namespace start1
open Jvm.ClassFile
def u (s : String) : CpInfo := .utf8 (stringToUtf16 s)
/-- a pool by its gaps: so many unusable entries, then the entry; so many at the end -/
def gap : Nat → List CpInfo → List CpInfo
  | 0, r => r
  | n + 1, r => .unusable :: gap n r
def poolList (es : List (Nat × CpInfo)) (last : Nat) : List CpInfo := es.foldr (fun e r => gap e.1 (e.2 :: r)) (gap last [])
def pool (es : List (Nat × CpInfo)) (last : Nat) : Array CpInfo := ⟨poolList es last⟩
def fileOf (pool : Array CpInfo) (this : Nat) (attrs : Array Attribute := #[]) (ms : Array MethodInfo := #[]) (fl : Nat := 33) (sup : Nat := 0) (ifs : Array Nat := #[]) (fds : Array FieldInfo := #[]) : ClassFile where
  minorVersion := 0
  majorVersion := 65
  constantPool := pool
  accessFlags := fl
  thisClass := this
  superClass := sup
  interfaces := ifs
  fields := fds
  methods := ms
  attributes := attrs
def plain (name : String) (sup : Option ClassId) : Class where
  name := name
  kind := .ordinary
  loader := none
  accessFlags := 33
  super := sup
  interfaces := #[]
  cf := none
  fields := #[]
  methods := #[]
  instanceTypes := #[]
  staticTypes := #[]
  resolved := #[]
  callSites := []
  init := .initialized
  statics := none
  mirror := none

def pool0 : Array CpInfo := pool [(5, u "<init>"), (0, u "()V"), (1, .class_ 10), (1, u "java/lang/Object")] 113

def k0c0 : Code := { maxStack := 0, maxLocals := 1, code := object_method_1_code, exceptionTable := #[], attributes := #[] }
def k0m0 : Method := { name := "<init>", desc := "()V", sig := { parameters := [], returnType := none }, accessFlags := 1, code := some k0c0 }
/-- java/lang/Object -/
def k0 : Class := { plain "java/lang/Object" none with
  accessFlags := 33
  interfaces := #[]
  cf := some (fileOf pool0 8 #[] #[{ accessFlags := 1, nameIndex := 5, descriptorIndex := 6, attributes := #[] }] 33 0 #[] #[])
  fields := #[]
  methods := #[k0m0]
  instanceTypes := #[]
  staticTypes := #[]
  resolved := Array.replicate 124 none
  statics := none }

def pool1 : Array CpInfo := pool [(2, .class_ 4), (1, u "java/lang/Object"), (0, u "<init>"), (0, u "()V"), (0, .integer 2147483647), (0, .methodref 9 10), (0, .class_ 11), (0, .nameAndType 12 13), (0, u "dev/boundaryline/model/HeaderValueIsTokenPinLaw"), (0, u "draw"), (0, u "(I)C"), (0, .methodref 9 15), (0, .nameAndType 16 17), (0, u "tokenChar"), (0, u "(C)Z"), (0, .class_ 19), (0, u "java/lang/String"), (0, .methodref 18 21), (0, .nameAndType 5 22), (0, u "([C)V"), (0, .methodref 24 25), (0, .class_ 26), (0, .nameAndType 27 28), (0, u "dev/boundaryline/model/HeaderValue"), (0, u "isToken"), (0, u "(Ljava/lang/String;)Z"), (2, u "law"), (0, u "(IIIII)Z")] 5

def k1m0 : Method := { name := "<init>", desc := "()V", sig := { parameters := [], returnType := none }, accessFlags := 1, code := none }
def k1c1 : Code := { maxStack := 4, maxLocals := 12, code := code, exceptionTable := #[], attributes := #[] }
def k1m1 : Method := { name := "law", desc := "(IIIII)Z", sig := { parameters := [.int, .int, .int, .int, .int], returnType := some .boolean }, accessFlags := 9, code := some k1c1 }
def k1c2 : Code := { maxStack := 2, maxLocals := 1, code := method_3_code, exceptionTable := #[], attributes := #[] }
def k1m2 : Method := { name := "draw", desc := "(I)C", sig := { parameters := [.int], returnType := some .char }, accessFlags := 10, code := some k1c2 }
def k1c3 : Code := { maxStack := 2, maxLocals := 1, code := method_4_code, exceptionTable := #[], attributes := #[] }
def k1m3 : Method := { name := "tokenChar", desc := "(C)Z", sig := { parameters := [.char], returnType := some .boolean }, accessFlags := 10, code := some k1c3 }
/-- dev/boundaryline/model/HeaderValueIsTokenPinLaw -/
def k1 : Class := { plain "dev/boundaryline/model/HeaderValueIsTokenPinLaw" (some 0) with
  accessFlags := 49
  interfaces := #[]
  cf := some (fileOf pool1 9 #[] #[{ accessFlags := 1, nameIndex := 5, descriptorIndex := 6, attributes := #[] }, { accessFlags := 9, nameIndex := 31, descriptorIndex := 32, attributes := #[] }, { accessFlags := 10, nameIndex := 12, descriptorIndex := 13, attributes := #[] }, { accessFlags := 10, nameIndex := 16, descriptorIndex := 17, attributes := #[] }] 49 2 #[] #[])
  fields := #[]
  methods := #[k1m0, k1m1, k1m2, k1m3]
  instanceTypes := #[]
  staticTypes := #[]
  resolved := Array.replicate 38 none
  statics := none }

def pool2 : Array CpInfo := pool [(1, .class_ 2), (0, u "java/io/Serializable"), (0, .class_ 4), (0, u "java/lang/Object")] 2

/-- java/io/Serializable -/
def k2 : Class := { plain "java/io/Serializable" (some 0) with
  accessFlags := 1537
  interfaces := #[]
  cf := some (fileOf pool2 1 #[] #[] 1537 3 #[] #[])
  fields := #[]
  methods := #[]
  instanceTypes := #[]
  staticTypes := #[]
  resolved := Array.replicate 7 none
  statics := none }

def pool3 : Array CpInfo := pool [(1, .class_ 2), (0, u "java/lang/Comparable"), (0, .class_ 4), (0, u "java/lang/Object")] 7

/-- java/lang/Comparable -/
def k3 : Class := { plain "java/lang/Comparable" (some 0) with
  accessFlags := 1537
  interfaces := #[]
  cf := some (fileOf pool3 1 #[] #[] 1537 3 #[] #[])
  fields := #[]
  methods := #[]
  instanceTypes := #[]
  staticTypes := #[]
  resolved := Array.replicate 12 none
  statics := none }

def pool4 : Array CpInfo := pool [(2, .class_ 4), (1, u "java/lang/CharSequence"), (42, .class_ 48), (0, u "java/lang/CharSequence$1CodePointIterator"), (10, .class_ 60), (0, u "java/lang/CharSequence$1CharIterator"), (5, .class_ 67), (0, u "java/lang/Object")] 63

/-- java/lang/CharSequence -/
def k4 : Class := { plain "java/lang/CharSequence" (some 0) with
  accessFlags := 1537
  interfaces := #[]
  cf := some (fileOf pool4 2 #[.nestMembers #[47, 59]] #[] 1537 66 #[] #[])
  fields := #[]
  methods := #[]
  instanceTypes := #[]
  staticTypes := #[]
  resolved := Array.replicate 131 none
  statics := none }

def pool5 : Array CpInfo := pool [(1, .class_ 2), (0, u "java/lang/constant/Constable"), (0, .class_ 4), (0, u "java/lang/Object")] 6

/-- java/lang/constant/Constable -/
def k5 : Class := { plain "java/lang/constant/Constable" (some 0) with
  accessFlags := 1537
  interfaces := #[]
  cf := some (fileOf pool5 1 #[] #[] 1537 3 #[] #[])
  fields := #[]
  methods := #[]
  instanceTypes := #[]
  staticTypes := #[]
  resolved := Array.replicate 11 none
  statics := none }

def pool6 : Array CpInfo := pool [(1, .class_ 2), (0, u "java/lang/constant/ConstantDesc"), (0, .class_ 4), (0, u "java/lang/Object")] 32

/-- java/lang/constant/ConstantDesc -/
def k6 : Class := { plain "java/lang/constant/ConstantDesc" (some 0) with
  accessFlags := 1537
  interfaces := #[]
  cf := some (fileOf pool6 1 #[] #[] 1537 3 #[] #[])
  fields := #[]
  methods := #[]
  instanceTypes := #[]
  staticTypes := #[]
  resolved := Array.replicate 37 none
  statics := none }

def pool7 : Array CpInfo := pool [(1, .methodref 2 3), (0, .class_ 4), (0, .nameAndType 5 6), (0, u "java/lang/Object"), (0, u "<init>"), (0, u "()V"), (0, .string 8), (0, u ""), (0, .fieldref 10 11), (0, .class_ 12), (0, .nameAndType 13 14), (0, u "java/lang/String"), (0, u "value"), (0, u "[B"), (0, .fieldref 10 16), (0, .nameAndType 17 18), (0, u "coder"), (0, u "B"), (2, u "hash"), (0, u "I"), (2, u "hashIsZero"), (0, u "Z"), (0, .methodref 10 28), (0, .nameAndType 5 29), (0, u "([CIILjava/lang/Void;)V"), (8, .fieldref 10 39), (0, .nameAndType 40 26), (0, u "COMPACT_STRINGS"), (1, .class_ 44), (1, u "java/lang/StringUTF16"), (0, u "compress"), (1, .methodref 42 48), (0, .nameAndType 49 50), (0, u "coderFromArrayLen"), (0, u "([BI)B"), (56, .class_ 109), (1, u "java/lang/StringLatin1"), (32, u "()Z"), (34, .methodref 42 178), (0, .nameAndType 45 179), (0, u "([CII)[B"), (154, u "()I"), (0, .methodref 10 336), (0, .nameAndType 17 337), (0, u "()B"), (25, u "([BI)C"), (27, u "(II)V"), (35, u "(I)C"), (64, .methodref 10 493), (0, .nameAndType 494 142), (0, u "isLatin1"), (0, .methodref 107 496), (0, .nameAndType 497 363), (0, u "charAt"), (0, .methodref 42 496), (2, u "checkIndex"), (3, .methodref 10 506), (0, .nameAndType 507 334), (0, u "length"), (67, .class_ 576), (0, u "java/lang/CharSequence"), (22, u "CASE_INSENSITIVE_ORDER"), (0, u "Ljava/util/Comparator;"), (32, .methodref 10 634), (0, .nameAndType 635 636), (0, u "indexOf"), (0, u "(II)I"), (0, .methodref 107 638), (0, .nameAndType 635 639), (0, u "([BIII)I"), (52, u "isEmpty"), (72, u "(I)I"), (244, u "([C)V"), (42, .fieldref 1054 1055), (0, .class_ 1056), (0, .nameAndType 1057 1058), (0, u "jdk/internal/util/Preconditions"), (0, u "SIOOBE_FORMATTER"), (0, u "Ljava/util/function/BiFunction;"), (0, .methodref 1054 1060), (0, .nameAndType 501 1061), (0, u "(IILjava/util/function/BiFunction;)I"), (39, u "serialPersistentFields"), (0, u "[Ljava/io/ObjectStreamField;"), (0, .class_ 1104), (0, u "java/lang/String$CaseInsensitiveComparator"), (1, .class_ 1107), (0, u "java/io/Serializable"), (0, .class_ 1109), (0, u "java/lang/Comparable"), (0, .class_ 1111), (0, u "java/lang/constant/Constable"), (0, .class_ 1113), (0, u "java/lang/constant/ConstantDesc"), (2, u "serialVersionUID"), (0, u "J"), (3, u "REPL"), (0, u "C"), (2, u "LATIN1"), (1, u "UTF16")] 323

def k7m0 : Method := { name := "<init>", desc := "()V", sig := { parameters := [], returnType := none }, accessFlags := 1, code := none }
def k7c1 : Code := { maxStack := 5, maxLocals := 2, code := jdk_42_method_3_code, exceptionTable := #[], attributes := #[] }
def k7m1 : Method := { name := "<init>", desc := "([C)V", sig := { parameters := [(.array .char)], returnType := none }, accessFlags := 1, code := some k7c1 }
def k7c2 : Code := { maxStack := 2, maxLocals := 1, code := jdk_42_method_54_code, exceptionTable := #[], attributes := #[] }
def k7m2 : Method := { name := "length", desc := "()I", sig := { parameters := [], returnType := some .int }, accessFlags := 1, code := some k7c2 }
def k7c3 : Code := { maxStack := 1, maxLocals := 1, code := jdk_42_method_55_code, exceptionTable := #[], attributes := #[] }
def k7m3 : Method := { name := "isEmpty", desc := "()Z", sig := { parameters := [], returnType := some .boolean }, accessFlags := 1, code := some k7c3 }
def k7c4 : Code := { maxStack := 2, maxLocals := 2, code := jdk_42_method_56_code, exceptionTable := #[], attributes := #[] }
def k7m4 : Method := { name := "charAt", desc := "(I)C", sig := { parameters := [.int], returnType := some .char }, accessFlags := 1, code := some k7c4 }
def k7c5 : Code := { maxStack := 3, maxLocals := 2, code := jdk_42_method_79_code, exceptionTable := #[], attributes := #[] }
def k7m5 : Method := { name := "indexOf", desc := "(I)I", sig := { parameters := [.int], returnType := some .int }, accessFlags := 1, code := some k7c5 }
def k7c6 : Code := { maxStack := 4, maxLocals := 3, code := jdk_42_method_80_code, exceptionTable := #[], attributes := #[] }
def k7m6 : Method := { name := "indexOf", desc := "(II)I", sig := { parameters := [.int, .int], returnType := some .int }, accessFlags := 1, code := some k7c6 }
def k7c7 : Code := { maxStack := 4, maxLocals := 6, code := jdk_42_method_149_code, exceptionTable := #[], attributes := #[] }
def k7m7 : Method := { name := "<init>", desc := "([CIILjava/lang/Void;)V", sig := { parameters := [(.array .char), .int, .int, (.object "java/lang/Void")], returnType := none }, accessFlags := 2, code := some k7c7 }
def k7c8 : Code := { maxStack := 1, maxLocals := 1, code := jdk_42_method_152_code, exceptionTable := #[], attributes := #[] }
def k7m8 : Method := { name := "coder", desc := "()B", sig := { parameters := [], returnType := some .byte }, accessFlags := 0, code := some k7c8 }
def k7c9 : Code := { maxStack := 1, maxLocals := 1, code := jdk_42_method_154_code, exceptionTable := #[], attributes := #[] }
def k7m9 : Method := { name := "isLatin1", desc := "()Z", sig := { parameters := [], returnType := some .boolean }, accessFlags := 0, code := some k7c9 }
def k7c10 : Code := { maxStack := 3, maxLocals := 2, code := jdk_42_method_155_code, exceptionTable := #[], attributes := #[] }
def k7m10 : Method := { name := "checkIndex", desc := "(II)V", sig := { parameters := [.int, .int], returnType := none }, accessFlags := 8, code := some k7c10 }
/-- java/lang/String -/
def k7 : Class := { plain "java/lang/String" (some 0) with
  accessFlags := 49
  interfaces := #[2, 3, 4, 5, 6]
  cf := some (fileOf pool7 10 #[.nestMembers #[1103]] #[{ accessFlags := 1, nameIndex := 5, descriptorIndex := 6, attributes := #[] }, { accessFlags := 1, nameIndex := 5, descriptorIndex := 1010, attributes := #[] }, { accessFlags := 1, nameIndex := 507, descriptorIndex := 334, attributes := #[] }, { accessFlags := 1, nameIndex := 692, descriptorIndex := 142, attributes := #[] }, { accessFlags := 1, nameIndex := 497, descriptorIndex := 427, attributes := #[] }, { accessFlags := 1, nameIndex := 635, descriptorIndex := 765, attributes := #[] }, { accessFlags := 1, nameIndex := 635, descriptorIndex := 636, attributes := #[] }, { accessFlags := 2, nameIndex := 5, descriptorIndex := 29, attributes := #[] }, { accessFlags := 0, nameIndex := 17, descriptorIndex := 337, attributes := #[] }, { accessFlags := 0, nameIndex := 494, descriptorIndex := 142, attributes := #[] }, { accessFlags := 8, nameIndex := 501, descriptorIndex := 391, attributes := #[] }] 49 2 #[1106, 1108, 575, 1110, 1112] #[{ accessFlags := 18, nameIndex := 13, descriptorIndex := 14, attributes := #[] }, { accessFlags := 18, nameIndex := 17, descriptorIndex := 18, attributes := #[] }, { accessFlags := 2, nameIndex := 21, descriptorIndex := 22, attributes := #[] }, { accessFlags := 2, nameIndex := 25, descriptorIndex := 26, attributes := #[] }, { accessFlags := 26, nameIndex := 1116, descriptorIndex := 1117, attributes := #[] }, { accessFlags := 24, nameIndex := 40, descriptorIndex := 26, attributes := #[] }, { accessFlags := 26, nameIndex := 1101, descriptorIndex := 1102, attributes := #[] }, { accessFlags := 26, nameIndex := 1121, descriptorIndex := 1122, attributes := #[] }, { accessFlags := 25, nameIndex := 599, descriptorIndex := 600, attributes := #[] }, { accessFlags := 24, nameIndex := 1125, descriptorIndex := 18, attributes := #[] }, { accessFlags := 24, nameIndex := 1127, descriptorIndex := 18, attributes := #[] }])
  fields := #[{ name := "value", type := (.array .byte), accessFlags := 18, slot := 0, constantValue := 0 }, { name := "coder", type := .byte, accessFlags := 18, slot := 1, constantValue := 0 }, { name := "hash", type := .int, accessFlags := 2, slot := 2, constantValue := 0 }, { name := "hashIsZero", type := .boolean, accessFlags := 2, slot := 3, constantValue := 0 }, { name := "serialVersionUID", type := .long, accessFlags := 26, slot := 0, constantValue := 0 }, { name := "COMPACT_STRINGS", type := .boolean, accessFlags := 24, slot := 1, constantValue := 0 }, { name := "serialPersistentFields", type := (.array (.object "java/io/ObjectStreamField")), accessFlags := 26, slot := 2, constantValue := 0 }, { name := "REPL", type := .char, accessFlags := 26, slot := 3, constantValue := 0 }, { name := "CASE_INSENSITIVE_ORDER", type := (.object "java/util/Comparator"), accessFlags := 25, slot := 4, constantValue := 0 }, { name := "LATIN1", type := .byte, accessFlags := 24, slot := 5, constantValue := 0 }, { name := "UTF16", type := .byte, accessFlags := 24, slot := 6, constantValue := 0 }]
  methods := #[k7m0, k7m1, k7m2, k7m3, k7m4, k7m5, k7m6, k7m7, k7m8, k7m9, k7m10]
  instanceTypes := #[(.array .byte), .byte, .int, .boolean]
  staticTypes := #[.long, .boolean, (.array (.object "java/io/ObjectStreamField")), .char, (.object "java/util/Comparator"), .byte, .byte]
  resolved := Array.replicate 1451 none
  statics := some 0 }

def pool8 : Array CpInfo := pool [(2, .class_ 4), (1, u "java/lang/Object"), (3, .class_ 10), (1, u "dev/boundaryline/model/HeaderValue"), (0, u "value"), (0, u "Ljava/lang/String;"), (2, u "parameters"), (0, u "Ljava/util/Map;"), (0, .methodref 18 19), (0, .class_ 20), (0, .nameAndType 21 22), (0, u "java/lang/String"), (0, u "length"), (0, u "()I"), (0, .methodref 18 24), (0, .nameAndType 25 26), (0, u "indexOf"), (0, u "(I)I"), (11, .methodref 18 39), (0, .nameAndType 40 41), (0, u "charAt"), (0, u "(I)C"), (19, u "isToken"), (0, u "(Ljava/lang/String;)Z"), (46, .methodref 18 110), (0, .nameAndType 111 112), (0, u "isEmpty"), (0, u "()Z"), (0, .methodref 8 114), (0, .nameAndType 115 116), (0, u "isAsciiAlphanumeric"), (0, u "(C)Z"), (0, .string 118), (0, u "!#$%&'*+-.^_`|~"), (8, u "TOKEN_SYMBOLS")] 27

def k8c0 : Code := { maxStack := 2, maxLocals := 3, code := prog_32_method_6_code, exceptionTable := #[], attributes := #[] }
def k8m0 : Method := { name := "isToken", desc := "(Ljava/lang/String;)Z", sig := { parameters := [(.object "java/lang/String")], returnType := some .boolean }, accessFlags := 8, code := some k8c0 }
def k8c1 : Code := { maxStack := 2, maxLocals := 1, code := prog_32_method_7_code, exceptionTable := #[], attributes := #[] }
def k8m1 : Method := { name := "isAsciiAlphanumeric", desc := "(C)Z", sig := { parameters := [.char], returnType := some .boolean }, accessFlags := 8, code := some k8c1 }
/-- dev/boundaryline/model/HeaderValue -/
def k8 : Class := { plain "dev/boundaryline/model/HeaderValue" (some 0) with
  accessFlags := 49
  interfaces := #[]
  cf := some (fileOf pool8 8 #[] #[{ accessFlags := 8, nameIndex := 61, descriptorIndex := 62, attributes := #[] }, { accessFlags := 8, nameIndex := 115, descriptorIndex := 116, attributes := #[] }] 49 2 #[] #[{ accessFlags := 26, nameIndex := 127, descriptorIndex := 12, attributes := #[] }, { accessFlags := 18, nameIndex := 11, descriptorIndex := 12, attributes := #[] }, { accessFlags := 18, nameIndex := 15, descriptorIndex := 16, attributes := #[] }])
  fields := #[{ name := "TOKEN_SYMBOLS", type := (.object "java/lang/String"), accessFlags := 26, slot := 0, constantValue := 0 }, { name := "value", type := (.object "java/lang/String"), accessFlags := 18, slot := 0, constantValue := 0 }, { name := "parameters", type := (.object "java/util/Map"), accessFlags := 18, slot := 1, constantValue := 0 }]
  methods := #[k8m0, k8m1]
  instanceTypes := #[(.object "java/lang/String"), (.object "java/util/Map")]
  staticTypes := #[(.object "java/lang/String")]
  resolved := Array.replicate 155 none
  statics := none }

def pool9 : Array CpInfo := pool [(3, .class_ 4), (0, u "java/lang/String"), (1, .class_ 8), (1, u "java/lang/Object"), (0, u "<init>"), (0, u "()V"), (0, .methodref 12 13), (0, .class_ 14), (0, .nameAndType 15 16), (0, u "java/lang/StringUTF16"), (0, u "newBytesLength"), (0, u "(I)I"), (3, .integer 1073741823), (23, .fieldref 12 45), (0, .nameAndType 46 47), (0, u "$assertionsDisabled"), (0, u "Z"), (0, .methodref 12 49), (0, .nameAndType 50 51), (0, u "length"), (0, u "([B)I"), (7, .fieldref 12 60), (0, .nameAndType 61 62), (0, u "HI_BYTE_SHIFT"), (0, u "I"), (0, .fieldref 12 64), (0, .nameAndType 65 62), (0, u "LO_BYTE_SHIFT"), (1, .methodref 12 68), (0, .nameAndType 69 70), (0, u "checkIndex"), (0, u "(I[B)V"), (0, .methodref 12 72), (0, .nameAndType 73 74), (0, u "getChar"), (0, u "([BI)C"), (32, .methodref 12 108), (0, .nameAndType 109 110), (0, u "newBytesFor"), (0, u "(I)[B"), (0, .methodref 12 112), (0, .nameAndType 113 114), (0, u "putChar"), (0, u "([BII)V"), (0, .methodref 12 116), (0, .nameAndType 117 118), (0, u "compress"), (0, u "([CI[BII)I"), (0, .methodref 12 120), (0, .nameAndType 121 122), (0, u "toBytes"), (0, u "([CII)[B"), (138, u "coderFromArrayLen"), (0, u "([BI)B"), (106, .class_ 371), (1, u "java/lang/StringUTF16$LinesSpliterator"), (20, u "charAt"), (21, .methodref 3 415), (0, .nameAndType 69 416), (0, u "(II)V"), (13, u "MAX_LENGTH"), (196, .class_ 628), (0, u "java/lang/StringUTF16$CodePointsSpliterator"), (0, .class_ 630), (0, u "java/lang/StringUTF16$CharsSpliterator")] 4

def k9m0 : Method := { name := "<init>", desc := "()V", sig := { parameters := [], returnType := none }, accessFlags := 0, code := none }
def k9c1 : Code := { maxStack := 1, maxLocals := 1, code := jdk_52_method_2_code, exceptionTable := #[], attributes := #[] }
def k9m1 : Method := { name := "newBytesFor", desc := "(I)[B", sig := { parameters := [.int], returnType := some (.array .byte) }, accessFlags := 9, code := some k9c1 }
def k9c2 : Code := { maxStack := 4, maxLocals := 1, code := jdk_52_method_3_code, exceptionTable := #[], attributes := #[] }
def k9m2 : Method := { name := "newBytesLength", desc := "(I)I", sig := { parameters := [.int], returnType := some .int }, accessFlags := 9, code := some k9c2 }
def k9c3 : Code := { maxStack := 4, maxLocals := 3, code := jdk_52_method_4_code, exceptionTable := #[], attributes := #[] }
def k9m3 : Method := { name := "putChar", desc := "([BII)V", sig := { parameters := [(.array .byte), .int, .int], returnType := none }, accessFlags := 8, code := some k9c3 }
def k9c4 : Code := { maxStack := 3, maxLocals := 2, code := jdk_52_method_5_code, exceptionTable := #[], attributes := #[] }
def k9m4 : Method := { name := "getChar", desc := "([BI)C", sig := { parameters := [(.array .byte), .int], returnType := some .char }, accessFlags := 8, code := some k9c4 }
def k9c5 : Code := { maxStack := 2, maxLocals := 1, code := jdk_52_method_6_code, exceptionTable := #[], attributes := #[] }
def k9m5 : Method := { name := "length", desc := "([B)I", sig := { parameters := [(.array .byte)], returnType := some .int }, accessFlags := 9, code := some k9c5 }
def k9c6 : Code := { maxStack := 4, maxLocals := 5, code := jdk_52_method_14_code, exceptionTable := #[], attributes := #[] }
def k9m6 : Method := { name := "toBytes", desc := "([CII)[B", sig := { parameters := [(.array .char), .int, .int], returnType := some (.array .byte) }, accessFlags := 9, code := some k9c6 }
def k9c7 : Code := { maxStack := 2, maxLocals := 2, code := jdk_52_method_15_code, exceptionTable := #[], attributes := #[] }
def k9m7 : Method := { name := "coderFromArrayLen", desc := "([BI)B", sig := { parameters := [(.array .byte), .int], returnType := some .byte }, accessFlags := 8, code := some k9c7 }
def k9c8 : Code := { maxStack := 5, maxLocals := 6, code := jdk_52_method_16_code, exceptionTable := #[], attributes := #[] }
def k9m8 : Method := { name := "compress", desc := "([CII)[B", sig := { parameters := [(.array .char), .int, .int], returnType := some (.array .byte) }, accessFlags := 9, code := some k9c8 }
def k9c9 : Code := { maxStack := 3, maxLocals := 7, code := jdk_52_method_21_code, exceptionTable := #[], attributes := #[] }
def k9m9 : Method := { name := "compress", desc := "([CI[BII)I", sig := { parameters := [(.array .char), .int, (.array .byte), .int, .int], returnType := some .int }, accessFlags := 9, code := some k9c9 }
def k9c10 : Code := { maxStack := 2, maxLocals := 2, code := jdk_52_method_83_code, exceptionTable := #[], attributes := #[] }
def k9m10 : Method := { name := "charAt", desc := "([BI)C", sig := { parameters := [(.array .byte), .int], returnType := some .char }, accessFlags := 9, code := some k9c10 }
def k9c11 : Code := { maxStack := 2, maxLocals := 2, code := jdk_52_method_91_code, exceptionTable := #[], attributes := #[] }
def k9m11 : Method := { name := "checkIndex", desc := "(I[B)V", sig := { parameters := [.int, (.array .byte)], returnType := none }, accessFlags := 9, code := some k9c11 }
/-- java/lang/StringUTF16 -/
def k9 : Class := { plain "java/lang/StringUTF16" (some 0) with
  accessFlags := 48
  interfaces := #[]
  cf := some (fileOf pool9 12 #[.nestMembers #[627, 629, 369]] #[{ accessFlags := 0, nameIndex := 9, descriptorIndex := 10, attributes := #[] }, { accessFlags := 9, nameIndex := 109, descriptorIndex := 110, attributes := #[] }, { accessFlags := 9, nameIndex := 15, descriptorIndex := 16, attributes := #[] }, { accessFlags := 8, nameIndex := 113, descriptorIndex := 114, attributes := #[] }, { accessFlags := 8, nameIndex := 73, descriptorIndex := 74, attributes := #[] }, { accessFlags := 9, nameIndex := 50, descriptorIndex := 51, attributes := #[] }, { accessFlags := 9, nameIndex := 121, descriptorIndex := 122, attributes := #[] }, { accessFlags := 8, nameIndex := 261, descriptorIndex := 262, attributes := #[] }, { accessFlags := 9, nameIndex := 117, descriptorIndex := 122, attributes := #[] }, { accessFlags := 9, nameIndex := 117, descriptorIndex := 118, attributes := #[] }, { accessFlags := 9, nameIndex := 392, descriptorIndex := 74, attributes := #[] }, { accessFlags := 9, nameIndex := 69, descriptorIndex := 70, attributes := #[] }] 48 6 #[] #[{ accessFlags := 26, nameIndex := 61, descriptorIndex := 62, attributes := #[] }, { accessFlags := 26, nameIndex := 65, descriptorIndex := 62, attributes := #[] }, { accessFlags := 24, nameIndex := 430, descriptorIndex := 62, attributes := #[] }, { accessFlags := 4120, nameIndex := 46, descriptorIndex := 47, attributes := #[] }])
  fields := #[{ name := "HI_BYTE_SHIFT", type := .int, accessFlags := 26, slot := 0, constantValue := 0 }, { name := "LO_BYTE_SHIFT", type := .int, accessFlags := 26, slot := 1, constantValue := 0 }, { name := "MAX_LENGTH", type := .int, accessFlags := 24, slot := 2, constantValue := 0 }, { name := "$assertionsDisabled", type := .boolean, accessFlags := 4120, slot := 3, constantValue := 0 }]
  methods := #[k9m0, k9m1, k9m2, k9m3, k9m4, k9m5, k9m6, k9m7, k9m8, k9m9, k9m10, k9m11]
  instanceTypes := #[]
  staticTypes := #[.int, .int, .int, .boolean]
  resolved := Array.replicate 635 none
  statics := some 1 }

def pool10 : Array CpInfo := pool [(1, .class_ 2), (0, u "java/lang/String"), (1, .class_ 6), (1, u "java/lang/Object"), (0, u "<init>"), (0, u "()V"), (0, .methodref 1 10), (0, .nameAndType 11 12), (0, u "checkIndex"), (0, u "(II)V"), (1, .class_ 16), (1, u "java/lang/StringLatin1"), (21, .methodref 39 40), (0, .class_ 41), (0, .nameAndType 42 43), (0, u "java/lang/Math"), (0, u "min"), (0, u "(II)I"), (9, u "([BI)C"), (34, .methodref 14 89), (0, .nameAndType 90 91), (0, u "canEncode"), (0, u "(I)Z"), (0, .methodref 39 93), (0, .nameAndType 94 43), (0, u "max"), (0, .methodref 14 96), (0, .nameAndType 97 98), (0, u "indexOfChar"), (0, u "([BIII)I"), (2, u "indexOf"), (19, u "$assertionsDisabled"), (0, u "Z"), (98, .class_ 223), (1, u "java/lang/StringLatin1$LinesSpliterator"), (28, u "charAt"), (137, .class_ 391), (0, u "java/lang/StringLatin1$CharsSpliterator")] 3

def k10m0 : Method := { name := "<init>", desc := "()V", sig := { parameters := [], returnType := none }, accessFlags := 0, code := none }
def k10c1 : Code := { maxStack := 2, maxLocals := 2, code := jdk_43_method_2_code, exceptionTable := #[], attributes := #[] }
def k10m1 : Method := { name := "charAt", desc := "([BI)C", sig := { parameters := [(.array .byte), .int], returnType := some .char }, accessFlags := 9, code := some k10c1 }
def k10c2 : Code := { maxStack := 2, maxLocals := 1, code := jdk_43_method_4_code, exceptionTable := #[], attributes := #[] }
def k10m2 : Method := { name := "canEncode", desc := "(I)Z", sig := { parameters := [.int], returnType := some .boolean }, accessFlags := 9, code := some k10c2 }
def k10c3 : Code := { maxStack := 4, maxLocals := 4, code := jdk_43_method_22_code, exceptionTable := #[], attributes := #[] }
def k10m3 : Method := { name := "indexOf", desc := "([BIII)I", sig := { parameters := [(.array .byte), .int, .int, .int], returnType := some .int }, accessFlags := 9, code := some k10c3 }
def k10c4 : Code := { maxStack := 2, maxLocals := 6, code := jdk_43_method_23_code, exceptionTable := #[], attributes := #[] }
def k10m4 : Method := { name := "indexOfChar", desc := "([BIII)I", sig := { parameters := [(.array .byte), .int, .int, .int], returnType := some .int }, accessFlags := 10, code := some k10c4 }
/-- java/lang/StringLatin1 -/
def k10 : Class := { plain "java/lang/StringLatin1" (some 0) with
  accessFlags := 48
  interfaces := #[]
  cf := some (fileOf pool10 14 #[.nestMembers #[390, 221]] #[{ accessFlags := 0, nameIndex := 7, descriptorIndex := 8, attributes := #[] }, { accessFlags := 9, nameIndex := 252, descriptorIndex := 53, attributes := #[] }, { accessFlags := 9, nameIndex := 90, descriptorIndex := 91, attributes := #[] }, { accessFlags := 9, nameIndex := 101, descriptorIndex := 98, attributes := #[] }, { accessFlags := 10, nameIndex := 97, descriptorIndex := 98, attributes := #[] }] 48 4 #[] #[{ accessFlags := 4120, nameIndex := 121, descriptorIndex := 122, attributes := #[] }])
  fields := #[{ name := "$assertionsDisabled", type := .boolean, accessFlags := 4120, slot := 0, constantValue := 0 }]
  methods := #[k10m0, k10m1, k10m2, k10m3, k10m4]
  instanceTypes := #[]
  staticTypes := #[.boolean]
  resolved := Array.replicate 395 none
  statics := none }

def pool11 : Array CpInfo := pool [(2, .class_ 4), (1, u "java/lang/Object"), (0, u "<init>"), (0, u "()V"), (17, .class_ 26), (1, u "jdk/internal/util/Preconditions"), (6, u "checkIndex"), (21, .class_ 56), (0, u "jdk/internal/util/Preconditions$4"), (57, .class_ 115), (0, u "jdk/internal/util/Preconditions$1"), (7, u "SIOOBE_FORMATTER"), (0, u "Ljava/util/function/BiFunction;"), (0, .class_ 126), (0, u "jdk/internal/util/Preconditions$2"), (3, u "AIOOBE_FORMATTER"), (0, .class_ 132), (0, u "jdk/internal/util/Preconditions$3"), (3, u "IOOBE_FORMATTER"), (41, u "(IILjava/util/function/BiFunction;)I")] 15

def k11m0 : Method := { name := "<init>", desc := "()V", sig := { parameters := [], returnType := none }, accessFlags := 1, code := none }
def k11c1 : Code := { maxStack := 3, maxLocals := 3, code := jdk_41_method_11_code, exceptionTable := #[], attributes := #[] }
def k11m1 : Method := { name := "checkIndex", desc := "(IILjava/util/function/BiFunction;)I", sig := { parameters := [.int, .int, (.object "java/util/function/BiFunction")], returnType := some .int }, accessFlags := 9, code := some k11c1 }
/-- jdk/internal/util/Preconditions -/
def k11 : Class := { plain "jdk/internal/util/Preconditions" (some 0) with
  accessFlags := 33
  interfaces := #[]
  cf := some (fileOf pool11 24 #[.nestMembers #[55, 131, 125, 114]] #[{ accessFlags := 1, nameIndex := 5, descriptorIndex := 6, attributes := #[] }, { accessFlags := 9, nameIndex := 33, descriptorIndex := 178, attributes := #[] }] 33 2 #[] #[{ accessFlags := 25, nameIndex := 123, descriptorIndex := 124, attributes := #[] }, { accessFlags := 25, nameIndex := 130, descriptorIndex := 124, attributes := #[] }, { accessFlags := 25, nameIndex := 136, descriptorIndex := 124, attributes := #[] }])
  fields := #[{ name := "SIOOBE_FORMATTER", type := (.object "java/util/function/BiFunction"), accessFlags := 25, slot := 0, constantValue := 0 }, { name := "AIOOBE_FORMATTER", type := (.object "java/util/function/BiFunction"), accessFlags := 25, slot := 1, constantValue := 0 }, { name := "IOOBE_FORMATTER", type := (.object "java/util/function/BiFunction"), accessFlags := 25, slot := 2, constantValue := 0 }]
  methods := #[k11m0, k11m1]
  instanceTypes := #[]
  staticTypes := #[(.object "java/util/function/BiFunction"), (.object "java/util/function/BiFunction"), (.object "java/util/function/BiFunction")]
  resolved := Array.replicate 194 none
  statics := some 2 }

def pool12 : Array CpInfo := pool [(1, .class_ 2), (0, u "java/lang/Math"), (1, .class_ 6), (1, u "java/lang/Object"), (0, u "<init>"), (0, u "()V"), (89, .class_ 100), (1, u "java/lang/Math$RandomNumberGeneratorHolder"), (71, u "negativeZeroFloatBits"), (0, u "J"), (2, u "negativeZeroDoubleBits"), (21, u "max"), (2, u "min"), (43, u "$assertionsDisabled"), (0, u "Z"), (88, u "(II)I"), (2, u "twoToTheDoubleScaleDown"), (0, u "D"), (4, u "twoToTheDoubleScaleUp"), (9, u "E"), (3, u "PI"), (2, u "TAU"), (2, u "DEGREES_TO_RADIANS"), (0, u "RADIANS_TO_DEGREES")] 94

def k12m0 : Method := { name := "<init>", desc := "()V", sig := { parameters := [], returnType := none }, accessFlags := 2, code := none }
def k12c1 : Code := { maxStack := 2, maxLocals := 2, code := jdk_29_method_65_code, exceptionTable := #[], attributes := #[] }
def k12m1 : Method := { name := "max", desc := "(II)I", sig := { parameters := [.int, .int], returnType := some .int }, accessFlags := 9, code := some k12c1 }
def k12c2 : Code := { maxStack := 2, maxLocals := 2, code := jdk_29_method_69_code, exceptionTable := #[], attributes := #[] }
def k12m2 : Method := { name := "min", desc := "(II)I", sig := { parameters := [.int, .int], returnType := some .int }, accessFlags := 9, code := some k12c2 }
/-- java/lang/Math -/
def k12 : Class := { plain "java/lang/Math" (some 0) with
  accessFlags := 49
  interfaces := #[]
  cf := some (fileOf pool12 1 #[.nestMembers #[98]] #[{ accessFlags := 2, nameIndex := 7, descriptorIndex := 8, attributes := #[] }, { accessFlags := 9, nameIndex := 198, descriptorIndex := 335, attributes := #[] }, { accessFlags := 9, nameIndex := 201, descriptorIndex := 335, attributes := #[] }] 49 4 #[] #[{ accessFlags := 25, nameIndex := 354, descriptorIndex := 339, attributes := #[] }, { accessFlags := 25, nameIndex := 358, descriptorIndex := 339, attributes := #[] }, { accessFlags := 25, nameIndex := 361, descriptorIndex := 339, attributes := #[] }, { accessFlags := 26, nameIndex := 364, descriptorIndex := 339, attributes := #[] }, { accessFlags := 26, nameIndex := 365, descriptorIndex := 339, attributes := #[] }, { accessFlags := 26, nameIndex := 172, descriptorIndex := 173, attributes := #[] }, { accessFlags := 26, nameIndex := 176, descriptorIndex := 173, attributes := #[] }, { accessFlags := 8, nameIndex := 344, descriptorIndex := 339, attributes := #[] }, { accessFlags := 8, nameIndex := 338, descriptorIndex := 339, attributes := #[] }, { accessFlags := 4120, nameIndex := 245, descriptorIndex := 246, attributes := #[] }])
  fields := #[{ name := "E", type := .double, accessFlags := 25, slot := 0, constantValue := 0 }, { name := "PI", type := .double, accessFlags := 25, slot := 1, constantValue := 0 }, { name := "TAU", type := .double, accessFlags := 25, slot := 2, constantValue := 0 }, { name := "DEGREES_TO_RADIANS", type := .double, accessFlags := 26, slot := 3, constantValue := 0 }, { name := "RADIANS_TO_DEGREES", type := .double, accessFlags := 26, slot := 4, constantValue := 0 }, { name := "negativeZeroFloatBits", type := .long, accessFlags := 26, slot := 5, constantValue := 0 }, { name := "negativeZeroDoubleBits", type := .long, accessFlags := 26, slot := 6, constantValue := 0 }, { name := "twoToTheDoubleScaleUp", type := .double, accessFlags := 8, slot := 7, constantValue := 0 }, { name := "twoToTheDoubleScaleDown", type := .double, accessFlags := 8, slot := 8, constantValue := 0 }, { name := "$assertionsDisabled", type := .boolean, accessFlags := 4120, slot := 9, constantValue := 0 }]
  methods := #[k12m0, k12m1, k12m2]
  instanceTypes := #[]
  staticTypes := #[.double, .double, .double, .double, .double, .long, .long, .double, .double, .boolean]
  resolved := Array.replicate 460 none
  statics := none }

def pool13 : Array CpInfo := pool [(9, u "<init>"), (6, .class_ 18), (1, u "java/lang/Object"), (0, u "()V"), (1, .class_ 23), (1, u "jdk/internal/util/ArraysSupport"), (0, u "LOG2_ARRAY_LONG_INDEX_SCALE"), (0, u "I"), (2, u "U"), (0, u "Ljdk/internal/misc/Unsafe;"), (8, u "BIG_ENDIAN"), (0, u "Z"), (8, u "LOG2_BYTE_BIT_SIZE"), (4, u "LOG2_ARRAY_INT_INDEX_SCALE"), (54, u "JLA"), (0, u "Ljdk/internal/access/JavaLangAccess;"), (11, u "LOG2_ARRAY_BOOLEAN_INDEX_SCALE"), (9, u "LOG2_ARRAY_BYTE_INDEX_SCALE"), (5, u "LOG2_ARRAY_CHAR_INDEX_SCALE"), (5, u "LOG2_ARRAY_SHORT_INDEX_SCALE"), (18, u "LOG2_ARRAY_FLOAT_INDEX_SCALE"), (24, u "LOG2_ARRAY_DOUBLE_INDEX_SCALE"), (89, u "T_BOOLEAN"), (2, u "T_CHAR"), (1, u "T_FLOAT"), (1, u "T_DOUBLE"), (1, u "T_BYTE"), (1, u "T_SHORT"), (1, u "T_INT"), (1, u "T_LONG"), (1, u "SOFT_MAX_ARRAY_LENGTH")] 83

def k13m0 : Method := { name := "<init>", desc := "()V", sig := { parameters := [], returnType := none }, accessFlags := 2, code := none }
/-- jdk/internal/util/ArraysSupport -/
def k13 : Class := { plain "jdk/internal/util/ArraysSupport" (some 0) with
  accessFlags := 33
  interfaces := #[]
  cf := some (fileOf pool13 21 #[] #[{ accessFlags := 2, nameIndex := 9, descriptorIndex := 19, attributes := #[] }] 33 16 #[] #[{ accessFlags := 24, nameIndex := 28, descriptorIndex := 29, attributes := #[] }, { accessFlags := 26, nameIndex := 38, descriptorIndex := 39, attributes := #[] }, { accessFlags := 25, nameIndex := 121, descriptorIndex := 25, attributes := #[] }, { accessFlags := 25, nameIndex := 131, descriptorIndex := 25, attributes := #[] }, { accessFlags := 25, nameIndex := 137, descriptorIndex := 25, attributes := #[] }, { accessFlags := 25, nameIndex := 143, descriptorIndex := 25, attributes := #[] }, { accessFlags := 25, nameIndex := 53, descriptorIndex := 25, attributes := #[] }, { accessFlags := 25, nameIndex := 24, descriptorIndex := 25, attributes := #[] }, { accessFlags := 25, nameIndex := 162, descriptorIndex := 25, attributes := #[] }, { accessFlags := 25, nameIndex := 187, descriptorIndex := 25, attributes := #[] }, { accessFlags := 26, nameIndex := 48, descriptorIndex := 25, attributes := #[] }, { accessFlags := 25, nameIndex := 277, descriptorIndex := 25, attributes := #[] }, { accessFlags := 25, nameIndex := 280, descriptorIndex := 25, attributes := #[] }, { accessFlags := 25, nameIndex := 282, descriptorIndex := 25, attributes := #[] }, { accessFlags := 25, nameIndex := 284, descriptorIndex := 25, attributes := #[] }, { accessFlags := 25, nameIndex := 286, descriptorIndex := 25, attributes := #[] }, { accessFlags := 25, nameIndex := 288, descriptorIndex := 25, attributes := #[] }, { accessFlags := 25, nameIndex := 290, descriptorIndex := 25, attributes := #[] }, { accessFlags := 25, nameIndex := 292, descriptorIndex := 25, attributes := #[] }, { accessFlags := 26, nameIndex := 108, descriptorIndex := 109, attributes := #[] }, { accessFlags := 25, nameIndex := 294, descriptorIndex := 25, attributes := #[] }])
  fields := #[{ name := "U", type := (.object "jdk/internal/misc/Unsafe"), accessFlags := 24, slot := 0, constantValue := 0 }, { name := "BIG_ENDIAN", type := .boolean, accessFlags := 26, slot := 1, constantValue := 0 }, { name := "LOG2_ARRAY_BOOLEAN_INDEX_SCALE", type := .int, accessFlags := 25, slot := 2, constantValue := 0 }, { name := "LOG2_ARRAY_BYTE_INDEX_SCALE", type := .int, accessFlags := 25, slot := 3, constantValue := 0 }, { name := "LOG2_ARRAY_CHAR_INDEX_SCALE", type := .int, accessFlags := 25, slot := 4, constantValue := 0 }, { name := "LOG2_ARRAY_SHORT_INDEX_SCALE", type := .int, accessFlags := 25, slot := 5, constantValue := 0 }, { name := "LOG2_ARRAY_INT_INDEX_SCALE", type := .int, accessFlags := 25, slot := 6, constantValue := 0 }, { name := "LOG2_ARRAY_LONG_INDEX_SCALE", type := .int, accessFlags := 25, slot := 7, constantValue := 0 }, { name := "LOG2_ARRAY_FLOAT_INDEX_SCALE", type := .int, accessFlags := 25, slot := 8, constantValue := 0 }, { name := "LOG2_ARRAY_DOUBLE_INDEX_SCALE", type := .int, accessFlags := 25, slot := 9, constantValue := 0 }, { name := "LOG2_BYTE_BIT_SIZE", type := .int, accessFlags := 26, slot := 10, constantValue := 0 }, { name := "T_BOOLEAN", type := .int, accessFlags := 25, slot := 11, constantValue := 0 }, { name := "T_CHAR", type := .int, accessFlags := 25, slot := 12, constantValue := 0 }, { name := "T_FLOAT", type := .int, accessFlags := 25, slot := 13, constantValue := 0 }, { name := "T_DOUBLE", type := .int, accessFlags := 25, slot := 14, constantValue := 0 }, { name := "T_BYTE", type := .int, accessFlags := 25, slot := 15, constantValue := 0 }, { name := "T_SHORT", type := .int, accessFlags := 25, slot := 16, constantValue := 0 }, { name := "T_INT", type := .int, accessFlags := 25, slot := 17, constantValue := 0 }, { name := "T_LONG", type := .int, accessFlags := 25, slot := 18, constantValue := 0 }, { name := "JLA", type := (.object "jdk/internal/access/JavaLangAccess"), accessFlags := 26, slot := 19, constantValue := 0 }, { name := "SOFT_MAX_ARRAY_LENGTH", type := .int, accessFlags := 25, slot := 20, constantValue := 0 }]
  methods := #[k13m0]
  instanceTypes := #[]
  staticTypes := #[(.object "jdk/internal/misc/Unsafe"), .boolean, .int, .int, .int, .int, .int, .int, .int, .int, .int, .int, .int, .int, .int, .int, .int, .int, .int, (.object "jdk/internal/access/JavaLangAccess"), .int]
  resolved := Array.replicate 378 none
  statics := none }

def pool14 : Array CpInfo := pool [(1, u "java/lang/Cloneable"), (0, .class_ 1), (0, u "java/lang/Object"), (0, .class_ 3)] 3

/-- java/lang/Cloneable -/
def k14 : Class := { plain "java/lang/Cloneable" (some 0) with
  accessFlags := 1537
  interfaces := #[]
  cf := some (fileOf pool14 2 #[] #[] 1537 4 #[] #[])
  fields := #[]
  methods := #[]
  instanceTypes := #[]
  staticTypes := #[]
  resolved := Array.replicate 8 none
  statics := none }

/-- the primitive byte -/
def k15 : Class := { plain "byte" none with kind := .primitive 'B', accessFlags := 0x411 }
/-- [B -/
def k16 : Class := { plain "[B" (some 0) with kind := .array 15 .byte, interfaces := #[14, 2], accessFlags := 1041 }

/-- the primitive char -/
def k17 : Class := { plain "char" none with kind := .primitive 'C', accessFlags := 0x411 }
/-- [C -/
def k18 : Class := { plain "[C" (some 0) with kind := .array 17 .char, interfaces := #[14, 2], accessFlags := 1041 }

/-- the primitive int -/
def k19 : Class := { plain "int" none with kind := .primitive 'I', accessFlags := 0x411 }
/-- [I -/
def k20 : Class := { plain "[I" (some 0) with kind := .array 19 .int, interfaces := #[14, 2], accessFlags := 1041 }

def heap : Heap := #[{ cls := 7, slots := #[.long 0, .int 1, .null, .int 0, .null, .int 0, .int 0], vm := .statics 7 },
  { cls := 9, slots := #[.int 0, .int 8, .int 0, .int 1], vm := .statics 9 },
  { cls := 11, slots := #[.null, .null, .null], vm := .statics 11 }]
def classes : Array Class := #[k0, k1, k2, k3, k4, k5, k6, k7, k8, k9, k10, k11, k12, k13, k14, k15, k16, k17, k18, k19, k20]
def interned : List (Array UInt16 × Addr) := []
def slotsUsed : Nat := 14
def theMethod : MethodId := ⟨1, 1⟩
def args0 : Array Value := #[.int 0, .int 0, .int 0, .int 0, .int 0]
def aboutOver (below : List Frame) : State where
  vm := { classes := classes, interned := interned.toArray }
  heap := heap
  slotsUsed := slotsUsed
  threads := #[{ frames := .invoking theMethod args0 :: below }]
def below0 : List Frame := [.native { method := ⟨0, 0⟩, args := #[] }]
def about1 : State := aboutOver below0
def p0 : Program := .bare "" "" ""
def e0 : Env := launch0.env 0 0 0
theorem w_frames : about1.frames = Frame.invoking theMethod args0 :: below0 := rfl
set_option maxRecDepth 65536 in
theorem w_args : argsFit about1.vm theMethod args0 = true := by decide +kernel
set_option maxRecDepth 65536 in
theorem w_heap : heapFits about1 = true := by decide +kernel
set_option maxRecDepth 65536 in
theorem w_runnable : about1.curStatus? = some .runnable := by decide +kernel
set_option maxRecDepth 65536 in
theorem w_alone : about1.alone = true := by decide +kernel
set_option maxRecDepth 65536 in
theorem w_named : about1.methodNamed? x = some theMethod := by decide +kernel
set_option maxRecDepth 65536 in
theorem w_hears : about1.hears theMethod below0 = true := by decide +kernel
set_option maxRecDepth 65536 in
theorem w_ripe : about1.ripe theMethod args0 below0 = true := by decide +kernel
theorem w_running : about1.status = .running := rfl
set_option maxRecDepth 65536 in
theorem w_room : about1.hasRoom e0.platform room_1 = true :=
  launch0.hasRoom_least _ room_1 (by decide +kernel) (by decide +kernel) (by decide +kernel) (by decide +kernel) (by decide +kernel) (by decide +kernel)
theorem allAtoms_all (ts : List Jvm.Cond) (a : Array Jvm.Value) (st : Jvm.State) : (allAtoms ts).before a st = ts.all (fun c => c.before a st) := by
  induction ts with
  | nil => rfl
  | cons c t ih =>
    show (Jvm.Cond.and c (allAtoms t)).before a st = _
    rw [Jvm.Cond.before_and, ih, List.all_cons]
def words1 : List Jvm.Cond := Jvm.Cond.code x code maxLocals ret :: tables_1
/-- a 'code' word, met by the world's own term for the bytes: nothing is compared byte by byte -/
theorem code_word {y : MethodName} {bytes : ByteArray} {mx : Nat} {rt : Option FieldType} {a : Array Value} {s : State} {m : MethodId} {meth : Method} {c : Code} (h1 : s.methodNamed? y = some m) (h2 : s.vm.method? m = some meth) (h3 : meth.code = some c) (h4 : c.code = bytes)
    (h5 : (c.maxLocals == mx && c.exceptionTable.isEmpty && decide (c.maxStack ≤ mostOperands) && decide (meth.sig.returnType = rt) && !meth.locks && decide (parseMethodDescriptor y.desc = some meth.sig)) = true) : (Jvm.Cond.code y bytes mx rt).before a s = true := by
  simp only [Bool.and_eq_true, beq_iff_eq, Bool.not_eq_true', decide_eq_true_eq] at h5
  obtain ⟨⟨⟨⟨⟨g1, g2⟩, g3⟩, g4⟩, g5⟩, g6⟩ := h5
  simp [Cond.before, Cond.holds, Cond.value, h1, h2, h3, h4, g1, g2, g3, g4, g5, g6]
def isCode : Jvm.Cond → Bool
  | .code _ _ _ _ => true
  | _ => false
theorem all_split {L : List Jvm.Cond} {P : Jvm.Cond → Bool} (h1 : L.all (fun c => isCode c || P c) = true) (h2 : ∀ c ∈ L.filter isCode, P c = true) : L.all P = true := by
  refine List.all_eq_true.mpr fun c hc => ?_
  have h := List.all_eq_true.mp h1 c hc
  rcases Bool.eq_false_or_eq_true (isCode c) with hi | hi
  · exact h2 c (List.mem_filter.mpr ⟨hc, hi⟩)
  · simpa [hi] using h
set_option maxRecDepth 65536 in
theorem w_c0 : (Jvm.Cond.code x code maxLocals ret).before args0 about1 = true := code_word (m := ⟨1, 1⟩) (meth := k1m1) (c := k1c1) (by decide +kernel) rfl rfl rfl (by decide +kernel)
set_option maxRecDepth 65536 in
theorem w_c1 : (Jvm.Cond.code ({ cls := "dev/boundaryline/model/HeaderValueIsTokenPinLaw", name := "draw", desc := "(I)C" } : Jvm.MethodName) method_3_code (1 : Nat) (Option.some Jvm.ClassFile.FieldType.char)).before args0 about1 = true := code_word (m := ⟨1, 2⟩) (meth := k1m2) (c := k1c2) (by decide +kernel) rfl rfl rfl (by decide +kernel)
set_option maxRecDepth 65536 in
theorem w_c2 : (Jvm.Cond.code ({ cls := "java/lang/String", name := "<init>", desc := "([C)V" } : Jvm.MethodName) jdk_42_method_3_code (2 : Nat) (Option.none : Option Jvm.ClassFile.FieldType)).before args0 about1 = true := code_word (m := ⟨7, 1⟩) (meth := k7m1) (c := k7c1) (by decide +kernel) rfl rfl rfl (by decide +kernel)
set_option maxRecDepth 65536 in
theorem w_c3 : (Jvm.Cond.code ({ cls := "java/lang/String", name := "<init>", desc := "([CIILjava/lang/Void;)V" } : Jvm.MethodName) jdk_42_method_149_code (6 : Nat) (Option.none : Option Jvm.ClassFile.FieldType)).before args0 about1 = true := code_word (m := ⟨7, 7⟩) (meth := k7m7) (c := k7c7) (by decide +kernel) rfl rfl rfl (by decide +kernel)
set_option maxRecDepth 65536 in
theorem w_c4 : (Jvm.Cond.code ({ cls := "java/lang/Object", name := "<init>", desc := "()V" } : Jvm.MethodName) object_method_1_code (1 : Nat) (Option.none : Option Jvm.ClassFile.FieldType)).before args0 about1 = true := code_word (m := ⟨0, 0⟩) (meth := k0m0) (c := k0c0) (by decide +kernel) rfl rfl rfl (by decide +kernel)
set_option maxRecDepth 65536 in
theorem w_c5 : (Jvm.Cond.code ({ cls := "dev/boundaryline/model/HeaderValue", name := "isToken", desc := "(Ljava/lang/String;)Z" } : Jvm.MethodName) prog_32_method_6_code (3 : Nat) (Option.some Jvm.ClassFile.FieldType.boolean)).before args0 about1 = true := code_word (m := ⟨8, 0⟩) (meth := k8m0) (c := k8c0) (by decide +kernel) rfl rfl rfl (by decide +kernel)
set_option maxRecDepth 65536 in
theorem w_c6 : (Jvm.Cond.code ({ cls := "java/lang/String", name := "isEmpty", desc := "()Z" } : Jvm.MethodName) jdk_42_method_55_code (1 : Nat) (Option.some Jvm.ClassFile.FieldType.boolean)).before args0 about1 = true := code_word (m := ⟨7, 3⟩) (meth := k7m3) (c := k7c3) (by decide +kernel) rfl rfl rfl (by decide +kernel)
set_option maxRecDepth 65536 in
theorem w_c7 : (Jvm.Cond.code ({ cls := "dev/boundaryline/model/HeaderValueIsTokenPinLaw", name := "tokenChar", desc := "(C)Z" } : Jvm.MethodName) method_4_code (1 : Nat) (Option.some Jvm.ClassFile.FieldType.boolean)).before args0 about1 = true := code_word (m := ⟨1, 3⟩) (meth := k1m3) (c := k1c3) (by decide +kernel) rfl rfl rfl (by decide +kernel)
set_option maxRecDepth 65536 in
theorem w_c8 : (Jvm.Cond.code ({ cls := "java/lang/StringUTF16", name := "compress", desc := "([CII)[B" } : Jvm.MethodName) jdk_52_method_16_code (6 : Nat) (Option.some (Jvm.ClassFile.FieldType.array Jvm.ClassFile.FieldType.byte))).before args0 about1 = true := code_word (m := ⟨9, 8⟩) (meth := k9m8) (c := k9c8) (by decide +kernel) rfl rfl rfl (by decide +kernel)
set_option maxRecDepth 65536 in
theorem w_c9 : (Jvm.Cond.code ({ cls := "java/lang/StringUTF16", name := "compress", desc := "([CI[BII)I" } : Jvm.MethodName) jdk_52_method_21_code (7 : Nat) (Option.some Jvm.ClassFile.FieldType.int)).before args0 about1 = true := code_word (m := ⟨9, 9⟩) (meth := k9m9) (c := k9c9) (by decide +kernel) rfl rfl rfl (by decide +kernel)
set_option maxRecDepth 65536 in
theorem w_c10 : (Jvm.Cond.code ({ cls := "java/lang/StringUTF16", name := "coderFromArrayLen", desc := "([BI)B" } : Jvm.MethodName) jdk_52_method_15_code (2 : Nat) (Option.some Jvm.ClassFile.FieldType.byte)).before args0 about1 = true := code_word (m := ⟨9, 7⟩) (meth := k9m7) (c := k9c7) (by decide +kernel) rfl rfl rfl (by decide +kernel)
set_option maxRecDepth 65536 in
theorem w_c11 : (Jvm.Cond.code ({ cls := "java/lang/String", name := "length", desc := "()I" } : Jvm.MethodName) jdk_42_method_54_code (1 : Nat) (Option.some Jvm.ClassFile.FieldType.int)).before args0 about1 = true := code_word (m := ⟨7, 2⟩) (meth := k7m2) (c := k7c2) (by decide +kernel) rfl rfl rfl (by decide +kernel)
set_option maxRecDepth 65536 in
theorem w_c12 : (Jvm.Cond.code ({ cls := "java/lang/String", name := "coder", desc := "()B" } : Jvm.MethodName) jdk_42_method_152_code (1 : Nat) (Option.some Jvm.ClassFile.FieldType.byte)).before args0 about1 = true := code_word (m := ⟨7, 8⟩) (meth := k7m8) (c := k7c8) (by decide +kernel) rfl rfl rfl (by decide +kernel)
set_option maxRecDepth 65536 in
theorem w_c13 : (Jvm.Cond.code ({ cls := "java/lang/String", name := "charAt", desc := "(I)C" } : Jvm.MethodName) jdk_42_method_56_code (2 : Nat) (Option.some Jvm.ClassFile.FieldType.char)).before args0 about1 = true := code_word (m := ⟨7, 4⟩) (meth := k7m4) (c := k7c4) (by decide +kernel) rfl rfl rfl (by decide +kernel)
set_option maxRecDepth 65536 in
theorem w_c14 : (Jvm.Cond.code ({ cls := "java/lang/String", name := "isLatin1", desc := "()Z" } : Jvm.MethodName) jdk_42_method_154_code (1 : Nat) (Option.some Jvm.ClassFile.FieldType.boolean)).before args0 about1 = true := code_word (m := ⟨7, 9⟩) (meth := k7m9) (c := k7c9) (by decide +kernel) rfl rfl rfl (by decide +kernel)
set_option maxRecDepth 65536 in
theorem w_c15 : (Jvm.Cond.code ({ cls := "java/lang/StringLatin1", name := "charAt", desc := "([BI)C" } : Jvm.MethodName) jdk_43_method_2_code (2 : Nat) (Option.some Jvm.ClassFile.FieldType.char)).before args0 about1 = true := code_word (m := ⟨10, 1⟩) (meth := k10m1) (c := k10c1) (by decide +kernel) rfl rfl rfl (by decide +kernel)
set_option maxRecDepth 65536 in
theorem w_c16 : (Jvm.Cond.code ({ cls := "java/lang/String", name := "checkIndex", desc := "(II)V" } : Jvm.MethodName) jdk_42_method_155_code (2 : Nat) (Option.none : Option Jvm.ClassFile.FieldType)).before args0 about1 = true := code_word (m := ⟨7, 10⟩) (meth := k7m10) (c := k7c10) (by decide +kernel) rfl rfl rfl (by decide +kernel)
set_option maxRecDepth 65536 in
theorem w_c17 : (Jvm.Cond.code ({ cls := "jdk/internal/util/Preconditions", name := "checkIndex", desc := "(IILjava/util/function/BiFunction;)I" } : Jvm.MethodName) jdk_41_method_11_code (3 : Nat) (Option.some Jvm.ClassFile.FieldType.int)).before args0 about1 = true := code_word (m := ⟨11, 1⟩) (meth := k11m1) (c := k11c1) (by decide +kernel) rfl rfl rfl (by decide +kernel)
set_option maxRecDepth 65536 in
theorem w_c18 : (Jvm.Cond.code ({ cls := "dev/boundaryline/model/HeaderValue", name := "isAsciiAlphanumeric", desc := "(C)Z" } : Jvm.MethodName) prog_32_method_7_code (1 : Nat) (Option.some Jvm.ClassFile.FieldType.boolean)).before args0 about1 = true := code_word (m := ⟨8, 1⟩) (meth := k8m1) (c := k8c1) (by decide +kernel) rfl rfl rfl (by decide +kernel)
set_option maxRecDepth 65536 in
theorem w_c19 : (Jvm.Cond.code ({ cls := "java/lang/String", name := "indexOf", desc := "(I)I" } : Jvm.MethodName) jdk_42_method_79_code (2 : Nat) (Option.some Jvm.ClassFile.FieldType.int)).before args0 about1 = true := code_word (m := ⟨7, 5⟩) (meth := k7m5) (c := k7c5) (by decide +kernel) rfl rfl rfl (by decide +kernel)
set_option maxRecDepth 65536 in
theorem w_c20 : (Jvm.Cond.code ({ cls := "java/lang/String", name := "indexOf", desc := "(II)I" } : Jvm.MethodName) jdk_42_method_80_code (3 : Nat) (Option.some Jvm.ClassFile.FieldType.int)).before args0 about1 = true := code_word (m := ⟨7, 6⟩) (meth := k7m6) (c := k7c6) (by decide +kernel) rfl rfl rfl (by decide +kernel)
set_option maxRecDepth 65536 in
theorem w_c21 : (Jvm.Cond.code ({ cls := "java/lang/StringLatin1", name := "indexOf", desc := "([BIII)I" } : Jvm.MethodName) jdk_43_method_22_code (4 : Nat) (Option.some Jvm.ClassFile.FieldType.int)).before args0 about1 = true := code_word (m := ⟨10, 3⟩) (meth := k10m3) (c := k10c3) (by decide +kernel) rfl rfl rfl (by decide +kernel)
set_option maxRecDepth 65536 in
theorem w_c22 : (Jvm.Cond.code ({ cls := "java/lang/StringLatin1", name := "canEncode", desc := "(I)Z" } : Jvm.MethodName) jdk_43_method_4_code (1 : Nat) (Option.some Jvm.ClassFile.FieldType.boolean)).before args0 about1 = true := code_word (m := ⟨10, 2⟩) (meth := k10m2) (c := k10c2) (by decide +kernel) rfl rfl rfl (by decide +kernel)
set_option maxRecDepth 65536 in
theorem w_c23 : (Jvm.Cond.code ({ cls := "java/lang/Math", name := "max", desc := "(II)I" } : Jvm.MethodName) jdk_29_method_65_code (2 : Nat) (Option.some Jvm.ClassFile.FieldType.int)).before args0 about1 = true := code_word (m := ⟨12, 1⟩) (meth := k12m1) (c := k12c1) (by decide +kernel) rfl rfl rfl (by decide +kernel)
set_option maxRecDepth 65536 in
theorem w_c24 : (Jvm.Cond.code ({ cls := "java/lang/Math", name := "min", desc := "(II)I" } : Jvm.MethodName) jdk_29_method_69_code (2 : Nat) (Option.some Jvm.ClassFile.FieldType.int)).before args0 about1 = true := code_word (m := ⟨12, 2⟩) (meth := k12m2) (c := k12c2) (by decide +kernel) rfl rfl rfl (by decide +kernel)
set_option maxRecDepth 65536 in
theorem w_c25 : (Jvm.Cond.code ({ cls := "java/lang/StringLatin1", name := "indexOfChar", desc := "([BIII)I" } : Jvm.MethodName) jdk_43_method_23_code (6 : Nat) (Option.some Jvm.ClassFile.FieldType.int)).before args0 about1 = true := code_word (m := ⟨10, 4⟩) (meth := k10m4) (c := k10c4) (by decide +kernel) rfl rfl rfl (by decide +kernel)
set_option maxRecDepth 65536 in
theorem w_c26 : (Jvm.Cond.code ({ cls := "java/lang/StringUTF16", name := "toBytes", desc := "([CII)[B" } : Jvm.MethodName) jdk_52_method_14_code (5 : Nat) (Option.some (Jvm.ClassFile.FieldType.array Jvm.ClassFile.FieldType.byte))).before args0 about1 = true := code_word (m := ⟨9, 6⟩) (meth := k9m6) (c := k9c6) (by decide +kernel) rfl rfl rfl (by decide +kernel)
set_option maxRecDepth 65536 in
theorem w_c27 : (Jvm.Cond.code ({ cls := "java/lang/StringUTF16", name := "newBytesFor", desc := "(I)[B" } : Jvm.MethodName) jdk_52_method_2_code (1 : Nat) (Option.some (Jvm.ClassFile.FieldType.array Jvm.ClassFile.FieldType.byte))).before args0 about1 = true := code_word (m := ⟨9, 1⟩) (meth := k9m1) (c := k9c1) (by decide +kernel) rfl rfl rfl (by decide +kernel)
set_option maxRecDepth 65536 in
theorem w_c28 : (Jvm.Cond.code ({ cls := "java/lang/StringUTF16", name := "newBytesLength", desc := "(I)I" } : Jvm.MethodName) jdk_52_method_3_code (1 : Nat) (Option.some Jvm.ClassFile.FieldType.int)).before args0 about1 = true := code_word (m := ⟨9, 2⟩) (meth := k9m2) (c := k9c2) (by decide +kernel) rfl rfl rfl (by decide +kernel)
set_option maxRecDepth 65536 in
theorem w_c29 : (Jvm.Cond.code ({ cls := "java/lang/StringUTF16", name := "putChar", desc := "([BII)V" } : Jvm.MethodName) jdk_52_method_4_code (3 : Nat) (Option.none : Option Jvm.ClassFile.FieldType)).before args0 about1 = true := code_word (m := ⟨9, 3⟩) (meth := k9m3) (c := k9c3) (by decide +kernel) rfl rfl rfl (by decide +kernel)
set_option maxRecDepth 65536 in
theorem w_c30 : (Jvm.Cond.code ({ cls := "java/lang/StringUTF16", name := "getChar", desc := "([BI)C" } : Jvm.MethodName) jdk_52_method_5_code (2 : Nat) (Option.some Jvm.ClassFile.FieldType.char)).before args0 about1 = true := code_word (m := ⟨9, 4⟩) (meth := k9m4) (c := k9c4) (by decide +kernel) rfl rfl rfl (by decide +kernel)
set_option maxRecDepth 65536 in
theorem w_c31 : (Jvm.Cond.code ({ cls := "java/lang/StringUTF16", name := "charAt", desc := "([BI)C" } : Jvm.MethodName) jdk_52_method_83_code (2 : Nat) (Option.some Jvm.ClassFile.FieldType.char)).before args0 about1 = true := code_word (m := ⟨9, 10⟩) (meth := k9m10) (c := k9c10) (by decide +kernel) rfl rfl rfl (by decide +kernel)
set_option maxRecDepth 65536 in
theorem w_c32 : (Jvm.Cond.code ({ cls := "java/lang/StringUTF16", name := "checkIndex", desc := "(I[B)V" } : Jvm.MethodName) jdk_52_method_91_code (2 : Nat) (Option.none : Option Jvm.ClassFile.FieldType)).before args0 about1 = true := code_word (m := ⟨9, 11⟩) (meth := k9m11) (c := k9c11) (by decide +kernel) rfl rfl rfl (by decide +kernel)
set_option maxRecDepth 65536 in
theorem w_c33 : (Jvm.Cond.code ({ cls := "java/lang/StringUTF16", name := "length", desc := "([B)I" } : Jvm.MethodName) jdk_52_method_6_code (1 : Nat) (Option.some Jvm.ClassFile.FieldType.int)).before args0 about1 = true := code_word (m := ⟨9, 5⟩) (meth := k9m5) (c := k9c5) (by decide +kernel) rfl rfl rfl (by decide +kernel)
def codes1 : List Jvm.Cond := [Jvm.Cond.code x code maxLocals ret, Jvm.Cond.code ({ cls := "dev/boundaryline/model/HeaderValueIsTokenPinLaw", name := "draw", desc := "(I)C" } : Jvm.MethodName) method_3_code (1 : Nat) (Option.some Jvm.ClassFile.FieldType.char), Jvm.Cond.code ({ cls := "java/lang/String", name := "<init>", desc := "([C)V" } : Jvm.MethodName) jdk_42_method_3_code (2 : Nat) (Option.none : Option Jvm.ClassFile.FieldType), Jvm.Cond.code ({ cls := "java/lang/String", name := "<init>", desc := "([CIILjava/lang/Void;)V" } : Jvm.MethodName) jdk_42_method_149_code (6 : Nat) (Option.none : Option Jvm.ClassFile.FieldType), Jvm.Cond.code ({ cls := "java/lang/Object", name := "<init>", desc := "()V" } : Jvm.MethodName) object_method_1_code (1 : Nat) (Option.none : Option Jvm.ClassFile.FieldType), Jvm.Cond.code ({ cls := "dev/boundaryline/model/HeaderValue", name := "isToken", desc := "(Ljava/lang/String;)Z" } : Jvm.MethodName) prog_32_method_6_code (3 : Nat) (Option.some Jvm.ClassFile.FieldType.boolean), Jvm.Cond.code ({ cls := "java/lang/String", name := "isEmpty", desc := "()Z" } : Jvm.MethodName) jdk_42_method_55_code (1 : Nat) (Option.some Jvm.ClassFile.FieldType.boolean), Jvm.Cond.code ({ cls := "dev/boundaryline/model/HeaderValueIsTokenPinLaw", name := "tokenChar", desc := "(C)Z" } : Jvm.MethodName) method_4_code (1 : Nat) (Option.some Jvm.ClassFile.FieldType.boolean), Jvm.Cond.code ({ cls := "java/lang/StringUTF16", name := "compress", desc := "([CII)[B" } : Jvm.MethodName) jdk_52_method_16_code (6 : Nat) (Option.some (Jvm.ClassFile.FieldType.array Jvm.ClassFile.FieldType.byte)), Jvm.Cond.code ({ cls := "java/lang/StringUTF16", name := "compress", desc := "([CI[BII)I" } : Jvm.MethodName) jdk_52_method_21_code (7 : Nat) (Option.some Jvm.ClassFile.FieldType.int), Jvm.Cond.code ({ cls := "java/lang/StringUTF16", name := "coderFromArrayLen", desc := "([BI)B" } : Jvm.MethodName) jdk_52_method_15_code (2 : Nat) (Option.some Jvm.ClassFile.FieldType.byte), Jvm.Cond.code ({ cls := "java/lang/String", name := "length", desc := "()I" } : Jvm.MethodName) jdk_42_method_54_code (1 : Nat) (Option.some Jvm.ClassFile.FieldType.int), Jvm.Cond.code ({ cls := "java/lang/String", name := "coder", desc := "()B" } : Jvm.MethodName) jdk_42_method_152_code (1 : Nat) (Option.some Jvm.ClassFile.FieldType.byte), Jvm.Cond.code ({ cls := "java/lang/String", name := "charAt", desc := "(I)C" } : Jvm.MethodName) jdk_42_method_56_code (2 : Nat) (Option.some Jvm.ClassFile.FieldType.char), Jvm.Cond.code ({ cls := "java/lang/String", name := "isLatin1", desc := "()Z" } : Jvm.MethodName) jdk_42_method_154_code (1 : Nat) (Option.some Jvm.ClassFile.FieldType.boolean), Jvm.Cond.code ({ cls := "java/lang/StringLatin1", name := "charAt", desc := "([BI)C" } : Jvm.MethodName) jdk_43_method_2_code (2 : Nat) (Option.some Jvm.ClassFile.FieldType.char), Jvm.Cond.code ({ cls := "java/lang/String", name := "checkIndex", desc := "(II)V" } : Jvm.MethodName) jdk_42_method_155_code (2 : Nat) (Option.none : Option Jvm.ClassFile.FieldType), Jvm.Cond.code ({ cls := "jdk/internal/util/Preconditions", name := "checkIndex", desc := "(IILjava/util/function/BiFunction;)I" } : Jvm.MethodName) jdk_41_method_11_code (3 : Nat) (Option.some Jvm.ClassFile.FieldType.int), Jvm.Cond.code ({ cls := "dev/boundaryline/model/HeaderValue", name := "isAsciiAlphanumeric", desc := "(C)Z" } : Jvm.MethodName) prog_32_method_7_code (1 : Nat) (Option.some Jvm.ClassFile.FieldType.boolean), Jvm.Cond.code ({ cls := "java/lang/String", name := "indexOf", desc := "(I)I" } : Jvm.MethodName) jdk_42_method_79_code (2 : Nat) (Option.some Jvm.ClassFile.FieldType.int), Jvm.Cond.code ({ cls := "java/lang/String", name := "indexOf", desc := "(II)I" } : Jvm.MethodName) jdk_42_method_80_code (3 : Nat) (Option.some Jvm.ClassFile.FieldType.int), Jvm.Cond.code ({ cls := "java/lang/StringLatin1", name := "indexOf", desc := "([BIII)I" } : Jvm.MethodName) jdk_43_method_22_code (4 : Nat) (Option.some Jvm.ClassFile.FieldType.int), Jvm.Cond.code ({ cls := "java/lang/StringLatin1", name := "canEncode", desc := "(I)Z" } : Jvm.MethodName) jdk_43_method_4_code (1 : Nat) (Option.some Jvm.ClassFile.FieldType.boolean), Jvm.Cond.code ({ cls := "java/lang/Math", name := "max", desc := "(II)I" } : Jvm.MethodName) jdk_29_method_65_code (2 : Nat) (Option.some Jvm.ClassFile.FieldType.int), Jvm.Cond.code ({ cls := "java/lang/Math", name := "min", desc := "(II)I" } : Jvm.MethodName) jdk_29_method_69_code (2 : Nat) (Option.some Jvm.ClassFile.FieldType.int), Jvm.Cond.code ({ cls := "java/lang/StringLatin1", name := "indexOfChar", desc := "([BIII)I" } : Jvm.MethodName) jdk_43_method_23_code (6 : Nat) (Option.some Jvm.ClassFile.FieldType.int), Jvm.Cond.code ({ cls := "java/lang/StringUTF16", name := "toBytes", desc := "([CII)[B" } : Jvm.MethodName) jdk_52_method_14_code (5 : Nat) (Option.some (Jvm.ClassFile.FieldType.array Jvm.ClassFile.FieldType.byte)), Jvm.Cond.code ({ cls := "java/lang/StringUTF16", name := "newBytesFor", desc := "(I)[B" } : Jvm.MethodName) jdk_52_method_2_code (1 : Nat) (Option.some (Jvm.ClassFile.FieldType.array Jvm.ClassFile.FieldType.byte)), Jvm.Cond.code ({ cls := "java/lang/StringUTF16", name := "newBytesLength", desc := "(I)I" } : Jvm.MethodName) jdk_52_method_3_code (1 : Nat) (Option.some Jvm.ClassFile.FieldType.int), Jvm.Cond.code ({ cls := "java/lang/StringUTF16", name := "putChar", desc := "([BII)V" } : Jvm.MethodName) jdk_52_method_4_code (3 : Nat) (Option.none : Option Jvm.ClassFile.FieldType), Jvm.Cond.code ({ cls := "java/lang/StringUTF16", name := "getChar", desc := "([BI)C" } : Jvm.MethodName) jdk_52_method_5_code (2 : Nat) (Option.some Jvm.ClassFile.FieldType.char), Jvm.Cond.code ({ cls := "java/lang/StringUTF16", name := "charAt", desc := "([BI)C" } : Jvm.MethodName) jdk_52_method_83_code (2 : Nat) (Option.some Jvm.ClassFile.FieldType.char), Jvm.Cond.code ({ cls := "java/lang/StringUTF16", name := "checkIndex", desc := "(I[B)V" } : Jvm.MethodName) jdk_52_method_91_code (2 : Nat) (Option.none : Option Jvm.ClassFile.FieldType), Jvm.Cond.code ({ cls := "java/lang/StringUTF16", name := "length", desc := "([B)I" } : Jvm.MethodName) jdk_52_method_6_code (1 : Nat) (Option.some Jvm.ClassFile.FieldType.int)]
set_option maxRecDepth 65536 in
theorem codes_eq : words1.filter isCode = codes1 := rfl
theorem w_codes : ∀ c ∈ words1.filter isCode, c.before args0 about1 = true := by
  rw [codes_eq]
  intro c hc
  simp only [codes1, List.mem_cons, List.not_mem_nil, or_false] at hc
  rcases hc with rfl | rfl | rfl | rfl | rfl | rfl | rfl | rfl | rfl | rfl | rfl | rfl | rfl | rfl | rfl | rfl | rfl | rfl | rfl | rfl | rfl | rfl | rfl | rfl | rfl | rfl | rfl | rfl | rfl | rfl | rfl | rfl | rfl | rfl
  · exact w_c0
  · exact w_c1
  · exact w_c2
  · exact w_c3
  · exact w_c4
  · exact w_c5
  · exact w_c6
  · exact w_c7
  · exact w_c8
  · exact w_c9
  · exact w_c10
  · exact w_c11
  · exact w_c12
  · exact w_c13
  · exact w_c14
  · exact w_c15
  · exact w_c16
  · exact w_c17
  · exact w_c18
  · exact w_c19
  · exact w_c20
  · exact w_c21
  · exact w_c22
  · exact w_c23
  · exact w_c24
  · exact w_c25
  · exact w_c26
  · exact w_c27
  · exact w_c28
  · exact w_c29
  · exact w_c30
  · exact w_c31
  · exact w_c32
  · exact w_c33
set_option maxRecDepth 65536 in
theorem w_t1 : (words1.take 24).all (fun c => isCode c || c.before args0 about1) = true := by decide +kernel
set_option maxRecDepth 65536 in
theorem w_t2 : ((words1.drop 24).take 24).all (fun c => isCode c || c.before args0 about1) = true := by decide +kernel
set_option maxRecDepth 65536 in
theorem w_t3 : (((words1.drop 24).drop 24).take 24).all (fun c => isCode c || c.before args0 about1) = true := by decide +kernel
set_option maxRecDepth 65536 in
theorem w_t4 : ((((words1.drop 24).drop 24).drop 24).take 24).all (fun c => isCode c || c.before args0 about1) = true := by decide +kernel
set_option maxRecDepth 65536 in
theorem w_t5 : (((((words1.drop 24).drop 24).drop 24).drop 24).take 24).all (fun c => isCode c || c.before args0 about1) = true := by decide +kernel
set_option maxRecDepth 65536 in
theorem w_t6 : (((((words1.drop 24).drop 24).drop 24).drop 24).drop 24).all (fun c => isCode c || c.before args0 about1) = true := by decide +kernel
theorem w_tables : (allAtoms (Jvm.Cond.code x code maxLocals ret :: tables_1)).before args0 about1 = true := by
  rw [allAtoms_all]
  show words1.all (fun c => c.before args0 about1) = true
  refine all_split ?_ w_codes
  rw [← List.take_append_drop 24 words1, List.all_append, w_t1, ← List.take_append_drop 24 (words1.drop 24), List.all_append, w_t2, ← List.take_append_drop 24 ((words1.drop 24).drop 24), List.all_append, w_t3, ← List.take_append_drop 24 (((words1.drop 24).drop 24).drop 24), List.all_append, w_t4, ← List.take_append_drop 24 ((((words1.drop 24).drop 24).drop 24).drop 24), List.all_append, w_t5, w_t6]
  rfl
set_option maxRecDepth 65536 in
theorem w_rest : rest_1_c.before args0 about1 = true := by decide +kernel
set_option maxRecDepth 65536 in
theorem w_case : (Jvm.Cond.and given_1 narrow_1).before args0 about1 = true := by decide +kernel
set_option maxRecDepth 65536 in
theorem w_consts : constsHeld consts_1 about1 := Jvm.Lit.constsHeldB_iff.mp (by decide +kernel)
theorem w_applies : (headSpec (Jvm.Cond.code x code maxLocals ret :: tables_1) room_1).applies x e0.platform about1 = true :=
  (Spec.applies_iff w_frames).mpr ⟨w_running, w_runnable, w_alone, w_named, w_hears, w_ripe, w_room, w_tables⟩
theorem atStart : AtStart classFile x code maxLocals ret World_1 tables_1 room_1 Calls_1 rest_1 Pre_1 launch0 p0 e0 about1 theMethod args0 below0 :=
  ⟨lists_1, trivial, launch0.admits_env _ _ _, launch0.least_env, fairChoices_fair.cas, fairChoices_fair.clock, w_frames, w_args, w_heap, w_applies, ⟨w_consts, trivial⟩, w_rest, w_case⟩
end start1
theorem witness_1 : WitnessClaimed_1 := ⟨start1.p0, start1.e0, start1.about1, start1.theMethod, start1.args0, start1.below0, start1.atStart⟩
end Jvm.Pilot.@@N@@
